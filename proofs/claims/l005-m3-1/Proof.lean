import JvmDerived
import JvmDerived.Pilot.@@N@@Statement
import JvmDerived.Pilot.@@N@@Code
set_option linter.unusedVariables false
set_option linter.unusedSimpArgs false
set_option maxRecDepth 65536
set_option maxHeartbeats 40000000
namespace Jvm.Pilot.@@N@@
open Jvm Jvm.ClassFile Sem Op Lib Jvm.Free Jvm.Stand Jvm.LawKit Jvm.RoadKit Bundle Jvm.Pilot.@@N@@.Jvm.D
section OwnHead
variable {p:Program}{l:Launch}{e:Env}{R:Room}{s:State}{m:MethodId}{args:Array Value}{below:List Frame}{meth:Method}{c:Code}{T T':State}{locs:List Loc}{cells slots:Nat}{Q:Option Value→Heap→List Loc→Prop}{k n:Nat}{g:JFrame}
def o_f (p:Program)(e:Env)(below:List Frame)(Fin:Outcome→State→Prop)(T:State)(g:JFrame):Prop:=
 ∃s₂ o,Steps p.tables e below (T.setTop g) s₂∧s₂.status= .running∧Ended s₂ below o∧Fin o s₂
def o_V (s:State)(Q:Option Value→Heap→List Loc→Prop)(k n:Nat)(o:Outcome)(t:State):Prop:= ∃v L,o= .returned v∧Q v t.heap L∧FrameEnd s o t L k n
theorem o_d9 {Fin:Outcome→State→Prop}(h:o_f p e below Fin T g): ∃s₂ o,Steps p.tables e below (T.setTop g) s₂∧s₂.status= .running∧Ended s₂ below o∧Fin o s₂:=h
theorem o_d_ {Fin:Outcome→State→Prop}(g':JFrame)(h: ∀{t},Steps p.tables e below (T.setTop g') t→Steps p.tables e below (T.setTop g) t)(w:o_f p e below Fin T g'):o_f p e below Fin T g:=by
 obtain ⟨s₂,o,h1,r⟩:=w;exact ⟨s₂,o,h h1,r⟩
theorem o_i {Fin:Outcome→State→Prop}(g':JFrame)(h: ∀t,Steps p.tables e below (T'.setTop g') t→Steps p.tables e below (T.setTop g) t)(w:o_f p e below Fin T' g'):o_f p e below Fin T g:=by
 obtain ⟨s₂,o,h1,r⟩:=w;exact ⟨s₂,o,h _ h1,r⟩
theorem o_bC {Fin:Outcome→State→Prop}(g':JFrame)(h:Steps p.tables e below (T.setTop g) (T'.setTop g'))(w:o_f p e below Fin T' g'):o_f p e below Fin T g:=by
 obtain ⟨s₂,o,h1,r⟩:=w;exact ⟨s₂,o,h.trans h1,r⟩
theorem o_bX {v:Option Value}{pc:Nat}{Ls:Array Slot}{st:List Value}(X:Stand p l e R s m args below meth c T locs cells slots)(hv:meth.sig.returnType=none→v=none)(w:meth.locks=false)(hk:cells≤k)(hn:slots≤n)(hQ:Q v T.heap locs)
  (hs: ∀fs,(∀(f:JFrame) (acts:List Action),f.method=m→f.locked=none→f.entered= []→(doReturn e (T.setTop f) acts v).1=T.setFrames fs)→Steps p.tables e below (T.setTop (mkF m pc Ls st)) (T.setFrames fs)):o_f p e below (o_V s Q k n) T (mkF m pc Ls st):=by
 obtain ⟨fs,hr,hrun,hended,hW,hsame⟩:=X.leave (v:=v) hv w
 exact ⟨_,_,hs fs hr,hrun,hended,_,_,rfl,hQ,⟨_,rfl⟩,hW,hsame.mono hk hn⟩
theorem o_cm (X:Stand p l e R s m args below meth c T locs cells slots)(hx:p.tables.exec=Jvm.exec){pc:Nat}{Ls:Array Slot}{z:Int32}{t:FieldType}{rest:List Value}(w:meth.sig.returnType=some t)(ht:t= .boolean∨t= .byte∨t= .char∨t= .short)(B:meth.locks=false)
  (hd:decode c.code pc= .ok (.ireturn,1)) (hk:cells≤k) (hn:slots≤n) (hQ:Q (some (.int (nar t z))) T.heap locs):o_f p e below (o_V s Q k n) T (mkF m pc Ls (.int z::rest)):=
 o_bX X (fun h=>by rw[w] at h;cases h) B hk hn hQ fun _ hr=>retN X hx w ht hd hr
theorem o_go (X:Stand p l e R s m args below meth c T locs cells slots)(hx:p.tables.exec=Jvm.exec){pc:Nat}{Ls:Array Slot}{z:Int32}{rest:List Value}(w:meth.sig.returnType=some .int)(B:meth.locks=false)
  (hd:decode c.code pc= .ok (.ireturn,1)) (hk:cells≤k) (hn:slots≤n) (hQ:Q (some (.int z)) T.heap locs):o_f p e below (o_V s Q k n) T (mkF m pc Ls (.int z::rest)):=
 o_bX X (fun h=>by rw[w] at h;cases h) B hk hn hQ fun _ hr=>retOut X hx w rfl (Or.inl ⟨rfl,Or.inl rfl,_,rfl⟩) hd hr
theorem o_gp (X:Stand p l e R s m args below meth c T locs cells slots)(hx:p.tables.exec=Jvm.exec){pc:Nat}{Ls:Array Slot}{z:Int64}{rest:List Value}(w:meth.sig.returnType=some .long)(B:meth.locks=false)
  (hd:decode c.code pc= .ok (.lreturn,1)) (hk:cells≤k) (hn:slots≤n) (hQ:Q (some (.long z)) T.heap locs):o_f p e below (o_V s Q k n) T (mkF m pc Ls (.long z::rest)):=
 o_bX X (fun h=>by rw[w] at h;cases h) B hk hn hQ fun _ hr=>retOut X hx w rfl (Or.inr (Or.inl ⟨rfl,rfl,_,rfl⟩)) hd hr
theorem o_d' (X:Stand p l e R s m args below meth c T locs cells slots)(hx:p.tables.exec=Jvm.exec){pc:Nat}{Ls:Array Slot}{w:Value}{t:FieldType}{rest:List Value}(B:meth.sig.returnType=some t)(ht:t.isReference=true)(F:meth.locks=false)
  (hd:decode c.code pc= .ok (.areturn,1)) (hw:w.isRef=true) (hk:cells≤k) (hn:slots≤n) (hQ:Q (some w) T.heap locs):o_f p e below (o_V s Q k n) T (mkF m pc Ls (w::rest)):=
 o_bX X (fun h=>by rw[B] at h;cases h) F hk hn hQ fun _ hr=>retOut X hx B (by cases t<;>first|rfl|cases ht) (Or.inr (Or.inr (Or.inr (Or.inr ⟨rfl,ht,hw⟩)))) hd hr
theorem o_gq (X:Stand p l e R s m args below meth c T locs cells slots)(hx:p.tables.exec=Jvm.exec){pc:Nat}{Ls:Array Slot}(w:meth.sig.returnType=none)(B:meth.locks=false)
  (hd:decode c.code pc= .ok (.return_,1)) (hk:cells≤k) (hn:slots≤n) (hQ:Q none T.heap locs):o_f p e below (o_V s Q k n) T (mkF m pc Ls []):=
 o_bX X (fun _=>rfl) B hk hn hQ fun _ hr=>X.returnOut hx w hd hr
theorem o_ea (x:Int32): ¬x<x:=Int32.lt_irrefl
end OwnHead
section OwnWords
variable {args:Array Value}{s:State}{t:Term}{C n d:String}{a:Addr}
theorem o_eb {k:Int32}(ht:t.eval args s none [] s=some (.ref a))(h:(Jvm.Cond.eq (Term.field t C n d) (Term.int k)).value args s none s []=some true):Fld s s.heap a C n d (.int k):=by
 obtain ⟨x,y,e1,e2,-,k2⟩:=cmp_v (Or.inl h)
 have q:y= .int k:=Option.some.inj (e2.symm.trans (Term.int_eval k))
 subst q
 obtain ⟨z,rfl⟩:=k2
 have q:=gotT (Cond.eq_ints e1 (Term.int_eval k)) h
 subst q
 exact Fld.start ((fld_at ht).symm.trans e1)
end OwnWords
section OwnWide
variable {p:Program}{l:Launch}{e:Env}{R:Room}{s:State}{m:MethodId}{args:Array Value}{below:List Frame}{meth:Method}{c:Code}{T T':State}{locs:List Loc}{cells slots:Nat}{Q:Option Value→Heap→List Loc→Prop}{k n:Nat}{g:JFrame}{vm₁:Vm}{k1:Nat}
end OwnWide
section OwnCalls
variable {p:Program}{l:Launch}{e:Env}{R:Room}{s:State}{m:MethodId}{args:Array Value}{below:List Frame}{meth:Method}{c:Code}{T:State}{locs:List Loc}{cells slots:Nat}
theorem o_bn (X:Stand p l e R s m args below meth c T locs cells slots)(hexec:p.tables.exec=Jvm.exec){own:String}{index:Nat}{y:MethodName}{bytes:ByteArray}{maxL:Nat}{ret:Option FieldType}
  (w:s.vm.findClass own=some m.cls) (hlink:(Jvm.Cond.methodLink own index y).before args s=true) (hstat:(Jvm.Cond.static y).before args s=true) (hinit:(Jvm.Cond.initialized y.cls).before args s=true)
  (hcode:(Jvm.Cond.code y bytes maxL ret).before args s=true) (hy:y.cls≠"java/lang/invoke/MethodHandle"∧y.cls≠"java/lang/invoke/VarHandle")
  {W:Nat} {as':Array Value} {h:Heap} {rc rs:Nat} {Q:Option Value→Heap→List Loc→Prop} (hK:Back l R p e below s args y 3 W (fun A a=>a=as'∧A.U.heap=h∧A.cells+rc≤R.cells∧A.slots+rs≤R.slots) (fun A _ v B=> ∃L,Q v B.U.heap L∧B.locs=A.locs++L∧B.cells=A.cells+rc∧B.slots=A.slots+rs))
  {g:JFrame} (hg:g.method=m) (hsize:g.locals.size=c.maxLocals) {argsL rest:List Value} (hlen: ∀sig,parseMethodDescriptor y.desc=some sig→argsL.length=sig.parameters.length)
  (hstack:g.stack=argsL.reverse++rest) (hW:2*g.monitorRoom+(rest.map fun v=>v.category).sum≤W) (hdg:decode c.code g.pc= .ok (.invokestatic index,3))
  (ha:argsL.toArray=as') (eT:T.heap=h) {kc ks:Nat} (hkc:cells+rc=kc) (hks:slots+rs=ks) (hc:kc≤R.cells) (hs:ks≤R.slots):
  ∃(v:Option Value) (T':State) (Lc:List Loc),Stand p l e R s m args below meth c T' (locs++Lc) kc ks∧Q v T'.heap Lc∧ ∀target,Steps p.tables e below (T'.setTop {g with pc:=g.pc+3,stack:=v.toList++rest}) target→Steps p.tables e below (T.setTop g) target:=by
 subst hkc hks
 obtain ⟨v,vm₁,⟨T',L',k',n'⟩,-,X',⟨Lc,hQ,l',y',z'⟩,st⟩:=Jvm.LawKit.callS X hexec w hlink hstat hinit hcode hy hK hg hsize hlen hstack hW hdg (fun _ _=>⟨ha,eT,hc,hs⟩)
 dsimp only[Pt.U,Pt.locs,Pt.cells,Pt.slots] at X' l' y' z' st hQ
 subst l' y' z'
 exact ⟨v,T',Lc,X',hQ,st⟩
theorem o_gr (X:Stand p l e R s m args below meth c T locs cells slots)(hexec:p.tables.exec=Jvm.exec){own:String}{index:Nat}{y:MethodName}(hy1:y.name="<init>")
  (w:s.vm.findClass own=some m.cls) (hlink:(Jvm.Cond.methodLink own index y).before args s=true) (hinst:(Jvm.Cond.instanceMethod y).before args s=true)
  {bytes:ByteArray} {maxL:Nat} (hcode:(Jvm.Cond.code y bytes maxL none).before args s=true) (hy:y.cls≠"java/lang/invoke/MethodHandle"∧y.cls≠"java/lang/invoke/VarHandle")
  {W:Nat} {as':Array Value} {h:Heap} {rc rs:Nat} {Q:Option Value→Heap→List Loc→Prop} (hK:Back l R p e below s args y 3 W (fun A a=>a=as'∧A.U.heap=h∧A.cells+rc≤R.cells∧A.slots+rs≤R.slots) (fun A _ v B=> ∃L,Q v B.U.heap L∧B.locs=A.locs++L∧B.cells=A.cells+rc∧B.slots=A.slots+rs))
  {g:JFrame} (hg:g.method=m) (hsize:g.locals.size=c.maxLocals) {a:Addr} {argsL rest:List Value}
  (hlen: ∀sig,parseMethodDescriptor y.desc=some sig→argsL.length=sig.parameters.length) (hstack:g.stack=argsL.reverse++ .ref a::rest) (hW:2*g.monitorRoom+(rest.map fun v=>v.category).sum≤W)
  (hdg:decode c.code g.pc= .ok (.invokespecial index,3)) (ha:(Value.ref a::argsL).toArray=as') (eT:T.heap=h) {kc ks:Nat} (hkc:cells+rc=kc) (hks:slots+rs=ks) (hc:kc≤R.cells) (hs:ks≤R.slots):
  ∃(v:Option Value) (T':State) (Lc:List Loc),Stand p l e R s m args below meth c T' (locs++Lc) kc ks∧Q v T'.heap Lc∧Steps p.tables e below (T.setTop g) (T'.setTop {g with pc:=g.pc+3,stack:=v.toList++rest}):=by
 subst hkc hks
 obtain ⟨v,vm₁,⟨T',L',k',n'⟩,-,X',⟨Lc,hQ,l',y',z'⟩,st⟩:=X.specialBack hexec hy1 w hlink hinst hcode hy hK hg hsize (Steps.refl _) hlen hstack hW hdg (fun _ _=>⟨ha,eT,hc,hs⟩)
 dsimp only[Pt.U,Pt.locs,Pt.cells,Pt.slots] at X' l' y' z' st hQ
 subst l' y' z'
 exact ⟨v,T',Lc,X',hQ,st⟩
theorem o_bY (X:Stand p l e R s m args below meth c T locs cells slots)(hexec:p.tables.exec=Jvm.exec){own C:String}{index:Nat}{y z:MethodName}
  (w:s.vm.findClass own=some m.cls) (hlink:(Jvm.Cond.methodLink own index y).before args s=true) (hdecl:(Jvm.Cond.declares y).before args s=true) (hnf:NotFace s y)
  (hsel:(Jvm.Cond.selects C y z).before args s=true) (hinst:(Jvm.Cond.instanceMethod z).before args s=true) (hy:y.cls≠"java/lang/invoke/MethodHandle"∧y.cls≠"java/lang/invoke/VarHandle")
  {W:Nat} {as':Array Value} {h:Heap} {rc rs:Nat} {Q:Option Value→Heap→List Loc→Prop} (hK:Back l R p e below s args z 3 W (fun A a=>a=as'∧A.U.heap=h∧A.cells+rc≤R.cells∧A.slots+rs≤R.slots) (fun A _ v B=> ∃L,Q v B.U.heap L∧B.locs=A.locs++L∧B.cells=A.cells+rc∧B.slots=A.slots+rs))
  {b:Addr} {cB:ClassId} (hcB:s.vm.findClass C=some cB) (hrecv:IsOf cB T b)
  {g:JFrame} (hg:g.method=m) (hsize:g.locals.size=c.maxLocals) {argsL rest:List Value}
  (hlen: ∀sig,parseMethodDescriptor y.desc=some sig→argsL.length=sig.parameters.length) (hstack:g.stack=argsL.reverse++ .ref b::rest) (hW:2*g.monitorRoom+(rest.map fun v=>v.category).sum≤W)
  (hdg:decode c.code g.pc= .ok (.invokevirtual index,3)) (ha:(Value.ref b::argsL).toArray=as') (eT:T.heap=h) {kc ks:Nat} (hkc:cells+rc=kc) (hks:slots+rs=ks) (hc:kc≤R.cells) (hs:ks≤R.slots):
  ∃(v:Option Value) (T':State) (Lc:List Loc),Stand p l e R s m args below meth c T' (locs++Lc) kc ks∧Q v T'.heap Lc∧Steps p.tables e below (T.setTop g) (T'.setTop {g with pc:=g.pc+3,stack:=v.toList++rest}):=by
 subst hkc hks
 obtain ⟨v,vm₁,⟨T',L',k',n'⟩,-,X',⟨Lc,hQ,l',y',z'⟩,st⟩:=X.virtualBack hexec w hlink hdecl hnf hsel hinst hy hK hcB hrecv hg hsize (Steps.refl _) hlen hstack hW hdg (fun _ _=>⟨ha,eT,hc,hs⟩)
 dsimp only[Pt.U,Pt.locs,Pt.cells,Pt.slots] at X' l' y' z' st hQ
 subst l' y' z'
 exact ⟨v,T',Lc,X',hQ,st⟩
end OwnCalls
abbrev o_q (l:Launch)(y:MethodName)(cs:List Jvm.Cond)(R:Room)(A:Array Value)(Z:State)(h0:Heap)(Q:Option Value→Heap→List Loc→Prop):Prop:=
 MetFree l y (head1 cs R) (fun w U=>w=A∧Z.Warmed39 U.vm∧U.heap=h0) (fun _ _ _ _ _=>True) (fun _ U o U'=> ∃v L,o= .returned v∧Q v U'.heap L∧FrameEnd U o U' L R.cells R.slots)
theorem o_S {c:Code}{b:ByteArray}{xs:List (Nat×Jvm.ClassFile.Instr×Nat)}(w:c.code=b)(H: ∀x∈xs,decode b x.1= .ok (x.2.1,x.2.2))(k:Nat){pc:Nat}{i:Jvm.ClassFile.Instr}{n:Nat}(h:xs[k]? =some (pc,i,n)):decode c.code pc= .ok (i,n):=by
 rw[w];exact H (pc,i,n) (List.mem_of_getElem? h)
theorem o_u {l:Launch}{y:MethodName}{bytes:ByteArray}{maxL:Nat}{ret:Option FieldType}{ws:List Jvm.Cond}{R:Room}{A:Array Value}{Z:State}{h0:Heap}{Q:Option Value→Heap→List Loc→Prop}{L0:Array Slot}(hp:plainFor y=true)(hef: ∀m,entryFrame m A maxL=mkF m 0 L0 [])
  (body: ∀(p:Program) (e:Env) (s:State) (m:MethodId) (below:List Frame) (meth:Method) (c:Code) (s₁:State),p.tables.exec=Jvm.exec→c.code=bytes→meth.locks=false→c.maxLocals=maxL→s.vm.findClass y.cls=some m.cls→meth.name=y.name→meth.sig.returnType=ret→Stand p l e R s m A below meth c s₁ [] 0 0→Z.Warmed39 s.vm→s₁.heap=h0→o_f p e below (o_V s Q R.cells R.slots) s₁ (mkF m 0 L0 [])):o_q l y (Jvm.Cond.code y bytes maxL ret::ws) R A Z h0 Q:=by
 refine MetFree.of_bodySF hp hisR ?_
 intro p e s m args below meth c s₁ Bd hml0 hP hK
 obtain ⟨rfl,hZ,hh⟩:=hP
 have b:=body p e s m below meth c s₁ Bd.exec Bd.bytes (BodyLoose.notSynchronized Bd) hml0 (findClass_of_methodNamed Bd.named) (name_of_methodNamed Bd.named Bd.method).1 Bd.returns (Stand.of_body Bd) hZ (by rw[←hh,Bd.state];rfl)
 exact o_d9 (o_d_ (mkF m 0 L0 []) (castTop (hef m)) b)
section OwnStep
variable {p:Program}{l:Launch}{e:Env}{R:Room}{s:State}{m:MethodId}{args:Array Value}{below:List Frame}{meth:Method}{c:Code}{T:State}{locs:List Loc}{cells slots:Nat}{Fn:Outcome→State→Prop}{pc:Nat}{L:Array Slot}{st:List Value}{k:Nat}{kn:Fin 4}{x y z:Int32}{xl yl zl:Int64}{k2:Fin 2}{a:Value}{i o:Int}{cd:ClassFile.Cond}
theorem o_b {Z:State}{a0:Array Value}{d:Jvm.Cond}(hw: ∀d∈tables_1,d.before a0 Z=true)(i:Nat)(h:tables_1[i]? =some d):d.before a0 Z=true:=hw _ (List.mem_of_getElem? h)
theorem o_dn (q:Nat)(X:Stand p l e R s m args below meth c T locs cells slots)(hx:p.tables.exec=Jvm.exec)(hd:decode c.code pc= .ok (.iload k,2))(hl:L[k]? =some (.val (.int x)))(hq:pc+2=q)(w:o_f p e below Fn T (mkF m q L (.int x::st))):o_f p e below Fn T (mkF m pc L st):=by
 subst hq;exact o_i (T':=T) (mkF m (pc+2) L (.int x::st)) (fun _ j=>XS.iload X.here hx rfl hd hl j) w
theorem o_ec (q:Nat)(z:Int32)(X:Stand p l e R s m args below meth c T locs cells slots)(hx:p.tables.exec=Jvm.exec)(hd:decode c.code pc= .ok (.iconst i,1))(hz:Int32.ofInt i=z)(hq:pc+1=q)(w:o_f p e below Fn T (mkF m q L (.int z::st))):o_f p e below Fn T (mkF m pc L st):=by
 subst hq;subst hz;exact o_i (T':=T) (mkF m (pc+1) L (.int (Int32.ofInt i)::st)) (fun _ j=>XS.iconst X.here hx rfl hd j) w
theorem o_bZ (q:Nat)(z:Int32)(X:Stand p l e R s m args below meth c T locs cells slots)(hx:p.tables.exec=Jvm.exec)(hd:decode c.code pc= .ok (.bipush i,2))(hz:(Int8.ofInt i).toInt32=z)(hq:pc+2=q)(w:o_f p e below Fn T (mkF m q L (.int z::st))):o_f p e below Fn T (mkF m pc L st):=by
 subst hq;subst hz;exact o_i (T':=T) (mkF m (pc+2) L (.int ((Int8.ofInt i).toInt32)::st)) (fun _ j=>XS.bipush X.here hx rfl hd j) w
theorem o_do (q:Nat)(X:Stand p l e R s m args below meth c T locs cells slots)(hx:p.tables.exec=Jvm.exec)(hd:decode c.code pc= .ok (.iand,1))(hz:x&&&y=z)(hq:pc+1=q)(w:o_f p e below Fn T (mkF m q L (.int z::st))):o_f p e below Fn T (mkF m pc L (.int y:: .int x::st)):=by
 subst hq;subst hz;exact o_i (T':=T) (mkF m (pc+1) L (.int (x&&&y)::st)) (fun _ j=>XS.iand X.here hx rfl hd rfl j) w
theorem o_ed (q:Nat)(X:Stand p l e R s m args below meth c T locs cells slots)(hx:p.tables.exec=Jvm.exec)(hd:decode c.code pc= .ok (.iushr,1))(hz:(x.toUInt32>>>(y&&&31).toUInt32).toInt32=z)(hq:pc+1=q)(w:o_f p e below Fn T (mkF m q L (.int z::st))):o_f p e below Fn T (mkF m pc L (.int y:: .int x::st)):=by
 subst hq;subst hz;exact o_i (T':=T) (mkF m (pc+1) L (.int ((x.toUInt32>>>(y&&&31).toUInt32).toInt32)::st)) (fun _ j=>XS.iushr X.here hx rfl hd rfl j) w
theorem o_dp (q:Nat)(L':Array Slot)(X:Stand p l e R s m args below meth c T locs cells slots)(hx:p.tables.exec=Jvm.exec)(hd:decode c.code pc= .ok (.istore k,2))(hl:storeLocals L k (.int x)=some L')(hq:pc+2=q)(w:o_f p e below Fn T (mkF m q L' st)):o_f p e below Fn T (mkF m pc L (.int x::st)):=by
 subst hq;exact o_i (T':=T) (mkF m (pc+2) L' st) (fun _ j=>XS.istore X.here hx rfl hd rfl hl j) w
theorem o_gs (q:Nat)(L':Array Slot)(X:Stand p l e R s m args below meth c T locs cells slots)(hx:p.tables.exec=Jvm.exec)(hd:decode c.code pc= .ok (.astore k,2))(hv:a.isRef=true)(hl:storeLocals L k a=some L')(hq:pc+2=q)(w:o_f p e below Fn T (mkF m q L' st)):o_f p e below Fn T (mkF m pc L (a::st)):=by
 subst hq;exact o_i (T':=T) (mkF m (pc+2) L' st) (fun _ j=>XS.astore X.here hx rfl hd rfl hv hl j) w
theorem o_cn (q:Nat)(X:Stand p l e R s m args below meth c T locs cells slots)(hx:p.tables.exec=Jvm.exec)(hd:decode c.code pc= .ok (.ifCond cd o,3))(hc:ifCond.holds cd x=false)(hq:pc+3=q)(w:o_f p e below Fn T (mkF m q L st)):o_f p e below Fn T (mkF m pc L (.int x::st)):=by
 subst hq;exact o_i (T':=T) (mkF m (pc+3) L st) (fun _ j=>XS.ifNo X.here hx rfl hd rfl hc j) w
theorem o_ax (q:Nat)(X:Stand p l e R s m args below meth c T locs cells slots)(hx:p.tables.exec=Jvm.exec)(hd:decode c.code pc= .ok (.lload k,2))(hl:L[k]? =some (.val (.long xl)))(hq:pc+2=q)(w:o_f p e below Fn T (mkF m q L (.long xl::st))):o_f p e below Fn T (mkF m pc L st):=by
 subst hq;exact o_i (T':=T) (mkF m (pc+2) L (.long xl::st)) (fun _ j=>XS.lload X.here hx rfl hd hl j) w
theorem o_ee (q:Nat)(X:Stand p l e R s m args below meth c T locs cells slots)(hx:p.tables.exec=Jvm.exec)(hd:decode c.code pc= .ok (.lload_n kn,1))(hl:L[kn.val]? =some (.val (.long xl)))(hq:pc+1=q)(w:o_f p e below Fn T (mkF m q L (.long xl::st))):o_f p e below Fn T (mkF m pc L st):=by
 subst hq;exact o_i (T':=T) (mkF m (pc+1) L (.long xl::st)) (fun _ j=>XS.lloadN X.here hx rfl hd hl j) w
theorem o_aO (q:Nat)(L':Array Slot)(X:Stand p l e R s m args below meth c T locs cells slots)(hx:p.tables.exec=Jvm.exec)(hd:decode c.code pc= .ok (.lstore k,2))(hl:storeLocals L k (.long xl)=some L')(hq:pc+2=q)(w:o_f p e below Fn T (mkF m q L' st)):o_f p e below Fn T (mkF m pc L (.long xl::st)):=by
 subst hq;exact o_i (T':=T) (mkF m (pc+2) L' st) (fun _ j=>XS.lstore X.here hx rfl hd rfl hl j) w
theorem o_b0 (q:Nat)(zl:Int64)(X:Stand p l e R s m args below meth c T locs cells slots)(hx:p.tables.exec=Jvm.exec)(hd:decode c.code pc= .ok (.lconst k2,1))(hz:Int64.ofNat k2=zl)(hq:pc+1=q)(w:o_f p e below Fn T (mkF m q L (.long zl::st))):o_f p e below Fn T (mkF m pc L st):=by
 subst hq;subst hz;exact o_i (T':=T) (mkF m (pc+1) L (.long (Int64.ofNat k2)::st)) (fun _ j=>XS.lconst X.here hx rfl hd j) w
theorem o_gt (q:Nat)(X:Stand p l e R s m args below meth c T locs cells slots)(hx:p.tables.exec=Jvm.exec)(hd:decode c.code pc= .ok (.lsub,1))(hz:xl-yl=zl)(hq:pc+1=q)(w:o_f p e below Fn T (mkF m q L (.long zl::st))):o_f p e below Fn T (mkF m pc L (.long yl:: .long xl::st)):=by
 subst hq;subst hz;exact o_i (T':=T) (mkF m (pc+1) L (.long (xl-yl)::st)) (fun _ j=>XS.lsub X.here hx rfl hd rfl j) w
theorem o_dq (q:Nat)(X:Stand p l e R s m args below meth c T locs cells slots)(hx:p.tables.exec=Jvm.exec)(hd:decode c.code pc= .ok (.land,1))(hz:xl&&&yl=zl)(hq:pc+1=q)(w:o_f p e below Fn T (mkF m q L (.long zl::st))):o_f p e below Fn T (mkF m pc L (.long yl:: .long xl::st)):=by
 subst hq;subst hz;exact o_i (T':=T) (mkF m (pc+1) L (.long (xl&&&yl)::st)) (fun _ j=>XS.land X.here hx rfl hd rfl j) w
theorem o_dr (q:Nat)(X:Stand p l e R s m args below meth c T locs cells slots)(hx:p.tables.exec=Jvm.exec)(hd:decode c.code pc= .ok (.lushr,1))(hz:(xl.toUInt64>>>(y&&&0x3f).toInt64.toUInt64).toInt64=zl)(hq:pc+1=q)(w:o_f p e below Fn T (mkF m q L (.long zl::st))):o_f p e below Fn T (mkF m pc L (.int y:: .long xl::st)):=by
 subst hq;subst hz;exact o_i (T':=T) (mkF m (pc+1) L (.long ((xl.toUInt64>>>(y&&&0x3f).toInt64.toUInt64).toInt64)::st)) (fun _ j=>XS.lushr X.here hx rfl hd rfl j) w
theorem o_ef (q:Nat)(X:Stand p l e R s m args below meth c T locs cells slots)(hx:p.tables.exec=Jvm.exec)(hd:decode c.code pc= .ok (.lcmp,1))(hq:pc+1=q)(w:o_f p e below Fn T (mkF m q L (.int (lcmpW xl yl)::st))):o_f p e below Fn T (mkF m pc L (.long yl:: .long xl::st)):=by
 subst hq;exact o_i (T':=T) (mkF m (pc+1) L (.int (lcmpW xl yl)::st)) (fun _ j=>XS.lcmp X.here hx rfl hd rfl j) w
theorem o_b1 (q:Nat)(X:Stand p l e R s m args below meth c T locs cells slots)(hx:p.tables.exec=Jvm.exec){own:String}{v:Int64}(B:s.vm.findClass own=some m.cls)(hc:(Jvm.Cond.constantLong own k v).before args s=true)(hd:decode c.code pc= .ok (.ldc2_w k,3))(hq:pc+3=q)(w:o_f p e below Fn T (mkF m q L (.long v::st))):o_f p e below Fn T (mkF m pc L st):=by
 subst hq;exact o_i (T':=T) (mkF m (pc+3) L (.long v::st)) (X.ldc2Long hx B hc (g:=mkF m pc L st) rfl hd) w
theorem o_gu (q:Nat)(X:Stand p l e R s m args below meth c T locs cells slots)(hx:p.tables.exec=Jvm.exec)(hd:decode c.code pc= .ok (.goto o,3))(ho:0≤(pc:Int)+o)(hq:((pc:Int)+o).toNat=q)(w:o_f p e below Fn T (mkF m q L st)):o_f p e below Fn T (mkF m pc L st):=
 o_i (T':=T) (mkF m q L st) (fun _ j=>XS.goto X.here hx rfl (pc0:=pc) rfl hd ho hq j) w
theorem o_eg (q:Nat)(X:Stand p l e R s m args below meth c T locs cells slots)(hx:p.tables.exec=Jvm.exec)(hd:decode c.code pc= .ok (.ifCond cd o,3))(hc:ifCond.holds cd x=true)(ho:0≤(pc:Int)+o)(hq:((pc:Int)+o).toNat=q)(w:o_f p e below Fn T (mkF m q L st)):o_f p e below Fn T (mkF m pc L (.int x::st)):=
 o_i (T':=T) (mkF m q L st) (fun _ j=>XS.ifYes X.here hx rfl (pc0:=pc) rfl hd rfl hc ho hq j) w
end OwnStep
section OwnHeap
variable {p:Program}{l:Launch}{e:Env}{R:Room}{s:State}{m:MethodId}{args:Array Value}{below:List Frame}{meth:Method}{c:Code}{T:State}{locs:List Loc}{cells slots:Nat}{Fn:Outcome→State→Prop}{pc:Nat}{L:Array Slot}{st:List Value}{Z:State}{a0:Array Value}{h:Heap}{own O nf d C:String}{index kk:Nat}{a:Addr}{v old dv:Value}{ty:FieldType}{k:ClassId}{z j x:Int32}{vs:List Value}
theorem o_gv (q:Nat)(X:Stand p l e R s m args below meth c T locs cells slots)(hx:p.tables.exec=Jvm.exec)(hZ:Z.Warmed39 s.vm)(B:s.vm.findClass own=some m.cls)(wl:(Jvm.Cond.fieldLink own index O nf d).before a0 Z=true)(eT:T.heap=h)(F:Fld Z h a O nf d v)(hd:decode c.code pc= .ok (.getfield index,3))(hq:pc+3=q)
  (w: ∀T':State,Stand p l e R s m args below meth c T' locs cells slots→T'.heap=h→o_f p e below Fn T' (mkF m q L (v::st))):o_f p e below Fn T (mkF m pc L (.ref a::st)):=by
 obtain ⟨T',X',e',st'⟩:=getF X hx hZ B (host:="") (Or.inl wl) Via.refl eT F (g:=mkF m pc L (.ref a::st)) rfl rfl hd
 subst hq;exact o_i (T':=T') (mkF m (pc+3) L (v::st)) st' (w T' X' e')
theorem o_gw (q:Nat)(X:Stand p l e R s m args below meth c T locs cells slots)(hx:p.tables.exec=Jvm.exec)(hZ:Z.Warmed39 s.vm)(B:s.vm.findClass own=some m.cls)(wl:(Jvm.Cond.fieldLink own index O nf d).before a0 Z=true)(eT:T.heap=h)(F:Fld Z h a O nf d old)(E:Exa Z h a C)
  (lw:(Jvm.Cond.lays C O nf d).before a0 Z=true∨((Jvm.Cond.laysFinal C O nf d).before a0 Z=true∧own=O∧meth.name="<init>")) (wi:(Jvm.Cond.instantiable C kk).before a0 Z=true) (hty:parseFieldDescriptor d=some ty) (hn:narrow ty v=v) (hf:fits ty v=true) (hd:decode c.code pc= .ok (.putfield index,3)) (hq:pc+3=q)
  (w: ∀(T':State) (h':Heap),Stand p l e R s m args below meth c T' (locs++ [⟨a,Jvm.RoadKit.slotOf Z O nf d⟩]) cells slots→T'.heap=h'→Wr h h' a (Jvm.RoadKit.slotOf Z O nf d) v→o_f p e below Fn T' (mkF m q L st)):o_f p e below Fn T (mkF m pc L (v:: .ref a::st)):=by
 obtain ⟨T',h',X',e',W',st'⟩:=putF X hx hZ B (host:="") (Or.inl wl) Via.refl eT F E lw wi hty hn hf (g:=mkF m pc L (v:: .ref a::st)) rfl rfl hd
 subst hq;exact o_i (T':=T') (mkF m (pc+3) L st) st' (w T' h' X' e' W')
theorem o_gx (q:Nat)(X:Stand p l e R s m args below meth c T locs cells slots)(hx:p.tables.exec=Jvm.exec)(hZ:Z.Warmed39 s.vm)(eT:T.heap=h)(F:Arv Z h a k ty z vs dv)(hd:decode c.code pc= .ok (.arraylength,1))(hq:pc+1=q)(w:o_f p e below Fn T (mkF m q L (.int z::st))):o_f p e below Fn T (mkF m pc L (.ref a::st)):=by
 obtain ⟨cl,Ar,-,S,M,-,-⟩:=F
 subst hq
 have q:=X.arraylength hx (by rw[eT];exact Ar.1) (State.isArrayOf_alike hZ.alike Ar.2.1) (g:=mkF m pc L (.ref a::st)) rfl rfl hd
 rw[len_of S M] at q
 exact o_i (T':=T) (mkF m (pc+1) L (.int z::st)) q w
theorem o_eh (q:Nat)(X:Stand p l e R s m args below meth c T locs cells slots)(hx:p.tables.exec=Jvm.exec)(hZ:Z.Warmed39 s.vm)(eT:T.heap=h)(F:Arv Z h a k .int z vs dv)(ib: ¬j<0∧j<z)(u:vs.getD j.toNatClampNeg dv= .int x)(hd:decode c.code pc= .ok (.iaload,1))(hq:pc+1=q)(w:o_f p e below Fn T (mkF m q L (.int x::st))):o_f p e below Fn T (mkF m pc L (.int j:: .ref a::st)):=by
 obtain ⟨cl,Ar,-,S,-,H,-⟩:=F
 subst hq
 exact o_i (T':=T) (mkF m (pc+1) L (.int x::st)) (X.iaload hx (j:=j) (v:= .int x) (by rw[eT];exact Ar.1) (State.isArrayOf_alike hZ.alike Ar.2.1) Ar.2.2 (inb_of S ib) (H.at (inb_of S ib) u) (g:=mkF m pc L (.int j:: .ref a::st)) rfl rfl hd) w
theorem o_ei (q i:Nat)(X:Stand p l e R s m args below meth c T locs cells slots)(hx:p.tables.exec=Jvm.exec)(hZ:Z.Warmed39 s.vm)(eT:T.heap=h)(F:Arv Z h a k .int z vs dv)(ib: ¬j<0∧j<z)(hj:j.toNatClampNeg=i)(hi:i<vs.length)(hd:decode c.code pc= .ok (.iastore,1))(hq:pc+1=q)
  (w: ∀(T':State) (h':Heap),Stand p l e R s m args below meth c T' (locs++ [⟨a,(j).toNatClampNeg⟩]) cells slots→T'.heap=h'→Wr h h' a j.toNatClampNeg (.int x)→Arv Z h' a k .int z (vs.set i (.int x)) dv→o_f p e below Fn T' (mkF m q L st)):o_f p e below Fn T (mkF m pc L (.int x:: .int j:: .ref a::st)):=by
 obtain ⟨cl,Ar,q1,S,M,H,G⟩:=F
 obtain ⟨T',h',X',e',W',st'⟩:=stI X hx hZ eT Ar (j:=j) (inb_of S ib) (g:=mkF m pc L (.int x:: .int j:: .ref a::st)) rfl rfl hd
 subst hq
 exact o_i (T':=T') (mkF m (pc+1) L st) st' (w T' h' X' e' W' (Arv.set Ar q1 S M H G rfl W' i hj hi))
end OwnHeap
section OwnSb
variable {p:Program}{l:Launch}{e:Env}{R:Room}{s:State}{m:MethodId}{args:Array Value}{below:List Frame}{meth:Method}{c:Code}{T:State}{locs:List Loc}{cells slots:Nat}{Z:State}{a0:Array Value}
theorem o_gy (X:Stand p l e R s m args below meth c T locs cells slots)(hexec:p.tables.exec=Jvm.exec){own C:String}{index:Nat}{y:MethodName}{bytes:ByteArray}{maxL:Nat}{ret:Option FieldType}
  (w:s.vm.findClass own=some m.cls) (hlink:(Jvm.Cond.methodLink own index y).before args s=true) (hinst:(Jvm.Cond.instanceMethod y).before args s=true) (hsel:(Jvm.Cond.selects C y y).before args s=true) (hpriv:(Jvm.Cond.privateMethod y).before args s=true)
  (hcode:(Jvm.Cond.code y bytes maxL ret).before args s=true) (hy:y.cls≠"java/lang/invoke/MethodHandle"∧y.cls≠"java/lang/invoke/VarHandle")
  {W:Nat} {as':Array Value} {h:Heap} {rc rs:Nat} {Q:Option Value→Heap→List Loc→Prop} (hK:Back l R p e below s args y 3 W (fun A a=>a=as'∧A.U.heap=h∧A.cells+rc≤R.cells∧A.slots+rs≤R.slots) (fun A _ v B=> ∃L,Q v B.U.heap L∧B.locs=A.locs++L∧B.cells=A.cells+rc∧B.slots=A.slots+rs))
  {b:Addr} (hcl: ∃k:Cell,h[b]? =some k∧ ∀q,k.vm≠ .statics q)
  {g:JFrame} (hg:g.method=m) (hsize:g.locals.size=c.maxLocals) {argsL rest:List Value}
  (hlen: ∀sig,parseMethodDescriptor y.desc=some sig→argsL.length=sig.parameters.length) (hstack:g.stack=argsL.reverse++ .ref b::rest) (hW:2*g.monitorRoom+(rest.map fun v=>v.category).sum≤W)
  (hdg:decode c.code g.pc= .ok (.invokevirtual index,3)) (ha:(Value.ref b::argsL).toArray=as') (eT:T.heap=h) {kc ks:Nat} (hkc:cells+rc=kc) (hks:slots+rs=ks) (hc:kc≤R.cells) (hs:ks≤R.slots):
  ∃(v:Option Value) (T':State) (Lc:List Loc),Stand p l e R s m args below meth c T' (locs++Lc) kc ks∧Q v T'.heap Lc∧Steps p.tables e below (T.setTop g) (T'.setTop {g with pc:=g.pc+3,stack:=v.toList++rest}):=by
 subst hkc hks
 have hp:=Cond.privateMethod_at hpriv
 obtain ⟨c1,r1,m1,-,-,q3,-,kP,hkP,hkPi⟩:=Cond.selects_spec hsel
 have hsel':=selects_self_of_private (findClass_of_methodNamed q3) hkP hkPi hp hinst hy
 obtain ⟨k0,hcell,hobj⟩:=hcl
 obtain ⟨v,vm₁,⟨T',L',k',n'⟩,-,X',⟨Lc,hQ,l',y',z'⟩,st⟩:=X.privateBack hexec w hlink hinst hsel' hp hcode hy hK hg hsize (Steps.refl _) (a:=b) (cell:=k0) (by rw[eT];exact hcell) hobj hlen hstack hW hdg (fun _ _=>⟨ha,eT,hc,hs⟩)
 dsimp only[Pt.U,Pt.locs,Pt.cells,Pt.slots] at X' l' y' z' st hQ
 subst l' y' z'
 exact ⟨v,T',Lc,X',hQ,st⟩
end OwnSb
theorem o_bD {x y X Y:Int}(hx:0≤x)(hx':x≤X)(hy:0≤y)(hy':y≤Y):0≤x*y∧x*y≤X*Y:=⟨Int.mul_nonneg hx hy,Int.mul_le_mul hx' hy' hy (Int.le_trans hx hx')⟩
theorem o_gz {A B A1 A0 B1 w:Int}(hA:A=A1*67108864+A0)(hB:B=B1*67108864+w):A*B=(A1*B1)*4503599627370496+(A1*w+A0*B1)*67108864+A0*w:=by
 subst hA hB;grind
theorem o_ej {a b a1 a0 b1 b0 mid lo lo2:Int64}(ra:0≤a.toInt∧a.toInt<9007199254740992)(rb:0≤b.toInt∧b.toInt<9007199254740992)
  (h1:((a.toUInt64>>>((26:Int32)&&&0x3f).toInt64.toUInt64).toInt64)=a1) (h2:(a&&&(67108863:Int64))=a0) (h3:((b.toUInt64>>>((26:Int32)&&&0x3f).toInt64.toUInt64).toInt64)=b1) (h4:(b&&&(67108863:Int64))=b0)
  (h5:((a1*b0)+(a0*b1))=mid) (h6:(a0*b0)=lo) (h7:(lo+((mid&&&(67108863:Int64))<<<((26:Int32)&&&0x3f).toInt64))=lo2):
  0≤a1.toInt∧a1.toInt<134217728∧0≤b1.toInt∧b1.toInt<134217728∧0≤mid.toInt∧mid.toInt<18014398509481984∧0≤lo2.toInt∧lo2.toInt<9007199254740992∧a.toInt*b.toInt=(a1.toInt*b1.toInt+mid.toInt/67108864)*4503599627370496+lo2.toInt:=by
 have e1:=c_lushr a 26 26 (by decide) (by decide);rw[h1] at e1
 have e2:=c_maskL a 67108863 26 (by decide) (by decide);rw[h2] at e2
 have e3:=c_lushr b 26 26 (by decide) (by decide);rw[h3] at e3
 have e4:=c_maskL b 67108863 26 (by decide) (by decide);rw[h4] at e4
 have n1:((2^26:Nat):Int)=67108864:=rfl
 rw[n1] at e1 e2 e3 e4
 have A1:0≤a1.toInt∧a1.toInt≤134217727:=by omega
 have A0:0≤a0.toInt∧a0.toInt≤67108863:=by omega
 have B1:0≤b1.toInt∧b1.toInt≤134217727:=by omega
 have B:0≤b0.toInt∧b0.toInt≤67108863:=by omega
 have hA:a.toInt=a1.toInt*67108864+a0.toInt:=by omega
 have hB:b.toInt=b1.toInt*67108864+b0.toInt:=by omega
 have E:=o_gz hA hB
 have p10:=o_bD A1.1 A1.2 B.1 B.2
 have K:=o_bD A0.1 A0.2 B1.1 B1.2
 have M:=o_bD A0.1 A0.2 B.1 B.2
 have m10:=c_lmul a1 b0
 have S:=c_lmul a0 b1
 have I:=c_lmul a0 b0
 rw[h6] at I
 have s:=c_ladd (a1*b0) (a0*b1);rw[h5] at s
 have r1:=rng64 (a1*b0);have r2:=rng64 (a0*b1);have r3:=rng64 lo;have r4:=rng64 mid
 generalize (a1*b0).toInt=v10 at*
 generalize (a0*b1).toInt=J at*
 generalize a1.toInt*b0.toInt=F at*
 generalize a0.toInt*b1.toInt=G at*
 generalize a0.toInt*b0.toInt=H at*
 generalize a1.toInt*b1.toInt=P11 at*
 have x10:v10=F:=by omega
 have x01:J=G:=by omega
 have x00:lo.toInt=H:=by omega
 have xm:mid.toInt=F+G:=by omega
 have k1:=c_maskL mid 67108863 26 (by decide) (by decide);rw[n1] at k1
 have k2:=c_lshl (mid&&&(67108863:Int64)) 26 26 (by decide);rw[n1,k1] at k2
 have k3:=c_ladd lo ((mid&&&(67108863:Int64))<<<((26:Int32)&&&0x3f).toInt64);rw[h7] at k3
 have r5:=rng64 ((mid&&&(67108863:Int64))<<<((26:Int32)&&&0x3f).toInt64);have r6:=rng64 lo2
 generalize ((mid&&&(67108863:Int64))<<<((26:Int32)&&&0x3f).toInt64).toInt=w at*
 have W:w=mid.toInt%67108864*67108864:=by omega
 have xl:lo2.toInt=H+mid.toInt%67108864*67108864:=by omega
 refine ⟨A1.1,by omega,B1.1,by omega,by omega,by omega,by omega,by omega,?_⟩
 omega
def o_co (a b r:Int64):Prop:=(r=a∧b.toInt≤a.toInt)∨(r=b∧a.toInt≤b.toInt)
theorem o_bL {a b:Int64}:(a.toInt<b.toInt∧(lcmpW a b)= -1)∨(a.toInt=b.toInt∧(lcmpW a b)=0)∨(b.toInt<a.toInt∧(lcmpW a b)=1):=by
 have q:=c_lcmp a b
 have e1:(-1:Int32).toInt= -1:=rfl
 have e2:(0:Int32).toInt=0:=rfl
 have e3:(1:Int32).toInt=1:=rfl
 rw[←Int32.toInt_inj,←Int32.toInt_inj,←Int32.toInt_inj,e1,e2,e3]
 rcases Int.lt_trichotomy a.toInt b.toInt with h|h|h
 ·exact Or.inl ⟨h,q.1 h⟩
 ·exact Or.inr (Or.inl ⟨h,q.2.1 h⟩)
 ·exact Or.inr (Or.inr ⟨h,q.2.2 h⟩)
theorem o_aJ {a b:Int64}(h:lcmpW a b<0):a.toInt<b.toInt:=by
 rcases o_bL (a:=a) (b:=b) with ⟨q,e⟩|⟨q,e⟩|⟨q,e⟩
 ·exact q
 ·rw[e] at h;exact absurd h (by decide)
 ·rw[e] at h;exact absurd h (by decide)
theorem o_a9 {a b:Int64}(h: ¬lcmpW a b<0):b.toInt≤a.toInt:=by
 rcases o_bL (a:=a) (b:=b) with ⟨q,e⟩|⟨q,e⟩|⟨q,e⟩
 ·rw[e] at h;exact absurd (by decide) h
 ·omega
 ·omega
theorem o_ds {a b:Int64}(h:0<lcmpW a b):b.toInt<a.toInt:=by
 rcases o_bL (a:=a) (b:=b) with ⟨q,e⟩|⟨q,e⟩|⟨q,e⟩
 ·rw[e] at h;exact absurd h (by decide)
 ·rw[e] at h;exact absurd h (by decide)
 ·exact q
theorem o_cp {a b:Int64}(h: ¬0<lcmpW a b):a.toInt≤b.toInt:=by
 rcases o_bL (a:=a) (b:=b) with ⟨q,e⟩|⟨q,e⟩|⟨q,e⟩
 ·omega
 ·omega
 ·rw[e] at h;exact absurd (by decide) h
theorem o_bo {a b:Int64}(h:lcmpW a b=0):a.toInt=b.toInt:=by
 rcases o_bL (a:=a) (b:=b) with ⟨q,e⟩|⟨q,e⟩|⟨q,e⟩
 ·rw[e] at h;exact absurd h (by decide)
 ·exact q
 ·rw[e] at h;exact absurd h (by decide)
theorem o_cq {a b:Int64}(h: ¬lcmpW a b=0): ¬a.toInt=b.toInt:=by
 rcases o_bL (a:=a) (b:=b) with ⟨q,e⟩|⟨q,e⟩|⟨q,e⟩
 ·omega
 ·exact absurd e h
 ·omega
theorem o_gA {a b:Int64}(h: ¬lcmpW a b<0):o_co a b a:=Or.inl ⟨rfl,o_a9 h⟩
theorem o_gB {a b:Int64}(h:lcmpW a b<0):o_co a b b:=Or.inr ⟨rfl,Int.le_of_lt (o_aJ h)⟩
def o_cr (a b x y:Int64)(r:Int32):Prop:=(r= -1∧a.toInt*b.toInt<x.toInt*y.toInt)∨(r=0∧a.toInt*b.toInt=x.toInt*y.toInt)∨(r=1∧x.toInt*y.toInt<a.toInt*b.toInt)
theorem o_gC {a1 b1 mid lo2 hi:Int64}{P:Int}(H:0≤a1.toInt∧a1.toInt<134217728∧0≤b1.toInt∧b1.toInt<134217728∧0≤mid.toInt∧mid.toInt<18014398509481984∧0≤lo2.toInt∧lo2.toInt<9007199254740992∧P=(a1.toInt*b1.toInt+mid.toInt/67108864)*4503599627370496+lo2.toInt)(h:a1*b1=hi):
  ((hi+((mid.toUInt64>>>((26:Int32)&&&0x3f).toInt64.toUInt64).toInt64))+((lo2.toUInt64>>>((52:Int32)&&&0x3f).toInt64.toUInt64).toInt64)).toInt=P/4503599627370496:=by
 obtain ⟨x1,x2,x3,x4,x5,x6,x7,x8,x9⟩:=H
 have p:=o_bD x1 (show a1.toInt≤134217727 by omega) x3 (show b1.toInt≤134217727 by omega)
 have m:=c_lmul a1 b1;rw[h] at m
 have r:=rng64 hi
 have e1:=c_lushr mid 26 26 (by decide) (by decide)
 have e2:=c_lushr lo2 52 52 (by decide) (by decide)
 have n1:((2^26:Nat):Int)=67108864:=rfl
 have n2:((2^52:Nat):Int)=4503599627370496:=rfl
 rw[n1] at e1;rw[n2] at e2
 generalize ((mid.toUInt64>>>((26:Int32)&&&0x3f).toInt64.toUInt64).toInt64)=u at*
 generalize ((lo2.toUInt64>>>((52:Int32)&&&0x3f).toInt64.toUInt64).toInt64)=v at*
 have s1:=c_ladd hi u
 have s2:=c_ladd (hi+u) v
 have r1:=rng64 (hi+u);have r2:=rng64 (hi+u+v)
 generalize a1.toInt*b1.toInt=P11 at*
 omega
theorem o_gD {a1 b1 mid lo2:Int64}{P:Int}(H:0≤a1.toInt∧a1.toInt<134217728∧0≤b1.toInt∧b1.toInt<134217728∧0≤mid.toInt∧mid.toInt<18014398509481984∧0≤lo2.toInt∧lo2.toInt<9007199254740992∧P=(a1.toInt*b1.toInt+mid.toInt/67108864)*4503599627370496+lo2.toInt):
  (lo2&&&(4503599627370495:Int64)).toInt=P%4503599627370496:=by
 obtain ⟨x1,x2,x3,x4,x5,x6,x7,x8,x9⟩:=H
 have e2:=c_maskL lo2 4503599627370495 52 (by decide) (by decide)
 have n2:((2^52:Nat):Int)=4503599627370496:=rfl
 rw[n2] at e2
 generalize a1.toInt*b1.toInt=P11 at*
 omega
section OwnCmp
variable {h1 h2 l1 l2:Int64}{P Q:Int}
theorem o_gE (h:lcmpW h1 h2<0)(e1:h1.toInt=P/4503599627370496)(e2:h2.toInt=Q/4503599627370496):P<Q:=by have:=o_aJ h;omega
theorem o_gF (k: ¬lcmpW h1 h2=0)(h: ¬lcmpW h1 h2<0)(e1:h1.toInt=P/4503599627370496)(e2:h2.toInt=Q/4503599627370496):Q<P:=by have:=o_a9 h;have:=o_cq k;omega
theorem o_gG (k:lcmpW h1 h2=0)(h:lcmpW l1 l2<0)(e1:h1.toInt=P/4503599627370496)(e2:h2.toInt=Q/4503599627370496)(f1:l1.toInt=P%4503599627370496)(f2:l2.toInt=Q%4503599627370496):P<Q:=by have:=o_aJ h;have:=o_bo k;omega
theorem o_gH (k:lcmpW h1 h2=0)(g: ¬lcmpW l1 l2=0)(h: ¬lcmpW l1 l2<0)(e1:h1.toInt=P/4503599627370496)(e2:h2.toInt=Q/4503599627370496)(f1:l1.toInt=P%4503599627370496)(f2:l2.toInt=Q%4503599627370496):Q<P:=by have:=o_a9 h;have:=o_bo k;have:=o_cq g;omega
theorem o_gI (k:lcmpW h1 h2=0)(g:lcmpW l1 l2=0)(e1:h1.toInt=P/4503599627370496)(e2:h2.toInt=Q/4503599627370496)(f1:l1.toInt=P%4503599627370496)(f2:l2.toInt=Q%4503599627370496):P=Q:=by have:=o_bo k;have:=o_bo g;omega
end OwnCmp
def o_a (x:Int32):Int:=x.toInt%4294967296
theorem o_m (x:Int32):0≤o_a x∧o_a x<4294967296:=by unfold o_a;omega
theorem o_a_ {x:Int32}(h: ¬x=0):0<o_a x:=by
 have q:=o_m x;have r:=rng32 x
 rw[←Int32.toInt_inj] at h
 have e:(0:Int32).toInt=0:=rfl
 unfold o_a at*;omega
theorem o_bE {x:Int32}(h:x=0):o_a x=0:=by subst h;rfl
theorem o_2 (x:Int32):(x.toInt64&&&(4294967295:Int64)).toInt=o_a x:=by
 have e:=c_maskL x.toInt64 4294967295 32 (by decide) (by decide)
 rw[c_i2l] at e;exact e
theorem o_cs (x:Int64):(x&&&(4294967295:Int64)).toInt=x.toInt%4294967296:=c_maskL x 4294967295 32 (by decide) (by decide)
theorem o_ae (x:Int64):o_a x.toInt32=x.toInt%4294967296:=by have q:=c_l2i x;unfold o_a;omega
theorem o_bg (x:Int64):((x.toUInt64>>>((32:Int32)&&&0x3f).toInt64.toUInt64).toInt64).toInt=x.toInt%18446744073709551616/4294967296:=c_lushr x 32 32 (by decide) (by decide)
section OwnBI
variable {Z:State}{h h':Heap}{x a b:Addr}{k:ClassId}{ws:List Int32}{slt:Nat}{v:Value}{us:List Addr}
def o_U (Z:State)(h:Heap)(x a:Addr)(k:ClassId)(ws:List Int32):Prop:=
 Exa Z h x "java/math/BigInteger"∧Fld Z h x "java/math/BigInteger" "signum" "I" (.int (1:Int32))∧Fld Z h x "java/math/BigInteger" "mag" "[I" (.ref a)∧Arv Z h a k .int (Int32.ofNat ws.length) (ws.map Value.int) (.int (0:Int32))∧Exa Z h a "[I"
theorem o_U.lt (S:o_U Z h x a k ws):x<h.size:=S.1.lt
theorem o_U.ltT (S:o_U Z h x a k ws):a<h.size:=S.2.2.2.1.lt
theorem o_U.ext (S:o_U Z h x a k ws)(E:Ext h h'):o_U Z h' x a k ws:=⟨S.1.ext E,S.2.1.ext E,S.2.2.1.ext E,S.2.2.2.1.ext E,S.2.2.2.2.ext E⟩
theorem o_U.wr (S:o_U Z h x a k ws)(W:Wr h h' b slt v)(n1:x≠b)(n2:a≠b):o_U Z h' x a k ws:=⟨S.1.wr W,S.2.1.other W (Or.inl n1),S.2.2.1.other W (Or.inl n1),S.2.2.2.1.other W n2,S.2.2.2.2.wr W⟩
theorem o_U.keep (S:o_U Z h x a k ws)(K:Keep h h' us)(n1:x∉us)(n2:a∉us):o_U Z h' x a k ws:=⟨S.1.keep K,S.2.1.keep K n1,S.2.2.1.keep K n1,S.2.2.2.1.keep K n2,S.2.2.2.2.keep K⟩
def o_av (Z:State)(h:Heap)(x a:Addr)(k:ClassId)(n:Int):Prop:=(∃w0,o_U Z h x a k [w0]∧ ¬w0=0∧n=o_a w0)∨(∃w0 w1,o_U Z h x a k [w0,w1]∧ ¬w0=0∧n=o_a w0*4294967296+o_a w1)
def o_ct (Z:State)(pc:Addr)(kp:ClassId)(vs:List Value)(dv:Value):Prop:=Arv Z Z.heap pc kp (.object "java/math/BigInteger") (17:Int32) vs dv∧ ∀i:Int32,1≤i.toInt→i.toInt≤16→ ∃x a k,vs.getD i.toNatClampNeg dv= .ref x∧o_U Z Z.heap x a k [i]
end OwnBI
theorem o_gJ {v:Int64}(h: ¬(v.toUInt64>>>((32:Int32)&&&0x3f).toInt64.toUInt64).toInt64.toInt32=0)(r:0≤v.toInt∧v.toInt<9007199254740992):v.toInt=o_a ((v.toUInt64>>>((32:Int32)&&&0x3f).toInt64.toUInt64).toInt64.toInt32)*4294967296+o_a v.toInt32:=by
 rw[o_ae,o_ae,o_bg];omega
theorem o_ek {v:Int64}(h:(v.toUInt64>>>((32:Int32)&&&0x3f).toInt64.toUInt64).toInt64.toInt32=0)(r:0≤v.toInt∧v.toInt<9007199254740992):v.toInt=o_a v.toInt32:=by
 have q:=o_bE h
 rw[o_ae,o_bg] at q;rw[o_ae];omega
theorem o_gK {v:Int64}(h:v.toInt=o_a v.toInt32)(r:0<v.toInt): ¬v.toInt32=0:=fun q=>by rw[o_bE q] at h;omega
theorem o_gL {v:Int64}(r:0<v.toInt)(h: ¬0<lcmpW v (16:Int64)):1≤v.toInt32.toInt∧v.toInt32.toInt≤16∧v.toInt=o_a v.toInt32∧ ¬v.toInt32<0∧v.toInt32<17∧ ¬v.toInt32=0:=by
 have q:=o_cp h
 have e:(16:Int64).toInt=16:=rfl
 rw[e] at q
 have c:=c_l2i v;have g:=rng32 v.toInt32
 have e0:(0:Int32).toInt=0:=rfl
 have e17:(17:Int32).toInt=17:=rfl
 have z:v.toInt32.toInt=v.toInt:=by omega
 rw[Int32.lt_iff_toInt_lt,Int32.lt_iff_toInt_lt,←Int32.toInt_inj,e0,e17]
 unfold o_a;omega
theorem o_el {v:Int64}(r:0≤v.toInt∧v.toInt<9007199254740992): ¬lcmpW v (0:Int64)<0:=fun q=>by
 have:=o_aJ q
 have e:(0:Int64).toInt=0:=rfl
 omega
theorem o_gM {v:Int64}(r:0<v.toInt): ¬lcmpW v (0:Int64)=0:=fun q=>by
 have:=o_bo q
 have e:(0:Int64).toInt=0:=rfl
 omega
theorem o_gN {v:Int64}(r:0<v.toInt):0<lcmpW v (0:Int64):=Classical.byContradiction fun q=>by
 have:=o_cp q
 have e:(0:Int64).toInt=0:=rfl
 omega
theorem o_dt {q:Int32}{s:Nat}(h:q.toInt=s)(hs:s<32):q.toBitVec.toNat%32=s:=by
 have e:q.toInt=if 2*q.toBitVec.toNat<2^32 then (q.toBitVec.toNat:Int) else q.toBitVec.toNat-(2^32:Nat):=BitVec.toInt_eq_toNat_cond q.toBitVec
 have b:=q.toBitVec.isLt
 split at e<;>omega
theorem o_ap {s:Nat}(hs:s≤31):1≤(2:Int)^s∧(2:Int)^s≤2147483648:=by
 have h1:1≤2^s:=Nat.one_le_two_pow
 have h2:2^s≤2^31:=Nat.pow_le_pow_right (by decide) hs
 have e:((2^s:Nat):Int)=(2:Int)^s:=by simp
 omega
theorem o_du {s:Nat}(hs:s≤32):(2:Int)^(32-s)*(2:Int)^s=4294967296:=by
 rw[←Int.pow_add,Nat.sub_add_cancel hs];rfl
theorem o_aP (s:Nat):((2^s:Nat):Int)=(2:Int)^s:=by simp
theorem o_a' {x q:Int32}{s:Nat}(h:q.toInt=s)(hs:s≤31):o_a (x<<<(q&&&31))=o_a x*2^s%4294967296:=by
 have c:=c_ishl x q s (o_dt h (by omega))
 rw[o_aP] at c
 have e:o_a x*2^s=x.toInt*2^s-4294967296*(x.toInt/4294967296*2^s):=by
  have q:=Int.emod_add_mul_ediv x.toInt 4294967296
  have z:o_a x=x.toInt-4294967296*(x.toInt/4294967296):=by unfold o_a;omega
  rw[z];grind
 rw[e];unfold o_a
 generalize x.toInt/4294967296*2^s=t at*
 generalize x.toInt*2^s=y at*
 omega
theorem o_cu {x q:Int32}{s:Nat}(h:q.toInt=s)(h1:1≤s)(hs:s≤31):((x.toUInt32>>>(((32:Int32)-q)&&&31).toUInt32).toInt32).toInt=o_a x*2^s/4294967296:=by
 have c:=c_isub 32 q
 have e32:(32:Int32).toInt=32:=rfl
 have r:=rng32 (32-q)
 have k:((32:Int32)-q).toInt=((32-s:Nat):Int):=by omega
 have d:=c_iushr x (32-q) (32-s) (o_dt k (by omega)) (by omega)
 rw[o_aP] at d
 rw[d]
 have p:=o_du (s:=s) (by omega)
 have g:=(o_ap hs).1
 show o_a x/2^(32-s)=_
 rw[←p,Int.mul_ediv_mul_of_pos_left _ _ (by omega)]
theorem o_cv {x:Int32}{s:Nat}(hs:s≤31):0≤o_a x*2^s/4294967296∧o_a x*2^s/4294967296<2^s:=by
 have g:=o_ap hs
 have r:0≤o_a x∧o_a x<4294967296:=by unfold o_a;omega
 refine ⟨Int.ediv_nonneg (Int.mul_nonneg r.1 (by omega)) (by decide),Int.ediv_lt_of_lt_mul (by decide) ?_⟩
 rw[Int.mul_comm];exact Int.mul_lt_mul_of_pos_left r.2 (by omega)
theorem o_aX {x y q:Int32}{s:Nat}(h:q.toInt=s)(h1:1≤s)(hs:s≤31):o_a ((x<<<(q&&&31))|||((y.toUInt32>>>(((32:Int32)-q)&&&31).toUInt32).toInt32))=o_a x*2^s%4294967296+o_a y*2^s/4294967296:=by
 have a:=o_a' (x:=x) h hs
 have b:=o_cu (x:=y) h h1 hs
 have bb:=o_cv (x:=y) hs
 have c:=c_ishl x q s (o_dt h (by omega));rw[o_aP] at c
 have g:=o_ap hs
 have p:=o_du (s:=s) (by omega)
 generalize (y.toUInt32>>>(((32:Int32)-q)&&&31).toUInt32).toInt32=w at*
 generalize x<<<(q&&&31)=v at*
 have dv:v.toInt%2^s=0:=by
  have e:v.toInt=x.toInt*2^s+4294967296*((v.toInt-x.toInt*2^s)/4294967296):=by omega
  rw[e,←p,Int.mul_assoc,Int.mul_comm (2^s) _,←Int.mul_assoc,←Int.add_mul]
  exact Int.mul_emod_left _ _
 have o:=c_or v w s (by omega) (2^s) (o_aP s).symm dv (by omega) (by omega)
 have du:o_a v%2^s=0:=by
  have e:o_a v=v.toInt-2^(32-s)*2^s*(v.toInt/4294967296):=by rw[p];unfold o_a;omega
  rw[e,Int.mul_assoc,Int.mul_comm (2^s) _,←Int.mul_assoc,Int.sub_emod,dv,Int.mul_emod_left];rfl
 have vb:o_a v+2^s≤4294967296:=by
  have r:o_a v<4294967296:=by unfold o_a;omega
  have e:=Int.emod_add_mul_ediv (o_a v) (2^s)
  rw[du] at e
  generalize hq:o_a v/2^s=t at*
  have lt:t<2^(32-s):=by
   refine Int.lt_of_mul_lt_mul_left (a:=2^s) ?_ (by omega)
   rw[Int.mul_comm (2^s) (2^(32-s)),p];omega
  have le:2^s*(t+1)≤2^s*2^(32-s):=Int.mul_le_mul_of_nonneg_left (by omega) (by omega)
  rw[Int.mul_comm (2^s) (2^(32-s)),p,Int.mul_add] at le
  omega
 rw[←a,←b]
 have vr:0≤o_a v:=by unfold o_a;omega
 have sum:o_a v+w.toInt<4294967296:=by omega
 unfold o_a at*
 omega
theorem o_cw {a b c d:Nat}(hb:b<256)(hd:d<256):(a*256+b)&&&(c*256+d)=(a&&&c)*256+(b&&&d):=by
 have hbd:b&&&d<2^8:=Nat.lt_of_le_of_lt Nat.and_le_left hb
 have e: ∀x y:Nat,x*256+y=2^8*x+y:=fun x y=>by rw[Nat.mul_comm,show (256:Nat)=2^8 from rfl]
 apply Nat.eq_of_testBit_eq;intro i
 rw[e,e,e,Nat.testBit_and,Nat.testBit_two_pow_mul_add _ hb,Nat.testBit_two_pow_mul_add _ hd,Nat.testBit_two_pow_mul_add _ hbd]
 by_cases h:i<8
 ·simp[h,Nat.testBit_and]
 ·simp[h,Nat.testBit_and]
def o_aa (v:Nat):Nat:=v-((v/2)&&&0x55)
def o_aC (v:Nat):Nat:=(v&&&0x33)+((v/4)&&&0x33)
def o_em (v:Nat):Nat:=(v+v/16)&&&0x0f
def o_ar (v:Nat):Nat:=o_em (o_aC (o_aa v))
theorem o_gO: ∀b<256,∀c<2,(c*128+b/2)&&&0x55=(b/2)&&&0x55:=by decide+kernel
theorem o_en: ∀b<256,(b/2)&&&0x55≤b:=by decide+kernel
theorem o_gP: ∀b<256,∀c<4,(c*64+b/4)&&&0x33=(b/4)&&&0x33:=by decide+kernel
theorem o_gQ: ∀b<80,∀c<5,(b+c*16+b/16)&&&0x0f=(b+b/16)&&&0x0f:=by decide+kernel
theorem o_cx: ∀b<256,o_aC (o_aa b)%16≤4∧o_aC (o_aa b)/16≤4∧o_aC (o_aa b)<80:=by decide+kernel
theorem o_bp: ∀b<256,o_ar b≤8∧(o_ar b=0→b=0)∧(o_ar b=1→b=2^Nat.log2 b∧Nat.log2 b<8):=by decide+kernel
theorem o_dv {Y b M:Nat}(hb:b<256)(hM:(Y/2)&&&M≤Y):(Y*256+b)-(((Y*256+b)/2)&&&(M*256+0x55))=(Y-((Y/2)&&&M))*256+o_aa b∧(((Y*256+b)/2)&&&(M*256+0x55))≤Y*256+b:=by
 have e:(Y*256+b)/2=(Y/2)*256+((Y%2)*128+b/2):=by omega
 rw[e,o_cw (by omega) (by decide),o_gO b hb _ (by omega)]
 have q:=o_en b hb
 unfold o_aa;omega
theorem o_dw {Y b M:Nat}(hb:b<256):((Y*256+b)&&&(M*256+0x33))+(((Y*256+b)/4)&&&(M*256+0x33))=((Y&&&M)+((Y/4)&&&M))*256+o_aC b:=by
 have e:(Y*256+b)/4=(Y/4)*256+((Y%4)*64+b/4):=by omega
 rw[e,o_cw hb (by decide),o_cw (by omega) (by decide),o_gP b hb _ (by omega)]
 unfold o_aC;omega
theorem o_dx {Y b M:Nat}(hb:b<80)(hY:Y%16<5):((Y*256+b)+(Y*256+b)/16)&&&(M*256+0x0f)=((Y+Y/16)&&&M)*256+o_em b:=by
 have e:(Y*256+b)+(Y*256+b)/16=(Y+Y/16)*256+(b+(Y%16)*16+b/16):=by omega
 rw[e,o_cw (by omega) (by decide),o_gQ b hb _ hY]
 rfl
theorem o_gR {n x1 x2 x3:Nat}(hn:n<4294967296)(h1:x1=n-((n/2)&&&1431655765))(h2:x2=(x1&&&858993459)+((x1/4)&&&858993459))(h3:x3=(x2+x2/16)&&&252645135):
  ((n/2)&&&1431655765)≤n∧x2<4294967296/2∧x2+x2/16<4294967296∧x3=((o_ar (n/16777216)*256+o_ar (n/65536%256))*256+o_ar (n/256%256))*256+o_ar (n%256):=by
 obtain ⟨b3,e3⟩: ∃b,b=n/16777216:=⟨_,rfl⟩
 obtain ⟨b2,e2⟩: ∃b,b=n/65536%256:=⟨_,rfl⟩
 obtain ⟨b1,e1⟩: ∃b,b=n/256%256:=⟨_,rfl⟩
 obtain ⟨b0,e0⟩: ∃b,b=n%256:=⟨_,rfl⟩
 have en:n=((b3*256+b2)*256+b1)*256+b0:=by omega
 have k3:b3<256:=by omega
 have k2:b2<256:=by omega
 have k1:b1<256:=by omega
 have k0:b0<256:=by omega
 rw[←e3,←e2,←e1,←e0]
 have m1:1431655765=((0x55*256+0x55)*256+0x55)*256+0x55:=rfl
 have m2:858993459=((0x33*256+0x33)*256+0x33)*256+0x33:=rfl
 have m3:252645135=((0x0f*256+0x0f)*256+0x0f)*256+0x0f:=rfl
 have q3:=o_en b3 k3
 have a2:=o_dv (Y:=b3) (M:=0x55) k2 q3
 have a1:=o_dv (Y:=b3*256+b2) (M:=0x55*256+0x55) k1 a2.2
 have a0:=o_dv (Y:=(b3*256+b2)*256+b1) (M:=(0x55*256+0x55)*256+0x55) k0 a1.2
 rw[←m1,←en] at a0
 have E1:x1=((o_aa b3*256+o_aa b2)*256+o_aa b1)*256+o_aa b0:=by rw[h1,a0.1,a1.1,a2.1];rfl
 have w: ∀b,b<256→o_aa b<256:=fun b hb=>by unfold o_aa;omega
 have c2:=o_dw (Y:=o_aa b3) (M:=0x33) (w _ k2)
 have c1:=o_dw (Y:=o_aa b3*256+o_aa b2) (M:=0x33*256+0x33) (w _ k1)
 have c0:=o_dw (Y:=(o_aa b3*256+o_aa b2)*256+o_aa b1) (M:=(0x33*256+0x33)*256+0x33) (w _ k0)
 rw[←m2,←E1] at c0
 have E2:x2=((o_aC (o_aa b3)*256+o_aC (o_aa b2))*256+o_aC (o_aa b1))*256+o_aC (o_aa b0):=by rw[h2,c0,c1,c2];rfl
 have t3:=o_cx b3 k3
 have t2:=o_cx b2 k2
 have t1:=o_cx b1 k1
 have t0:=o_cx b0 k0
 have d2:=o_dx (Y:=o_aC (o_aa b3)) (M:=0x0f) t2.2.2 (by omega)
 have d1:=o_dx (Y:=o_aC (o_aa b3)*256+o_aC (o_aa b2)) (M:=0x0f*256+0x0f) t1.2.2 (by omega)
 have d0:=o_dx (Y:=(o_aC (o_aa b3)*256+o_aC (o_aa b2))*256+o_aC (o_aa b1)) (M:=(0x0f*256+0x0f)*256+0x0f) t0.2.2 (by omega)
 rw[←m3,←E2] at d0
 refine ⟨a0.2,?_,?_,?_⟩
 ·omega
 ·omega
 ·rw[h3,d0,d1,d2];rfl
theorem o_gS {n x3 x4 x5:Nat}(hn:n<4294967296)(e:x3=((o_ar (n/16777216)*256+o_ar (n/65536%256))*256+o_ar (n/256%256))*256+o_ar (n%256))(h4:x4=x3+x3/256)(h5:x5=x4+x4/65536)(h6:x5%64=1):x4<4294967296∧x5<4294967296∧ ∃k,k<32∧n=2^k:=by
 have p3:=o_bp (n/16777216) (by omega)
 have p2:=o_bp (n/65536%256) (by omega)
 have p1:=o_bp (n/256%256) (by omega)
 have p0:=o_bp (n%256) (by omega)
 generalize o_ar (n/16777216)=f3 at*
 generalize o_ar (n/65536%256)=f2 at*
 generalize o_ar (n/256%256)=f1 at*
 generalize o_ar (n%256)=f0 at*
 have l3:=p3.1;have l2:=p2.1;have l1:=p1.1;have l0:=p0.1
 have d1:x3/256=(f3*256+f2)*256+f1:=by omega
 have d2:x4=f3*16777216+(f3+f2)*65536+(f2+f1)*256+(f1+f0):=by omega
 have d3:x4/65536=f3*256+(f3+f2):=by omega
 have tot:f3+f2+f1+f0=1:=by
  rw[h5,d3,d2] at h6
  clear p3 p2 p1 p0 e h4 h5 d1 d2 d3 hn
  omega
 refine ⟨by omega,by omega,?_⟩
 have w8:(2:Nat)^8=256:=rfl
 have w16:(2:Nat)^16=65536:=rfl
 have w:(2:Nat)^24=16777216:=rfl
 by_cases g3:f3=1
 ·have z2:=p2.2.1 (by omega);have z1:=p1.2.1 (by omega);have z0:=p0.2.1 (by omega);have q:=p3.2.2 g3
  refine ⟨Nat.log2 (n/16777216)+24,by omega,?_⟩
  rw[Nat.pow_add,←q.1,w];omega
 ·by_cases g2:f2=1
  ·have z3:=p3.2.1 (by omega);have z1:=p1.2.1 (by omega);have z0:=p0.2.1 (by omega);have q:=p2.2.2 g2
   refine ⟨Nat.log2 (n/65536%256)+16,by omega,?_⟩
   rw[Nat.pow_add,←q.1,w16];omega
  ·by_cases g1:f1=1
   ·have z3:=p3.2.1 (by omega);have z2:=p2.2.1 (by omega);have z0:=p0.2.1 (by omega);have q:=p1.2.2 g1
    refine ⟨Nat.log2 (n/256%256)+8,by omega,?_⟩
    rw[Nat.pow_add,←q.1,w8];omega
   ·have z3:=p3.2.1 (by omega);have z2:=p2.2.1 (by omega);have z1:=p1.2.1 (by omega);have q:=p0.2.2 (by omega)
    refine ⟨Nat.log2 (n%256),by omega,?_⟩
    rw[←q.1];omega
theorem o_bh (x:Int32):o_a x=(x.toBitVec.toNat:Int):=by
 have e:x.toInt=if 2*x.toBitVec.toNat<2^32 then (x.toBitVec.toNat:Int) else x.toBitVec.toNat-(2^32:Nat):=BitVec.toInt_eq_toNat_cond x.toBitVec
 have b:=x.toBitVec.isLt
 unfold o_a
 split at e<;>omega
theorem o_b2 {x q:Int32}{k:Nat}(hk:q.toBitVec.toNat%32=k)(h0:0<k):((x.toUInt32>>>(q&&&31).toUInt32).toInt32).toBitVec.toNat=x.toBitVec.toNat/2^k:=by
 have c:=c_iushr x q k hk h0
 have a:=o_bh x
 have b:=o_bh ((x.toUInt32>>>(q&&&31).toUInt32).toInt32)
 have g:(x.toInt%4294967296)=(x.toBitVec.toNat:Int):=a
 rw[g] at c
 have r:0≤(x.toBitVec.toNat:Int)/((2^k:Nat):Int):=Int.ediv_nonneg (Int.natCast_nonneg _) (Int.natCast_nonneg _)
 have s:=rng32 ((x.toUInt32>>>(q&&&31).toUInt32).toInt32)
 have e:(((x.toUInt32>>>(q&&&31).toUInt32).toInt32).toBitVec.toNat:Int)=(x.toBitVec.toNat:Int)/((2^k:Nat):Int):=by
  rw[←b];unfold o_a;omega
 have e':(((x.toBitVec.toNat/2^k:Nat)):Int)=(x.toBitVec.toNat:Int)/((2^k:Nat):Int):=Int.natCast_ediv _ _
 omega
theorem o_cy (x y:Int32):(x&&&y).toBitVec.toNat=x.toBitVec.toNat&&&y.toBitVec.toNat:=BitVec.toNat_and ..
theorem o_b3 (x y:Int32):(x+y).toBitVec.toNat=(x.toBitVec.toNat+y.toBitVec.toNat)%4294967296:=BitVec.toNat_add ..
theorem o_gT (x y:Int32):(x-y).toBitVec.toNat=(4294967296-y.toBitVec.toNat+x.toBitVec.toNat)%4294967296:=BitVec.toNat_sub ..
theorem o_gU {y i1 i2 i3 i4 i5:Int32}(h1:(y-(((y.toUInt32>>>((1:Int32)&&&31).toUInt32).toInt32)&&&(1431655765:Int32)))=i1)(h2:((i1&&&(858993459:Int32))+(((i1.toUInt32>>>((2:Int32)&&&31).toUInt32).toInt32)&&&(858993459:Int32)))=i2)
  (h3:((i2+((i2.toUInt32>>>((4:Int32)&&&31).toUInt32).toInt32))&&&(252645135:Int32))=i3) (h4:(i3+((i3.toUInt32>>>((8:Int32)&&&31).toUInt32).toInt32))=i4) (h5:(i4+((i4.toUInt32>>>((16:Int32)&&&31).toUInt32).toInt32))=i5) (h6:(i5&&&(63:Int32))=1): ∃k,k<32∧y.toBitVec.toNat=2^k:=by
 have b0:=y.toBitVec.isLt
 have c1:=o_gT y (((y.toUInt32>>>((1:Int32)&&&31).toUInt32).toInt32)&&&(1431655765:Int32))
 rw[h1,o_cy,o_b2 (k:=1) rfl (by decide)] at c1
 have c2:=o_b3 (i1&&&(858993459:Int32)) (((i1.toUInt32>>>((2:Int32)&&&31).toUInt32).toInt32)&&&(858993459:Int32))
 rw[h2,o_cy,o_cy,o_b2 (k:=2) rfl (by decide)] at c2
 have c3:=o_cy (i2+((i2.toUInt32>>>((4:Int32)&&&31).toUInt32).toInt32)) (252645135:Int32)
 rw[h3,o_b3,o_b2 (k:=4) rfl (by decide)] at c3
 have c4:=o_b3 i3 ((i3.toUInt32>>>((8:Int32)&&&31).toUInt32).toInt32)
 rw[h4,o_b2 (k:=8) rfl (by decide)] at c4
 have c5:=o_b3 i4 ((i4.toUInt32>>>((16:Int32)&&&31).toUInt32).toInt32)
 rw[h5,o_b2 (k:=16) rfl (by decide)] at c5
 have c6:=c_mask i5 63 6 (by decide) (by decide)
 rw[h6] at c6
 have u5:=o_bh i5
 have k1:(1431655765:Int32).toBitVec.toNat=1431655765:=rfl
 have k2:(858993459:Int32).toBitVec.toNat=858993459:=rfl
 have k3:(252645135:Int32).toBitVec.toNat=252645135:=rfl
 have k4:(1:Int32).toInt=1:=rfl
 rw[k1] at c1;rw[k2] at c2;rw[k3] at c3;rw[k4] at c6
 have w1:(2:Nat)^1=2:=rfl
 have w2:(2:Nat)^2=4:=rfl
 have w4:(2:Nat)^4=16:=rfl
 have w8:(2:Nat)^8=256:=rfl
 have w16:(2:Nat)^16=65536:=rfl
 have w6:((2^6:Nat):Int)=64:=rfl
 rw[w1] at c1;rw[w2] at c2;rw[w4] at c3;rw[w8] at c4;rw[w16] at c5;rw[w6] at c6
 generalize y.toBitVec.toNat=n at*
 generalize i1.toBitVec.toNat=x1 at*
 generalize i2.toBitVec.toNat=x2 at*
 generalize i3.toBitVec.toNat=x3 at*
 generalize i4.toBitVec.toNat=x4 at*
 have B:=o_gR (n:=n) (by omega) rfl rfl rfl
 have e1:x1=n-((n/2)&&&1431655765):=by
  have:=B.1;generalize (n/2)&&&1431655765=t at*;omega
 rw[←e1] at B
 have e2:x2=(x1&&&858993459)+((x1/4)&&&858993459):=by
  have:=B.2.1;generalize (x1&&&858993459)+((x1/4)&&&858993459)=t at*;omega
 rw[←e2] at B
 have e3:x3=(x2+x2/16)&&&252645135:=by
  rw[c3,Nat.mod_eq_of_lt B.2.2.1]
 rw[←e3] at B
 have e3':=B.2.2.2
 have l3:=(o_bp (n/16777216) (by omega)).1
 have l2:=(o_bp (n/65536%256) (by omega)).1
 have l1:=(o_bp (n/256%256) (by omega)).1
 have l0:=(o_bp (n%256) (by omega)).1
 have x3b:x3≤134744072:=by
  generalize o_ar (n/16777216)=f3 at*
  generalize o_ar (n/65536%256)=f2 at*
  generalize o_ar (n/256%256)=f1 at*
  generalize o_ar (n%256)=f0 at*
  omega
 have e4:x4=x3+x3/256:=by omega
 have x4b:x4<2000000000:=by omega
 have e5:i5.toBitVec.toNat=x4+x4/65536:=by omega
 have h7:(x4+x4/65536)%64=1:=by
  rw[←e5];unfold o_a at u5;omega
 exact (o_gS (by omega) e3' e4 rfl h7).2.2
def o_aH (t q k:Int32)(p:Int32×Int32):Int32×Int32:=if t<p.1 then ((p.1.toUInt32>>>(q&&&31).toUInt32).toInt32,p.2+k) else p
def o_bi (y:Int32):Int32:=if 0<((y^^^(-1))&&&(y-1)) then ((o_aH 4 2 2 (o_aH 16 4 4 (o_aH 256 8 8 (o_aH 65536 16 16 ((y^^^(-1))&&&(y-1),1))))).2+(((o_aH 4 2 2 (o_aH 16 4 4 (o_aH 256 8 8 (o_aH 65536 16 16 ((y^^^(-1))&&&(y-1),1))))).1.toUInt32>>>((1:Int32)&&&31).toUInt32).toInt32)) else ((y^^^(-1))&&&(y-1))&&&32
theorem o_cz {t q k i n i' n':Int32}(h1:t<i→i'=((i.toUInt32>>>(q&&&31).toUInt32).toInt32))(h2: ¬t<i→i'=i)(m1:t<i→n'=n+k)(m2: ¬t<i→n'=n):o_aH t q k (i,n)=(i',n'):=by
 unfold o_aH
 by_cases c:t<i
 ·simp only[c,if_true];rw[h1 c,m1 c]
 ·simp only[c,if_false];rw[h2 c,m2 c]
theorem o_gV {y i0 i1 i2 i3 i4 n1 n2 n3 n4:Int32}(h0:((y^^^(-1))&&&(y-1))=i0)(hp:0<i0)(e1:o_aH 65536 16 16 (i0,1)=(i1,n1))(e2:o_aH 256 8 8 (i1,n1)=(i2,n2))(e3:o_aH 16 4 4 (i2,n2)=(i3,n3))(e4:o_aH 4 2 2 (i3,n3)=(i4,n4)):(n4+((i4.toUInt32>>>((1:Int32)&&&31).toUInt32).toInt32))=o_bi y:=by
 unfold o_bi;rw[h0,e1,e2,e3,e4];simp only[hp,if_true]
theorem o_gW {y i0:Int32}(h0:((y^^^(-1))&&&(y-1))=i0)(hp: ¬0<i0):(i0&&&(32:Int32))=o_bi y:=by
 unfold o_bi;rw[h0];simp only[hp,if_false]
theorem o_gX: ∀k:Nat,k<32→(o_bi (Int32.ofNat (2^k))).toInt=(k:Int):=by decide+kernel
theorem o_eo {y:Int32}(h: ∃k,k<32∧y.toBitVec.toNat=2^k): ∃k:Nat,k≤31∧o_a y=2^k∧(o_bi y).toInt=k:=by
 obtain ⟨k,hk,e⟩:=h
 have b:=y.toBitVec.isLt
 have z:y=Int32.ofNat (2^k):=by
  apply Int32.toBitVec_inj.mp
  apply BitVec.eq_of_toNat_eq
  show _=(BitVec.ofNat 32 (2^k)).toNat
  rw[BitVec.toNat_ofNat,e,Nat.mod_eq_of_lt (by rw[←e];exact b)]
 refine ⟨k,by omega,by rw[o_bh,e];simp,?_⟩
 rw[z];exact o_gX k hk
def o_gY (y r:Int32):Prop:=r=1→ ∃k,k<32∧y.toBitVec.toNat=2^k
section OwnAB
variable (Z:State)(h:Heap)(x a:Addr)(k:ClassId)(n:Int)
def o_ep:Prop:= ∃w0,Arv Z h a k .int (1:Int32) [.int w0] (.int (0:Int32))∧ ¬w0=0∧n=o_a w0∧Exa Z h a "[I"
def o_dy:Prop:= ∃w0 w1,Arv Z h a k .int (2:Int32) [.int w0,.int w1] (.int (0:Int32))∧ ¬w0=0∧n=o_a w0*4294967296+o_a w1∧Exa Z h a "[I"
def o_gZ:Prop:= ∃w0 w1 w2,Arv Z h a k .int (3:Int32) [.int w0,.int w1,.int w2] (.int (0:Int32))∧ ¬w0=0∧n=(o_a w0*4294967296+o_a w1)*4294967296+o_a w2∧Exa Z h a "[I"
def o_bM:Prop:= ∃w0,o_U Z h x a k [w0]∧ ¬w0=0∧n=o_a w0
def o_aY:Prop:= ∃w0 w1,o_U Z h x a k [w0,w1]∧ ¬w0=0∧n=o_a w0*4294967296+o_a w1
def o_bq:Prop:= ∃w0 w1 w2,o_U Z h x a k [w0,w1,w2]∧ ¬w0=0∧n=(o_a w0*4294967296+o_a w1)*4294967296+o_a w2
def o_dz:Prop:= ∃w0 w1 w2 w3,o_U Z h x a k [w0,w1,w2,w3]∧ ¬w0=0∧n=((o_a w0*4294967296+o_a w1)*4294967296+o_a w2)*4294967296+o_a w3
end OwnAB
theorem o_dA {q:Int32}{s:Nat}(h:q.toInt=s)(hs:s≤31):((q.toUInt32>>>((5:Int32)&&&31).toUInt32).toInt32)=0:=by
 have c:=c_iushr q 5 5 (by decide) (by decide)
 rw[←Int32.toInt_inj,c,h]
 show _=0
 have e:((2^5:Nat):Int)=32:=rfl
 rw[e];omega
theorem o_dB {q:Int32}{s:Nat}(h:q.toInt=s)(hs:s≤31):(q&&&(31:Int32))=q:=by
 have c:=c_mask q 31 5 (by decide) (by decide)
 have e:((2^5:Nat):Int)=32:=rfl
 rw[←Int32.toInt_inj,c,h,e];omega
theorem o_eq {q:Int32}{s:Nat}(h:q.toInt=s)(h0: ¬q=0):1≤s:=by
 rw[←Int32.toInt_inj] at h0
 have e:(0:Int32).toInt=0:=rfl
 omega
theorem o_cA {x:Int32}(h:o_a x=0):x=0:=by
 rw[←Int32.toInt_inj]
 have e:(0:Int32).toInt=0:=rfl
 have r:=rng32 x
 unfold o_a at h;omega
theorem o_aQ {x:Int32}(h:0<o_a x): ¬x=0:=fun q=>by rw[o_bE q] at h;omega
theorem o_er {x:Int32}{n:Int}(h:x.toInt=n)(h0:0≤n):o_a x=n:=by have r:=rng32 x;unfold o_a;omega
theorem o_g0 {a b:Int32}(h: ¬b<a)(k: ¬a<b):a=b:=by
 rw[←Int32.toInt_inj];rw[Int32.lt_iff_toInt_lt] at h k;omega
section OwnSl
variable {x0 x1 sh:Int32}{ks:Nat}
theorem o_g1 (hs:sh.toInt=(ks:Int))(h0:sh=0):o_a x0*2^ks=o_a x0:=by
 subst h0
 have e:(0:Int32).toInt=0:=rfl
 have:ks=0:=by omega
 subst this;simp
theorem o_g2 (hs:sh.toInt=(ks:Int))(h0:sh=0):(o_a x0*4294967296+o_a x1)*2^ks=o_a x0*4294967296+o_a x1:=by
 subst h0
 have e:(0:Int32).toInt=0:=rfl
 have:ks=0:=by omega
 subst this;simp
theorem o_cB (hs:sh.toInt=(ks:Int))(h1:1≤ks)(hk:ks≤31)(h:((x0.toUInt32>>>(((32:Int32)-sh)&&&31).toUInt32).toInt32)=0):o_a x0*2^ks/4294967296=0:=by
 rw[←o_cu hs h1 hk,h];rfl
theorem o_g3 (hs:sh.toInt=(ks:Int))(h1:1≤ks)(hk:ks≤31)(h:((x0.toUInt32>>>(((32:Int32)-sh)&&&31).toUInt32).toInt32)=0)(hx: ¬x0=0): ¬(x0<<<(sh&&&31))=0:=by
 have e:=o_cB hs h1 hk h
 have s:=o_a' (x:=x0) hs hk
 have p:=o_a_ hx
 have g:=o_ap hk
 have m:=Int.mul_le_mul (Int.add_one_le_of_lt p) g.1 (by decide) (by omega)
 refine o_aQ ?_
 rw[s];omega
theorem o_g4 (hs:sh.toInt=(ks:Int))(h1:1≤ks)(hk:ks≤31):o_a x0*2^ks=o_a ((x0.toUInt32>>>(((32:Int32)-sh)&&&31).toUInt32).toInt32)*4294967296+o_a (x0<<<(sh&&&31)):=by
 have b:=o_cv (x:=x0) hk
 rw[o_er (o_cu (x:=x0) hs h1 hk) b.1,o_a' hs hk];omega
theorem o_g5 (hs:sh.toInt=(ks:Int))(h1:1≤ks)(hk:ks≤31)(h:((x0.toUInt32>>>(((32:Int32)-sh)&&&31).toUInt32).toInt32)=0):o_a x0*2^ks=o_a (x0<<<(sh&&&31)):=by
 have e:=o_cB hs h1 hk h
 rw[o_a' hs hk];omega
theorem o_es:(o_a x0*4294967296+o_a x1)*2^ks=o_a x0*2^ks*4294967296+o_a x1*2^ks:=by grind
theorem o_g6 (hs:sh.toInt=(ks:Int))(h1:1≤ks)(hk:ks≤31):(o_a x0*4294967296+o_a x1)*2^ks=(o_a ((x0.toUInt32>>>(((32:Int32)-sh)&&&31).toUInt32).toInt32)*4294967296+o_a ((x0<<<(sh&&&31))|||((x1.toUInt32>>>(((32:Int32)-sh)&&&31).toUInt32).toInt32)))*4294967296+o_a (x1<<<(sh&&&31)):=by
 have b:=o_cv (x:=x0) hk
 rw[o_es,o_er (o_cu (x:=x0) hs h1 hk) b.1,o_aX hs h1 hk,o_a' hs hk]
 generalize o_a x0*2^ks=p at*
 generalize o_a x1*2^ks=q at*
 omega
theorem o_g7 (hs:sh.toInt=(ks:Int))(h1:1≤ks)(hk:ks≤31)(h:((x0.toUInt32>>>(((32:Int32)-sh)&&&31).toUInt32).toInt32)=0):(o_a x0*4294967296+o_a x1)*2^ks=o_a ((x0<<<(sh&&&31))|||((x1.toUInt32>>>(((32:Int32)-sh)&&&31).toUInt32).toInt32))*4294967296+o_a (x1<<<(sh&&&31)):=by
 have e:=o_cB hs h1 hk h
 rw[o_es,o_aX hs h1 hk,o_a' hs hk]
 generalize o_a x0*2^ks=p at*
 generalize o_a x1*2^ks=q at*
 omega
theorem o_g8 (hs:sh.toInt=(ks:Int))(h1:1≤ks)(hk:ks≤31)(h:((x0.toUInt32>>>(((32:Int32)-sh)&&&31).toUInt32).toInt32)=0)(hx: ¬x0=0): ¬((x0<<<(sh&&&31))|||((x1.toUInt32>>>(((32:Int32)-sh)&&&31).toUInt32).toInt32))=0:=by
 have e:=o_cB hs h1 hk h
 have s:=o_aX (x:=x0) (y:=x1) hs h1 hk
 have b:=o_cv (x:=x1) hk
 have p:=o_a_ hx
 have g:=o_ap hk
 have m:=Int.mul_le_mul (Int.add_one_le_of_lt p) g.1 (by decide) (by omega)
 refine o_aQ ?_
 rw[s]
 generalize o_a x0*2^ks=p at*
 generalize o_a x1*2^ks=q at*
 omega
end OwnSl
theorem o_b4 {x y:Int32}{c pr cy:Int64}(hc:0≤c.toInt∧c.toInt<4294967296)(h:(((x.toInt64&&&(4294967295:Int64))*(y.toInt64&&&(4294967295:Int64)))+c)=pr)(h':((pr.toUInt64>>>((32:Int32)&&&0x3f).toInt64.toUInt64).toInt64)=cy):
  o_a pr.toInt32=(o_a x*o_a y+c.toInt)%4294967296∧cy.toInt=(o_a x*o_a y+c.toInt)/4294967296∧0≤cy.toInt∧cy.toInt<4294967296∧o_a cy.toInt32=cy.toInt:=by
 have m:=c_lmul (x.toInt64&&&(4294967295:Int64)) (y.toInt64&&&(4294967295:Int64))
 rw[o_2,o_2] at m
 have s:=c_ladd ((x.toInt64&&&(4294967295:Int64))*(y.toInt64&&&(4294967295:Int64))) c
 rw[h] at s
 have e:=o_bg pr;rw[h'] at e
 have l:=o_ae pr
 have l2:=o_ae cy
 have rx:=o_m x;have ry:=o_m y
 have b:=o_bD rx.1 (show o_a x≤4294967295 by omega) ry.1 (show o_a y≤4294967295 by omega)
 generalize o_a x*o_a y=P at*
 generalize ((x.toInt64&&&(4294967295:Int64))*(y.toInt64&&&(4294967295:Int64))).toInt=M at*
 omega
theorem o_b5:0≤(0:Int64).toInt∧(0:Int64).toInt<4294967296:=by decide
theorem o_dC {x y:Int32}(hx: ¬x=0)(hy: ¬y=0):1≤o_a x*o_a y:=by
 have a:=o_a_ hx;have b:=o_a_ hy
 have:=Int.mul_le_mul (show 1≤o_a x by omega) (show 1≤o_a y by omega) (by decide) (by omega)
 omega
theorem o_et {c:Int64}(h: ¬lcmpW c (0:Int64)=0)(e:o_a c.toInt32=c.toInt): ¬c.toInt32=0:=fun q=>by
 have a:=o_cq h
 have z:(0:Int64).toInt=0:=rfl
 rw[o_bE q] at e;omega
section OwnMb
variable {x0 x1 y:Int32}{pr0 cy0 pr1 cy1:Int64}
theorem o_g9 (h:(((x0.toInt64&&&(4294967295:Int64))*(y.toInt64&&&(4294967295:Int64)))+(0:Int64))=pr0)(h':((pr0.toUInt64>>>((32:Int32)&&&0x3f).toInt64.toUInt64).toInt64)=cy0):
  o_a x0*o_a y=o_a cy0.toInt32*4294967296+o_a pr0.toInt32∧o_a cy0.toInt32=cy0.toInt:=by
 obtain ⟨a,b,c,d,e⟩:=o_b4 o_b5 h h'
 have z:(0:Int64).toInt=0:=rfl
 rw[z] at a b
 refine ⟨?_,e⟩
 omega
theorem o_g_ (h:(((x1.toInt64&&&(4294967295:Int64))*(y.toInt64&&&(4294967295:Int64)))+(0:Int64))=pr1)(h':((pr1.toUInt64>>>((32:Int32)&&&0x3f).toInt64.toUInt64).toInt64)=cy1)
  (k:(((x0.toInt64&&&(4294967295:Int64))*(y.toInt64&&&(4294967295:Int64)))+cy1)=pr0) (k':((pr0.toUInt64>>>((32:Int32)&&&0x3f).toInt64.toUInt64).toInt64)=cy0):
  (o_a x0*4294967296+o_a x1)*o_a y=(o_a cy0.toInt32*4294967296+o_a pr0.toInt32)*4294967296+o_a pr1.toInt32∧o_a cy0.toInt32=cy0.toInt∧o_a x0*o_a y≤o_a cy0.toInt32*4294967296+o_a pr0.toInt32:=by
 obtain ⟨a,b,c,d,e⟩:=o_b4 o_b5 h h'
 have z:(0:Int64).toInt=0:=rfl
 rw[z] at a b
 obtain ⟨a2,b2,c2,d2,e2⟩:=o_b4 ⟨c,d⟩ k k'
 have g:(o_a x0*4294967296+o_a x1)*o_a y=(o_a x0*o_a y)*4294967296+o_a x1*o_a y:=by grind
 rw[g]
 generalize o_a x0*o_a y=P0 at*
 generalize o_a x1*o_a y=P1 at*
 refine ⟨?_,e2,?_⟩<;>omega
theorem o_eu {c:Int64}(h:lcmpW c (0:Int64)=0)(e:o_a c.toInt32=c.toInt):o_a c.toInt32=0:=by
 have a:=o_bo h
 have z:(0:Int64).toInt=0:=rfl
 omega
end OwnMb
section OwnMb2
variable {x0 x1 y c p0 p1:Int32}{E V:Int}
theorem o_g' (M:V=o_a c*4294967296+o_a p0∧o_a c=E)(h:o_a c=0):V=o_a p0:=by have:=M.1;omega
theorem o_ha (hx: ¬x0=0)(hy: ¬y=0)(M:o_a x0*o_a y=o_a c*4294967296+o_a p0∧o_a c=E)(h:o_a c=0): ¬p0=0:=o_aQ (by have:=M.1;have:=o_dC hx hy;omega)
theorem o_hb {A B:Int}(M:V=(o_a c*4294967296+o_a p0)*4294967296+o_a p1∧o_a c=E∧A≤B)(h:o_a c=0):V=o_a p0*4294967296+o_a p1:=by have:=M.1;omega
theorem o_hc (hx: ¬x0=0)(hy: ¬y=0)(M:V=(o_a c*4294967296+o_a p0)*4294967296+o_a p1∧o_a c=E∧o_a x0*o_a y≤o_a c*4294967296+o_a p0)(h:o_a c=0): ¬p0=0:=o_aQ (by have:=M.2.2;have:=o_dC hx hy;omega)
end OwnMb2
theorem o_ev {x y zz:Int32}{c pr cy:Int64}(hc:0≤c.toInt∧c.toInt<4294967296)(h:((((x.toInt64&&&(4294967295:Int64))*(y.toInt64&&&(4294967295:Int64)))+(zz.toInt64&&&(4294967295:Int64)))+c)=pr)(h':((pr.toUInt64>>>((32:Int32)&&&0x3f).toInt64.toUInt64).toInt64)=cy):
  o_a pr.toInt32=(o_a x*o_a y+o_a zz+c.toInt)%4294967296∧cy.toInt=(o_a x*o_a y+o_a zz+c.toInt)/4294967296∧0≤cy.toInt∧cy.toInt<4294967296∧o_a cy.toInt32=cy.toInt:=by
 have m:=c_lmul (x.toInt64&&&(4294967295:Int64)) (y.toInt64&&&(4294967295:Int64))
 rw[o_2,o_2] at m
 have s0:=c_ladd ((x.toInt64&&&(4294967295:Int64))*(y.toInt64&&&(4294967295:Int64))) (zz.toInt64&&&(4294967295:Int64))
 rw[o_2] at s0
 have s:=c_ladd (((x.toInt64&&&(4294967295:Int64))*(y.toInt64&&&(4294967295:Int64)))+(zz.toInt64&&&(4294967295:Int64))) c
 rw[h] at s
 have e:=o_bg pr;rw[h'] at e
 have l:=o_ae pr
 have l2:=o_ae cy
 have rx:=o_m x;have ry:=o_m y;have rz:=o_m zz
 have b:=o_bD rx.1 (show o_a x≤4294967295 by omega) ry.1 (show o_a y≤4294967295 by omega)
 generalize o_a x*o_a y=P at*
 generalize ((x.toInt64&&&(4294967295:Int64))*(y.toInt64&&&(4294967295:Int64))+(zz.toInt64&&&(4294967295:Int64))).toInt=M0 at*
 generalize ((x.toInt64&&&(4294967295:Int64))*(y.toInt64&&&(4294967295:Int64))).toInt=M at*
 omega
theorem o_hd {x0 x1 y0 y1:Int32}{B I F J G cb1 w H:Int64}
  (h1:(((y1.toInt64&&&(4294967295:Int64))*(x1.toInt64&&&(4294967295:Int64)))+(0:Int64))=B) (k1:((B.toUInt64>>>((32:Int32)&&&0x3f).toInt64.toUInt64).toInt64)=I)
  (h2:(((y0.toInt64&&&(4294967295:Int64))*(x1.toInt64&&&(4294967295:Int64)))+I)=F) (k2:((F.toUInt64>>>((32:Int32)&&&0x3f).toInt64.toUInt64).toInt64)=J)
  (h3:((((y1.toInt64&&&(4294967295:Int64))*(x0.toInt64&&&(4294967295:Int64)))+((F.toInt32).toInt64&&&(4294967295:Int64)))+(0:Int64))=G) (k3:((G.toUInt64>>>((32:Int32)&&&0x3f).toInt64.toUInt64).toInt64)=cb1)
  (h4:((((y0.toInt64&&&(4294967295:Int64))*(x0.toInt64&&&(4294967295:Int64)))+((J.toInt32).toInt64&&&(4294967295:Int64)))+cb1)=w) (k4:((w.toUInt64>>>((32:Int32)&&&0x3f).toInt64.toUInt64).toInt64)=H) (hx: ¬x0=0) (hy: ¬y0=0):
  (o_a x0*4294967296+o_a x1)*(o_a y0*4294967296+o_a y1)=((o_a H.toInt32*4294967296+o_a w.toInt32)*4294967296+o_a G.toInt32)*4294967296+o_a B.toInt32∧(H.toInt32=0→ ¬w.toInt32=0):=by
 have z:(0:Int64).toInt=0:=rfl
 obtain ⟨a1,b1,c1,d1,e1⟩:=o_b4 o_b5 h1 k1
 obtain ⟨a2,b2,c2,d2,e2⟩:=o_b4 ⟨c1,d1⟩ h2 k2
 obtain ⟨a3,b3,c3,d3,e3⟩:=o_ev o_b5 h3 k3
 obtain ⟨a4,b4,c4,d4,e4⟩:=o_ev ⟨c3,d3⟩ h4 k4
 rw[z] at a1 b1 a3 b3
 have p:=o_dC hy hx
 have g:(o_a x0*4294967296+o_a x1)*(o_a y0*4294967296+o_a y1)=(o_a y0*o_a x0)*18446744073709551616+(o_a y0*o_a x1+o_a y1*o_a x0)*4294967296+o_a y1*o_a x1:=by grind
 rw[g]
 generalize o_a y0*o_a x0=K at*
 generalize o_a y0*o_a x1=M at*
 generalize o_a y1*o_a x0=S at*
 generalize o_a y1*o_a x1=P11 at*
 refine ⟨?_,fun q=>o_aQ ?_⟩
 ·omega
 ·have q:=o_bE q;omega
def o_aF (Z:State)(P:Heap→Addr→Addr→ClassId→Prop)(h0:Heap)(n0:Nat)(v:Option Value)(h:Heap)(L:List Loc):Prop:= ∃(x a:Addr) (k:ClassId),v=some (.ref x)∧Fr n0 L∧Keep h0 h []∧P h x a k
theorem o_he {z0 z1 z2 z3:Int32}{V:Int}(h:z0=0)(e:V=((o_a z0*4294967296+o_a z1)*4294967296+o_a z2)*4294967296+o_a z3):V=(o_a z1*4294967296+o_a z2)*4294967296+o_a z3:=by rw[o_bE h] at e;omega
theorem o_b6 {n0 n1 n2 dh dl q r:Int}(h:n0*4294967296+n1=q*dh+r):(n0*4294967296+n1)*4294967296+n2-q*(dh*4294967296+dl)=r*4294967296+n2-q*dl:=by rw[h];grind
theorem o_hf {n q d:Int}:n-(q-1)*d=n-q*d+d:=by grind
theorem o_b7 {q dl:Int}(hq:0≤q)(hq':q≤4294967295)(hl:0≤dl)(hl':dl≤4294967295):0≤q*dl∧q*dl≤18446744065119617025:=by
 have:=o_bD hq hq' hl hl';omega
theorem o_ew {q r dl n2:Int}(hq:0≤q)(hq':q≤4294967295)(hl:0≤dl)(hl':dl≤4294967295)(hn:0≤n2)(hr:4294967296≤r):0≤r*4294967296+n2-q*dl:=by
 have:=o_b7 hq hq' hl hl';omega
theorem o_hg {q r dh dl n2:Int}(hq:0≤q)(hq':q≤4294967295)(hl:0≤dl)(hl':dl≤4294967295)(hn:0≤n2)(hr:0≤r)(hd:2147483648≤dh):0≤r*4294967296+n2-q*dl+2*(dh*4294967296+dl):=by
 have:=o_b7 hq hq' hl hl';omega
theorem o_ex {n0 n1 n2 dh dl:Int}(hn:n0*4294967296+n1<dh*4294967296+dl)(h2:n2<4294967296):(n0*4294967296+n1)*4294967296+n2-4294967295*(dh*4294967296+dl)<dh*4294967296+dl:=by omega
theorem o_hh {q r dh dl n2:Int}(hq:0≤q)(hl:0≤dl)(h2:n2<4294967296)(hr:r<dh):r*4294967296+n2-q*dl<dh*4294967296+dl:=by
 have:=Int.mul_nonneg hq hl;omega
theorem o_hi {Q p D c:Int}(hQ:0≤Q∧Q<4294967296)(hp:0≤p∧p≤18446744069414584320)(hD:D=(Q-p)%4294967296)(hc:c=p/4294967296+(if Q<p%4294967296 then 1 else 0)):Q-p=D-c*4294967296∧0≤c∧c<4294967296:=by
 split at hc<;>omega
theorem o_hj {n1 n2 x dh dl D1 D2 c1 c2:Int}(h2:n2-x*dl=D2-c2*4294967296)(h1:n1-(x*dh+c2)=D1-c1*4294967296):n1*4294967296+n2-x*(dh*4294967296+dl)=D1*4294967296+D2-c1*18446744073709551616:=by grind
theorem o_hk {n0 n1 n2 x d D1 D2 c:Int}(h:n1*4294967296+n2-x*d=D1*4294967296+D2-c*18446744073709551616)(h1:0≤D1∧D1<4294967296)(h2:0≤D2∧D2<4294967296)(hd:d<18446744073709551616)(lo:0≤(n0*4294967296+n1)*4294967296+n2-x*d)(hi:(n0*4294967296+n1)*4294967296+n2-x*d<d):c=n0∧D1*4294967296+D2=(n0*4294967296+n1)*4294967296+n2-x*d:=by
 generalize x*d=y at*
 omega
theorem o_hl {N d q0:Int}(hN:0≤N)(hd:2147483648≤d)(hd':d<4294967296)(hNd:N<d*4294967296)(hq:q0=N/2/(d/2)):0≤q0∧ -3*d<N-q0*d∧N-q0*d<d:=by
 have e0:1073741824≤d/2:=by omega
 have a:=Int.emod_add_mul_ediv (N/2) (d/2)
 have b:=Int.emod_nonneg (N/2) (show d/2≠0 by omega)
 have c:=Int.emod_lt_of_pos (N/2) (show 0<d/2 by omega)
 rw[←hq] at a
 have w:0≤q0:=by rw[hq];exact Int.ediv_nonneg (by omega) (by omega)
 generalize hm:N/2%(d/2)=m at*
 generalize he:d/2=ee at*
 --q0 ee=N/2-m,N=2 (q0 ee+m)+N%2,d=2 ee+d%2
 have hN2:N=2*(ee*q0+m)+N%2:=by omega
 have hd2:d=2*ee+d%2:=by omega
 have s:N-q0*d=2*m+N%2-q0*(d%2):=by
  have z:q0*d=2*(ee*q0)+q0*(d%2):=by rw[hd2];grind
  omega
 have B:q0*(d%2)≤2*d:=by
  have:d%2=0∨d%2=1:=by omega
  rcases this with h|h<;>rw[h]
  ·omega
  ·--q0 ee≤N/2<d 2^31,so q0<d 2^31/ee≤ ..
   have k:ee*q0<d*2147483648:=by omega
   have k2:d*2147483648≤ee*(2*d):=by
    have:d*2147483648≤d*(2*ee):=Int.mul_le_mul_of_nonneg_left (by omega) (by omega)
    have z:d*(2*ee)=ee*(2*d):=by grind
    omega
   have k3:q0<2*d:=Int.lt_of_mul_lt_mul_left (Int.lt_of_lt_of_le k k2) (by omega)
   omega
 have F:0≤q0*(d%2):=Int.mul_nonneg w (by omega)
 refine ⟨w,?_,?_⟩
 ·rw[s];omega
 ·rw[s];omega
def o_br (U:Int)(i n:Int32)(b:Int):Prop:= ∃s:Nat,s≤31∧n.toInt=31-s∧i.toInt=U/2^s∧0<i.toInt∧i.toInt<b
theorem o_cC {U b T:Int}{i n i' n' t q kk:Int32}{k:Nat}(H:o_br U i n b)(hk:k≤16)(h0:0<k)(hT:T=2^k)(ht:t.toInt=T)(hq:q.toBitVec.toNat%32=k)(hkk:kk.toInt= -(k:Int))(hb:b≤T*T)(hU:U<2147483648)
  (h1:i<t→i'=i) (h2: ¬i<t→i'=((i.toUInt32>>>(q&&&31).toUInt32).toInt32)) (m1:i<t→n'=n) (m2: ¬i<t→n'=n+kk):o_br U i' n' T:=by
 obtain ⟨s,a1,a2,a3,a4,a5⟩:=H
 have r:=rng32 i
 by_cases c:i<t
 ·have c':=Int32.lt_iff_toInt_lt.mp c
  rw[h1 c,m1 c];exact ⟨s,a1,a2,a3,a4,by omega⟩
 ·have c': ¬i.toInt<t.toInt:=fun z=>c (Int32.lt_iff_toInt_lt.mpr z)
  have e:=c_iushr i q k hq h0
  have p:((2^k:Nat):Int)=2^k:=o_aP k
  rw[p,←hT] at e
  have g:i.toInt%4294967296=i.toInt:=by omega
  rw[g] at e
  have w:0<T:=by have:=(o_ap (s:=k) (by omega)).1;omega
  have x:=c_iadd n kk
  have rn:=rng32 (n+kk)
  have sk:s+k≤31:=by
   have u:(2:Int)^s*T≤U:=by
    have z:T≤U/2^s:=by omega
    have zz:=Int.mul_le_mul_of_nonneg_left z (show (0:Int)≤2^s by have:=(o_ap a1).1;omega)
    exact Int.le_trans zz (Int.mul_ediv_self_le (by have:=(o_ap a1).1;omega))
   rw[hT,←Int.pow_add] at u
   refine Classical.byContradiction fun hh=> ?_
   have z:=Nat.pow_le_pow_right (n:=2) (by decide) (show 31≤s+k by omega)
   have e31:(2:Nat)^31=2147483648:=rfl
   have y:=o_aP (s+k)
   omega
  rw[h2 c,m2 c]
  refine ⟨s+k,sk,by omega,?_,?_,?_⟩
  ·have nn: ¬((2:Int)^s<0):=by have:=(o_ap a1).1;omega
   rw[e,a3,Int.pow_add,←hT,Int.ediv_ediv];simp[nn]
  ·rw[e];exact Int.lt_of_lt_of_le (by decide:(0:Int)<1) (Int.le_ediv_of_mul_le w (by omega))
  ·rw[e];exact Int.ediv_lt_of_lt_mul w (by omega)
def o_aR (u:Int)(r:Int32):Prop:= ∃k:Nat,r.toInt=k∧((u=0∧k=32)∨(k≤31∧2147483648≤u*2^k∧u*2^k<4294967296))
theorem o_hm {x i n:Int32}(hx:0<x.toInt)(H:o_br x.toInt i n 4):o_aR (o_a x) (n-((i.toUInt32>>>((1:Int32)&&&31).toUInt32).toInt32)):=by
 obtain ⟨s,a1,a2,a3,a4,a5⟩:=H
 have rx:=rng32 x
 have eu:o_a x=x.toInt:=by unfold o_a;omega
 have e:=c_iushr i 1 1 (by decide) (by decide)
 have p1:((2^1:Nat):Int)=2:=rfl
 rw[p1] at e
 have c:=c_isub n ((i.toUInt32>>>((1:Int32)&&&31).toUInt32).toInt32)
 have r:=rng32 (n-((i.toUInt32>>>((1:Int32)&&&31).toUInt32).toInt32))
 have ps:=o_ap a1
 have q:=Int.emod_add_mul_ediv x.toInt (2^s)
 have q1:=Int.emod_nonneg x.toInt (show (2:Int)^s≠0 by omega)
 have q2:=Int.emod_lt_of_pos x.toInt (show (0:Int)<2^s by omega)
 rw[←a3] at q
 rw[eu]
 have pc: ∀j:Nat,j≤31→(2:Int)^j*2^(31-j)=2147483648:=fun j hj=>by rw[←Int.pow_add,Nat.add_sub_cancel' hj];rfl
 by_cases h1:i.toInt=1
 ·refine ⟨31-s,by omega,Or.inr ⟨by omega,?_,?_⟩⟩
  ·have:=Int.mul_le_mul_of_nonneg_right (show (2:Int)^s≤x.toInt by rw[h1] at q;omega) (show (0:Int)≤2^(31-s) by have:=(o_ap (s:=31-s) (by omega)).1;omega)
   rw[pc s a1] at this;exact this
  ·have:=Int.mul_lt_mul_of_pos_right (show x.toInt<2*2^s by rw[h1] at q;omega) (show (0:Int)<2^(31-s) by have:=(o_ap (s:=31-s) (by omega)).1;omega)
   rw[Int.mul_assoc,pc s a1] at this;exact this
 ·have w:s≤30:=by
   refine Classical.byContradiction fun hh=> ?_
   have:s=31:=by omega
   subst this
   have e31:(2:Int)^31=2147483648:=rfl
   rw[e31] at a3;omega
  have pp:(2:Int)^(s+1)=2*2^s:=by rw[Int.pow_succ];omega
  refine ⟨31-(s+1),by omega,Or.inr ⟨by omega,?_,?_⟩⟩
  ·have lo:2*2^s≤x.toInt:=by
    have:=Int.mul_le_mul_of_nonneg_left (show 2≤i.toInt by omega) (show (0:Int)≤2^s by omega);omega
   have:=Int.mul_le_mul_of_nonneg_right (show (2:Int)^(s+1)≤x.toInt by omega) (show (0:Int)≤2^(31-(s+1)) by have:=(o_ap (s:=31-(s+1)) (by omega)).1;omega)
   rw[pc (s+1) (by omega)] at this;exact this
  ·have hi:x.toInt<2*2^(s+1):=by
    have:=Int.mul_le_mul_of_nonneg_left (show i.toInt≤3 by omega) (show (0:Int)≤2^s by omega);omega
   have:=Int.mul_lt_mul_of_pos_right hi (show (0:Int)<2^(31-(s+1)) by have:=(o_ap (s:=31-(s+1)) (by omega)).1;omega)
   rw[Int.mul_assoc,pc (s+1) (by omega)] at this;exact this
theorem o_hn {x:Int32}(h:x=0):o_aR (o_a x) 32:=⟨32,rfl,Or.inl ⟨by subst h;rfl,rfl⟩⟩
theorem o_ho {x:Int32}(h: ¬0<x)(h0: ¬x=0):o_aR (o_a x) 0:=by
 rw[Int32.lt_iff_toInt_lt] at h;rw[←Int32.toInt_inj] at h0
 have e:(0:Int32).toInt=0:=rfl
 have r:=rng32 x
 refine ⟨0,rfl,Or.inr ⟨by omega,?_,?_⟩⟩<;>simp only[Int.pow_zero,Int.mul_one]<;>unfold o_a<;>omega
theorem o_hp {x:Int32}(h:0<x):o_br x.toInt x 31 4294967296:=by
 rw[Int32.lt_iff_toInt_lt] at h
 have e:(0:Int32).toInt=0:=rfl
 have r:=rng32 x
 exact ⟨0,by decide,rfl,by simp,by omega,by omega⟩
def o_s (x:Int64):Int:=x.toInt%18446744073709551616
theorem o_b8 (x:Int64):0≤o_s x∧o_s x<18446744073709551616:=by unfold o_s;omega
theorem o_cD (x:Int64):(x+(-9223372036854775808:Int64)).toInt=o_s x-9223372036854775808:=by
 have c:=c_ladd x (-9223372036854775808)
 have e:(-9223372036854775808:Int64).toInt= -9223372036854775808:=rfl
 have r:=rng64 (x+(-9223372036854775808:Int64));have r2:=rng64 x
 unfold o_s;omega
theorem o_hq {a b:Int64}(h:0<lcmpW (a+(-9223372036854775808:Int64)) (b+(-9223372036854775808:Int64))):o_s b<o_s a:=by
 have:=o_ds h;rw[o_cD,o_cD] at this;omega
theorem o_hr {a b:Int64}(h: ¬0<lcmpW (a+(-9223372036854775808:Int64)) (b+(-9223372036854775808:Int64))):o_s a≤o_s b:=by
 have:=o_cp h;rw[o_cD,o_cD] at this;omega
section OwnDw
variable {dd:Int32}{dl nn q0 r0 q r q' r':Int64}{j:Int}
theorem o_hs (e:dl.toInt=o_a dd)(h:2147483648≤o_a dd): ¬lcmpW dl (1:Int64)=0:=fun q=>by
 have:=o_bo q
 have o:(1:Int64).toInt=1:=rfl
 omega
theorem o_dD (x:Int64):((x.toUInt64>>>((1:Int32)&&&0x3f).toInt64.toUInt64).toInt64).toInt=o_s x/2:=c_lushr x 1 1 (by decide) (by decide)
theorem o_ht (e:dl.toInt=o_a dd)(h:2147483648≤o_a dd):((dl.toUInt64>>>((1:Int32)&&&0x3f).toInt64.toUInt64).toInt64)≠0:=fun q=>by
 have z:=o_dD dl
 rw[q] at z
 have o:(0:Int64).toInt=0:=rfl
 have r:=o_m dd
 unfold o_s at z;omega
def o_bF (N D:Int)(q r:Int64)(j:Int):Prop:=r.toInt=N-q.toInt*D∧(j-3)*D<r.toInt∧r.toInt<D∧ -j≤q.toInt
theorem o_hu (e:dl.toInt=o_a dd)(h:2147483648≤o_a dd)(hN:o_s nn<o_a dd*4294967296)(hq:((nn.toUInt64>>>((1:Int32)&&&0x3f).toInt64.toUInt64).toInt64)/((dl.toUInt64>>>((1:Int32)&&&0x3f).toInt64.toUInt64).toInt64)=q0)(hr:nn-q0*dl=r0):o_bF (o_s nn) (o_a dd) q0 r0 0:=by
 have a:=o_dD nn
 have b:=o_dD dl
 have w:=o_m dd
 have un:=o_b8 nn
 have ul:o_s dl=o_a dd:=by unfold o_s;omega
 rw[ul] at b
 have c:=(c_ldiv ((nn.toUInt64>>>((1:Int32)&&&0x3f).toInt64.toUInt64).toInt64) ((dl.toUInt64>>>((1:Int32)&&&0x3f).toInt64.toUInt64).toInt64) (o_a dd/2) b (fun q=>by
  rw[q] at b
  have o:(-1:Int64).toInt= -1:=rfl
  omega)).1 (by rw[a];omega)
 rw[hq,a] at c
 obtain ⟨d1,d2,d3⟩:=o_hl un.1 h w.2 hN c
 have m:=c_lmul q0 dl
 rw[e] at m
 have s:=c_lsub nn (q0*dl)
 rw[hr] at s
 have rr:=rng64 r0
 have rq:=rng64 q0
 have B:(o_s nn-nn.toInt)%18446744073709551616=0:=by unfold o_s;omega
 unfold o_bF
 generalize q0.toInt*o_a dd=P at*
 generalize (q0*dl).toInt=M at*
 refine ⟨?_,?_,?_,?_⟩<;>omega
theorem o_dE (e:dl.toInt=o_a dd)(h:2147483648≤o_a dd)(I:o_bF (o_s nn) (o_a dd) q r j)(hl:lcmpW r (0:Int64)<0)(hr:r+dl=r')(hq:q-(1:Int64)=q')(hj:0≤j∧j≤2):o_bF (o_s nn) (o_a dd) q' r' (j+1):=by
 obtain ⟨a,b,c,d⟩:=I
 have l:=o_aJ hl
 have o:(0:Int64).toInt=0:=rfl
 have o1:(1:Int64).toInt=1:=rfl
 have w:=o_m dd
 have x:=c_ladd r dl;rw[hr,e] at x
 have y:=c_lsub q 1;rw[hq,o1] at y
 have r1:=rng64 r';have r2:=rng64 q';have r3:=rng64 q
 have er:r'.toInt=r.toInt+o_a dd:=by
  have: -3*o_a dd≤(j-3)*o_a dd:=by
   have:=Int.mul_le_mul_of_nonneg_right (show (-3:Int)≤j-3 by omega) w.1;omega
  omega
 have eq:q'.toInt=q.toInt-1:=by omega
 refine ⟨?_,?_,?_,?_⟩
 ·rw[er,eq,a];grind
 ·rw[er];have:(j+1-3)*o_a dd=(j-3)*o_a dd+o_a dd:=by grind
  omega
 ·omega
 ·omega
theorem o_ey (e:dl.toInt=o_a dd)(I:o_bF (o_s nn) (o_a dd) q r 3): ¬lcmpW r (0:Int64)<0:=fun h=>by
 have l:=o_aJ h
 have o:(0:Int64).toInt=0:=rfl
 have:=I.2.1;omega
theorem o_cE (e:dl.toInt=o_a dd)(I:o_bF (o_s nn) (o_a dd) q r j):lcmpW r dl<0:=Classical.byContradiction fun h=>by
 have l:=o_a9 h
 have:=I.2.2.1;omega
theorem o_cF (e:dl.toInt=o_a dd)(h:2147483648≤o_a dd)(hN:o_s nn<o_a dd*4294967296)(I:o_bF (o_s nn) (o_a dd) q r j)(hr: ¬lcmpW r (0:Int64)<0):o_a ((r<<<((32:Int32)&&&0x3f).toInt64)|||(q&&&(4294967295:Int64))).toInt32=o_s nn/o_a dd∧o_s ((r<<<((32:Int32)&&&0x3f).toInt64)|||(q&&&(4294967295:Int64)))/4294967296=o_s nn%o_a dd:=by
 obtain ⟨a,b,c,d⟩:=I
 have l:=o_a9 hr
 have o:(0:Int64).toInt=0:=rfl
 rw[o] at l
 have B:=o_m dd
 have un:=o_b8 nn
 have eq:o_s nn/o_a dd=q.toInt∧o_s nn%o_a dd=r.toInt:=by
  have z:o_s nn=r.toInt+o_a dd*q.toInt:=by rw[a];grind
  constructor
  ·rw[z,Int.add_mul_ediv_left _ _ (by omega),Int.ediv_eq_zero_of_lt l c];omega
  ·rw[z,Int.add_mul_emod_self_left,Int.emod_eq_of_lt l c]
 have q0:0≤q.toInt:=by rw[←eq.1];exact Int.ediv_nonneg un.1 B.1
 have q1:q.toInt<4294967296:=by rw[←eq.1];exact Int.ediv_lt_of_lt_mul (by omega) (by rw[Int.mul_comm];exact hN)
 have s:=c_lshl r 32 32 (by decide)
 have F:((2^32:Nat):Int)=4294967296:=rfl
 rw[F] at s
 have m:=o_cs q
 have rs:=rng64 (r<<<((32:Int32)&&&0x3f).toInt64)
 have w:=c_orL (r<<<((32:Int32)&&&0x3f).toInt64) (q&&&(4294967295:Int64)) 32 (by decide) 4294967296 rfl (by omega) (by omega) (by omega)
 have rw_:=rng64 ((r<<<((32:Int32)&&&0x3f).toInt64)|||(q&&&(4294967295:Int64)))
 rw[o_ae,eq.1,eq.2]
 unfold o_s
 generalize ((r<<<((32:Int32)&&&0x3f).toInt64)|||(q&&&(4294967295:Int64))).toInt=W at*
 generalize (r<<<((32:Int32)&&&0x3f).toInt64).toInt=S at*
 generalize (q&&&(4294967295:Int64)).toInt=M at*
 omega
end OwnDw
theorem o_cG (x:Int32):(x+(-2147483648:Int32)).toInt=o_a x-2147483648:=by
 have c:=c_iadd x (-2147483648)
 have e:(-2147483648:Int32).toInt= -2147483648:=rfl
 have r:=rng32 (x+(-2147483648:Int32));have r2:=rng32 x
 unfold o_a;omega
theorem o_bG {x y:Int32}(h:(x+(-2147483648:Int32))<(y+(-2147483648:Int32))):o_a x<o_a y:=by
 rw[Int32.lt_iff_toInt_lt,o_cG,o_cG] at h;omega
theorem o_aZ {x y:Int32}(h: ¬(x+(-2147483648:Int32))<(y+(-2147483648:Int32))):o_a y≤o_a x:=by
 rw[Int32.lt_iff_toInt_lt,o_cG,o_cG] at h;omega
def o_bs (A B:Int)(r:Int32):Prop:=(r= -1∧A<B)∨(r=0∧A=B)∨(r=1∧B<A)
section OwnC3
variable {x0 x1 y0 y1:Int32}
theorem o_cH (h:o_a x0<o_a y0):o_a x0*4294967296+o_a x1<o_a y0*4294967296+o_a y1:=by have a:=o_m x1;have b:=o_m y1;omega
theorem o_dF {A B:Int}(h:o_a y0≤o_a x0)(h':o_a x0≤o_a y0):o_a x0*4294967296+A-(o_a y0*4294967296+B)=A-B:=by omega
end OwnC3
theorem o_hv {a b:Int32}(h:b<a): ¬a<b:=fun q=>by rw[Int32.lt_iff_toInt_lt] at h q;omega
section OwnLv
variable {w0 w1:Int32}
theorem o_dG (x:Int64)(y:Int32)(hx:0≤x.toInt)(hb:x.toInt*4294967296+o_a y<9223372036854775808):((x<<<((32:Int32)&&&0x3f).toInt64)+(y.toInt64&&&(4294967295:Int64))).toInt=x.toInt*4294967296+o_a y:=by
 have s:=c_lshl x 32 32 (by decide)
 have w:((2^32:Nat):Int)=4294967296:=rfl
 rw[w] at s
 have a:=c_ladd (x<<<((32:Int32)&&&0x3f).toInt64) (y.toInt64&&&(4294967295:Int64))
 rw[o_2] at a
 have u:=o_m y
 have r:=rng64 ((x<<<((32:Int32)&&&0x3f).toInt64)+(y.toInt64&&&(4294967295:Int64)))
 omega
theorem o_ez (y:Int32):(((0:Int64)<<<((32:Int32)&&&0x3f).toInt64)+(y.toInt64&&&(4294967295:Int64))).toInt=o_a y:=by
 have u:=o_m y
 have z:(0:Int64).toInt=0:=rfl
 have q:=o_dG (0:Int64) y (by rw[z];omega) (by rw[z];omega)
 rw[q,z];omega
theorem o_hw (h:o_a w0*4294967296+o_a w1<9007199254740992):(((((0:Int64)<<<((32:Int32)&&&0x3f).toInt64)+(w0.toInt64&&&(4294967295:Int64)))<<<((32:Int32)&&&0x3f).toInt64)+(w1.toInt64&&&(4294967295:Int64))).toInt=(o_a w0*4294967296+o_a w1):=by
 have q:=o_ez w0
 have u:=o_m w0
 rw[o_dG _ _ (by rw[q];omega) (by rw[q];omega),q]
theorem o_hx:(((((0:Int64)<<<((32:Int32)&&&0x3f).toInt64)+((0:Int32).toInt64&&&(4294967295:Int64)))<<<((32:Int32)&&&0x3f).toInt64)+(w0.toInt64&&&(4294967295:Int64))).toInt=o_a w0:=by
 have q:=o_ez 0
 have z:o_a (0:Int32)=0:=rfl
 have u:=o_m w0
 rw[o_dG _ _ (by rw[q,z];omega) (by rw[q,z];omega),q,z];omega
end OwnLv
theorem o_Z {α:Type}{P:α→Prop}{L:List α}(n:Nat)(h1: ∀x∈L.take n,P x)(h2: ∀x∈L.drop n,P x): ∀x∈L,P x:=fun x hx=>by
 rw[←List.take_append_drop n L] at hx;exact (List.mem_append.mp hx).elim (h1 x) (h2 x)
section OwnStep2
def o_I (p:Program)(c:Code)(s Z:State)(m:MethodId)(own:String)(ml:Nat)(a0:Array Value)(xs:List (Nat×Jvm.ClassFile.Instr×Nat)):Prop:=
 p.tables.exec=Jvm.exec∧(∀(k pc:Nat) (i:Jvm.ClassFile.Instr) (n:Nat),xs[k]? =some (pc,i,n)→decode c.code pc= .ok (i,n))∧s.vm.findClass own=some m.cls∧Z.Warmed39 s.vm∧c.maxLocals=ml∧ ∀d∈tables_1,d.before a0 Z=true
variable {p:Program}{l:Launch}{e:Env}{R:Room}{s:State}{m:MethodId}{args:Array Value}{below:List Frame}{meth:Method}{c:Code}{T:State}{locs:List Loc}{cells slots:Nat}{Fn:Outcome→State→Prop}{pc:Nat}{L:Array Slot}{st:List Value}{k:Nat}{kn:Fin 4}{x y z:Int32}{xl yl zl:Int64}{k2:Fin 2}{a:Value}{i o:Int}{cd:ClassFile.Cond}{Z:State}{own:String}{ml:Nat}{a0:Array Value}{xs:List (Nat×Jvm.ClassFile.Instr×Nat)}
theorem o_t {b:ByteArray}(hx:p.tables.exec=Jvm.exec)(w:c.code=b)(H: ∀x∈xs,decode b x.1= .ok (x.2.1,x.2.2))(B:s.vm.findClass own=some m.cls)(hZ:Z.Warmed39 s.vm)(F:c.maxLocals=ml)(hw: ∀d∈tables_1,d.before a0 Z=true):o_I p c s Z m own ml a0 xs:=
 And.intro hx (And.intro (fun k _ _ _ h=>o_S w H k h) (And.intro B (And.intro hZ (And.intro F hw))))
theorem o_M (G:o_I p c s Z m own ml a0 xs):p.tables.exec=Jvm.exec:=And.left G
theorem o_N {n:Nat}{i:Jvm.ClassFile.Instr}(G:o_I p c s Z m own ml a0 xs)(h:xs[k]? =some (pc,i,n)):decode c.code pc= .ok (i,n):=And.left (And.right G) k pc i n h
theorem o_bj (G:o_I p c s Z m own ml a0 xs):s.vm.findClass own=some m.cls:=And.left (And.right (And.right G))
theorem o_6 (G:o_I p c s Z m own ml a0 xs):Z.Warmed39 s.vm:=And.left (And.right (And.right (And.right G)))
theorem o_cI (G:o_I p c s Z m own ml a0 xs):c.maxLocals=ml:=And.left (And.right (And.right (And.right (And.right G))))
theorem o_5 {d:Jvm.Cond}(G:o_I p c s Z m own ml a0 xs)(h:tables_1[k]? =some d):d.before a0 Z=true:=And.right (And.right (And.right (And.right (And.right G)))) _ (List.mem_of_getElem? h)
theorem o_k (st':List Value)(w:o_f p e below Fn T (mkF m pc L st'))(h:st=st':=by exact rfl):o_f p e below Fn T (mkF m pc L st):=h▸w
theorem o_d (q j:Nat)(X:Stand p l e R s m args below meth c T locs cells slots)(G:o_I p c s Z m own ml a0 xs)(w:o_f p e below Fn T (mkF m q L (.int x::st)))(hj:xs[j]? =some (pc,.iload k,2):=by exact rfl)(hl:L[k]? =some (.val (.int x)):=by exact rfl)(hq:pc+2=q:=by exact rfl):o_f p e below Fn T (mkF m pc L st):=by
 subst hq;exact o_i (T':=T) (mkF m (pc+2) L (.int x::st)) (fun _ j=>XS.iload X.here (o_M G) rfl (o_N G hj) hl j) w
theorem o_e (q j:Nat)(X:Stand p l e R s m args below meth c T locs cells slots)(G:o_I p c s Z m own ml a0 xs)(w:o_f p e below Fn T (mkF m q L (.int x::st)))(hj:xs[j]? =some (pc,.iload_n kn,1):=by exact rfl)(hl:L[kn.val]? =some (.val (.int x)):=by exact rfl)(hq:pc+1=q:=by exact rfl):o_f p e below Fn T (mkF m pc L st):=by
 subst hq;exact o_i (T':=T) (mkF m (pc+1) L (.int x::st)) (fun _ j=>XS.iloadN X.here (o_M G) rfl (o_N G hj) hl j) w
theorem o_l (q j:Nat)(X:Stand p l e R s m args below meth c T locs cells slots)(G:o_I p c s Z m own ml a0 xs)(w:o_f p e below Fn T (mkF m q L (a::st)))(hj:xs[j]? =some (pc,.aload k,2):=by exact rfl)(hl:L[k]? =some (.val a):=by exact rfl)(hv:a.isRef=true:=by exact rfl)(hq:pc+2=q:=by exact rfl):o_f p e below Fn T (mkF m pc L st):=by
 subst hq;exact o_i (T':=T) (mkF m (pc+2) L (a::st)) (fun _ j=>XS.aload X.here (o_M G) rfl (o_N G hj) hl hv j) w
theorem o_c (q j:Nat)(X:Stand p l e R s m args below meth c T locs cells slots)(G:o_I p c s Z m own ml a0 xs)(w:o_f p e below Fn T (mkF m q L (a::st)))(hj:xs[j]? =some (pc,.aload_n kn,1):=by exact rfl)(hl:L[kn.val]? =some (.val a):=by exact rfl)(hv:a.isRef=true:=by exact rfl)(hq:pc+1=q:=by exact rfl):o_f p e below Fn T (mkF m pc L st):=by
 subst hq;exact o_i (T':=T) (mkF m (pc+1) L (a::st)) (fun _ j=>XS.aloadN X.here (o_M G) rfl (o_N G hj) hl hv j) w
theorem o_g (q j:Nat)(z:Int32)(X:Stand p l e R s m args below meth c T locs cells slots)(G:o_I p c s Z m own ml a0 xs)(w:o_f p e below Fn T (mkF m q L (.int z::st)))(hj:xs[j]? =some (pc,.iconst i,1):=by exact rfl)(hz:Int32.ofInt i=z:=by exact rfl)(hq:pc+1=q:=by exact rfl):o_f p e below Fn T (mkF m pc L st):=by
 subst hq;subst hz;exact o_i (T':=T) (mkF m (pc+1) L (.int (Int32.ofInt i)::st)) (fun _ j=>XS.iconst X.here (o_M G) rfl (o_N G hj) j) w
theorem o_B (q j:Nat)(z:Int32)(X:Stand p l e R s m args below meth c T locs cells slots)(G:o_I p c s Z m own ml a0 xs)(w:o_f p e below Fn T (mkF m q L (.int z::st)))(hj:xs[j]? =some (pc,.bipush i,2):=by exact rfl)(hz:(Int8.ofInt i).toInt32=z:=by exact rfl)(hq:pc+2=q:=by exact rfl):o_f p e below Fn T (mkF m pc L st):=by
 subst hq;subst hz;exact o_i (T':=T) (mkF m (pc+2) L (.int ((Int8.ofInt i).toInt32)::st)) (fun _ j=>XS.bipush X.here (o_M G) rfl (o_N G hj) j) w
theorem o_eA (q j:Nat)(z:Int32)(X:Stand p l e R s m args below meth c T locs cells slots)(G:o_I p c s Z m own ml a0 xs)(w:o_f p e below Fn T (mkF m q L (.int z::st)))(hj:xs[j]? =some (pc,.sipush i,3):=by exact rfl)(hz:(Int16.ofInt i).toInt32=z:=by exact rfl)(hq:pc+3=q:=by exact rfl):o_f p e below Fn T (mkF m pc L st):=by
 subst hq;subst hz;exact o_i (T':=T) (mkF m (pc+3) L (.int ((Int16.ofInt i).toInt32)::st)) (fun _ j=>XS.sipush X.here (o_M G) rfl (o_N G hj) j) w
theorem o_v (q j:Nat)(X:Stand p l e R s m args below meth c T locs cells slots)(G:o_I p c s Z m own ml a0 xs)(w:o_f p e below Fn T (mkF m q L (.int z::st)))(hj:xs[j]? =some (pc,.iadd,1):=by exact rfl)(hz:x+y=z:=by exact rfl)(hq:pc+1=q:=by exact rfl):o_f p e below Fn T (mkF m pc L (.int y:: .int x::st)):=by
 subst hq;subst hz;exact o_i (T':=T) (mkF m (pc+1) L (.int (x+y)::st)) (fun _ j=>XS.iadd X.here (o_M G) rfl (o_N G hj) rfl j) w
theorem o_J (q j:Nat)(X:Stand p l e R s m args below meth c T locs cells slots)(G:o_I p c s Z m own ml a0 xs)(w:o_f p e below Fn T (mkF m q L (.int z::st)))(hj:xs[j]? =some (pc,.isub,1):=by exact rfl)(hz:x-y=z:=by exact rfl)(hq:pc+1=q:=by exact rfl):o_f p e below Fn T (mkF m pc L (.int y:: .int x::st)):=by
 subst hq;subst hz;exact o_i (T':=T) (mkF m (pc+1) L (.int (x-y)::st)) (fun _ j=>XS.isub X.here (o_M G) rfl (o_N G hj) rfl j) w
theorem o_ba (q j:Nat)(X:Stand p l e R s m args below meth c T locs cells slots)(G:o_I p c s Z m own ml a0 xs)(w:o_f p e below Fn T (mkF m q L (.int z::st)))(hj:xs[j]? =some (pc,.iand,1):=by exact rfl)(hz:x&&&y=z:=by exact rfl)(hq:pc+1=q:=by exact rfl):o_f p e below Fn T (mkF m pc L (.int y:: .int x::st)):=by
 subst hq;subst hz;exact o_i (T':=T) (mkF m (pc+1) L (.int (x&&&y)::st)) (fun _ j=>XS.iand X.here (o_M G) rfl (o_N G hj) rfl j) w
theorem o_b9 (q j:Nat)(X:Stand p l e R s m args below meth c T locs cells slots)(G:o_I p c s Z m own ml a0 xs)(w:o_f p e below Fn T (mkF m q L (.int z::st)))(hj:xs[j]? =some (pc,.ior,1):=by exact rfl)(hz:x|||y=z:=by exact rfl)(hq:pc+1=q:=by exact rfl):o_f p e below Fn T (mkF m pc L (.int y:: .int x::st)):=by
 subst hq;subst hz;exact o_i (T':=T) (mkF m (pc+1) L (.int (x|||y)::st)) (fun _ j=>XS.ior X.here (o_M G) rfl (o_N G hj) rfl j) w
theorem o_aS (q j:Nat)(X:Stand p l e R s m args below meth c T locs cells slots)(G:o_I p c s Z m own ml a0 xs)(w:o_f p e below Fn T (mkF m q L (.int z::st)))(hj:xs[j]? =some (pc,.ishl,1):=by exact rfl)(hz:x<<<(y&&&31)=z:=by exact rfl)(hq:pc+1=q:=by exact rfl):o_f p e below Fn T (mkF m pc L (.int y:: .int x::st)):=by
 subst hq;subst hz;exact o_i (T':=T) (mkF m (pc+1) L (.int (x<<<(y&&&31))::st)) (fun _ j=>XS.ishl X.here (o_M G) rfl (o_N G hj) rfl j) w
theorem o_af (q j:Nat)(X:Stand p l e R s m args below meth c T locs cells slots)(G:o_I p c s Z m own ml a0 xs)(w:o_f p e below Fn T (mkF m q L (.int z::st)))(hj:xs[j]? =some (pc,.iushr,1):=by exact rfl)(hz:(x.toUInt32>>>(y&&&31).toUInt32).toInt32=z:=by exact rfl)(hq:pc+1=q:=by exact rfl):o_f p e below Fn T (mkF m pc L (.int y:: .int x::st)):=by
 subst hq;subst hz;exact o_i (T':=T) (mkF m (pc+1) L (.int ((x.toUInt32>>>(y&&&31).toUInt32).toInt32)::st)) (fun _ j=>XS.iushr X.here (o_M G) rfl (o_N G hj) rfl j) w
theorem o_dH (q j:Nat)(X:Stand p l e R s m args below meth c T locs cells slots)(G:o_I p c s Z m own ml a0 xs)(w:o_f p e below Fn T (mkF m q L (.int z::st)))(hj:xs[j]? =some (pc,.ixor,1):=by exact rfl)(hz:x^^^y=z:=by exact rfl)(hq:pc+1=q:=by exact rfl):o_f p e below Fn T (mkF m pc L (.int y:: .int x::st)):=by
 subst hq;subst hz;exact o_i (T':=T) (mkF m (pc+1) L (.int (x^^^y)::st)) (fun _ j=>XS.ixor X.here (o_M G) rfl (o_N G hj) rfl j) w
theorem o_ab (q j:Nat)(X:Stand p l e R s m args below meth c T locs cells slots)(G:o_I p c s Z m own ml a0 xs)(w:o_f p e below Fn T (mkF m q L (a::a::st)))(hj:xs[j]? =some (pc,.dup,1):=by exact rfl)(hv:a.category=1:=by exact rfl)(hq:pc+1=q:=by exact rfl):o_f p e below Fn T (mkF m pc L (a::st)):=by
 subst hq;exact o_i (T':=T) (mkF m (pc+1) L (a::a::st)) (fun _ j=>XS.dup X.here (o_M G) rfl (o_N G hj) rfl hv j) w
theorem o_bk (q j:Nat)(X:Stand p l e R s m args below meth c T locs cells slots)(G:o_I p c s Z m own ml a0 xs)(w:o_f p e below Fn T (mkF m q L st))(hj:xs[j]? =some (pc,.pop,1):=by exact rfl)(hv:a.category=1:=by exact rfl)(hq:pc+1=q:=by exact rfl):o_f p e below Fn T (mkF m pc L (a::st)):=by
 subst hq;exact o_i (T':=T) (mkF m (pc+1) L st) (fun _ j=>XS.pop X.here (o_M G) rfl (o_N G hj) rfl hv j) w
theorem o_cJ (q j:Nat)(X:Stand p l e R s m args below meth c T locs cells slots)(G:o_I p c s Z m own ml a0 xs)(w:o_f p e below Fn T (mkF m q L (.null::st)))(hj:xs[j]? =some (pc,.aconst_null,1):=by exact rfl)(hq:pc+1=q:=by exact rfl):o_f p e below Fn T (mkF m pc L st):=by
 subst hq;exact o_i (T':=T) (mkF m (pc+1) L (.null::st)) (fun _ j=>XS.aconstNull X.here (o_M G) rfl (o_N G hj) j) w
theorem o_o (q j:Nat)(L':Array Slot)(X:Stand p l e R s m args below meth c T locs cells slots)(G:o_I p c s Z m own ml a0 xs)(w:o_f p e below Fn T (mkF m q L' st))(hj:xs[j]? =some (pc,.istore k,2):=by exact rfl)(hl:storeLocals L k (.int x)=some L':=by exact rfl)(hq:pc+2=q:=by exact rfl):o_f p e below Fn T (mkF m pc L (.int x::st)):=by
 subst hq;exact o_i (T':=T) (mkF m (pc+2) L' st) (fun _ j=>XS.istore X.here (o_M G) rfl (o_N G hj) rfl hl j) w
theorem o_O (q j:Nat)(L':Array Slot)(X:Stand p l e R s m args below meth c T locs cells slots)(G:o_I p c s Z m own ml a0 xs)(w:o_f p e below Fn T (mkF m q L' st))(hj:xs[j]? =some (pc,.istore_n kn,1):=by exact rfl)(hl:storeLocals L kn.val (.int x)=some L':=by exact rfl)(hq:pc+1=q:=by exact rfl):o_f p e below Fn T (mkF m pc L (.int x::st)):=by
 subst hq;exact o_i (T':=T) (mkF m (pc+1) L' st) (fun _ j=>XS.istoreN X.here (o_M G) rfl (o_N G hj) rfl hl j) w
theorem o_1 (q j:Nat)(L':Array Slot)(X:Stand p l e R s m args below meth c T locs cells slots)(G:o_I p c s Z m own ml a0 xs)(w:o_f p e below Fn T (mkF m q L' st))(hj:xs[j]? =some (pc,.astore k,2):=by exact rfl)(hv:a.isRef=true:=by exact rfl)(hl:storeLocals L k a=some L':=by exact rfl)(hq:pc+2=q:=by exact rfl):o_f p e below Fn T (mkF m pc L (a::st)):=by
 subst hq;exact o_i (T':=T) (mkF m (pc+2) L' st) (fun _ j=>XS.astore X.here (o_M G) rfl (o_N G hj) rfl hv hl j) w
theorem o_bt (q j:Nat)(L':Array Slot)(X:Stand p l e R s m args below meth c T locs cells slots)(G:o_I p c s Z m own ml a0 xs)(w:o_f p e below Fn T (mkF m q L' st))(hj:xs[j]? =some (pc,.astore_n kn,1):=by exact rfl)(hv:a.isRef=true:=by exact rfl)(hl:storeLocals L kn.val a=some L':=by exact rfl)(hq:pc+1=q:=by exact rfl):o_f p e below Fn T (mkF m pc L (a::st)):=by
 subst hq;exact o_i (T':=T) (mkF m (pc+1) L' st) (fun _ j=>XS.astoreN X.here (o_M G) rfl (o_N G hj) rfl hv hl j) w
theorem o_G (q j:Nat)(L':Array Slot)(X:Stand p l e R s m args below meth c T locs cells slots)(G:o_I p c s Z m own ml a0 xs)(w:o_f p e below Fn T (mkF m q L' st))(hj:xs[j]? =some (pc,.iinc k i,3):=by exact rfl)(hl:L[k]? =some (.val (.int x)):=by exact rfl)(hl':storeLocals L k (.int (x+Int32.ofInt i))=some L':=by exact rfl)(hq:pc+3=q:=by exact rfl):o_f p e below Fn T (mkF m pc L st):=by
 subst hq;exact o_i (T':=T) (mkF m (pc+3) L' st) (fun _ j=>XS.iinc X.here (o_M G) rfl (o_N G hj) hl hl' j) w
theorem o_r (q j:Nat)(X:Stand p l e R s m args below meth c T locs cells slots)(G:o_I p c s Z m own ml a0 xs)(hj:xs[j]? =some (pc,.ifCond cd o,3))(hc:ifCond.holds cd x=false)(w:o_f p e below Fn T (mkF m q L st))(hq:pc+3=q:=by exact rfl):o_f p e below Fn T (mkF m pc L (.int x::st)):=by
 subst hq;exact o_i (T':=T) (mkF m (pc+3) L st) (fun _ j=>XS.ifNo X.here (o_M G) rfl (o_N G hj) rfl hc j) w
theorem o_E (q j:Nat)(X:Stand p l e R s m args below meth c T locs cells slots)(G:o_I p c s Z m own ml a0 xs)(hj:xs[j]? =some (pc,.if_icmp cd o,3))(hc:if_icmp.holds cd x y=false)(w:o_f p e below Fn T (mkF m q L st))(hq:pc+3=q:=by exact rfl):o_f p e below Fn T (mkF m pc L (.int y:: .int x::st)):=by
 subst hq;exact o_i (T':=T) (mkF m (pc+3) L st) (fun _ j=>XS.icmpNo X.here (o_M G) rfl (o_N G hj) rfl hc j) w
theorem o_j (q j:Nat)(X:Stand p l e R s m args below meth c T locs cells slots)(G:o_I p c s Z m own ml a0 xs)(w:o_f p e below Fn T (mkF m q L (.long xl::st)))(hj:xs[j]? =some (pc,.lload k,2):=by exact rfl)(hl:L[k]? =some (.val (.long xl)):=by exact rfl)(hq:pc+2=q:=by exact rfl):o_f p e below Fn T (mkF m pc L st):=by
 subst hq;exact o_i (T':=T) (mkF m (pc+2) L (.long xl::st)) (fun _ j=>XS.lload X.here (o_M G) rfl (o_N G hj) hl j) w
theorem o_P (q j:Nat)(X:Stand p l e R s m args below meth c T locs cells slots)(G:o_I p c s Z m own ml a0 xs)(w:o_f p e below Fn T (mkF m q L (.long xl::st)))(hj:xs[j]? =some (pc,.lload_n kn,1):=by exact rfl)(hl:L[kn.val]? =some (.val (.long xl)):=by exact rfl)(hq:pc+1=q:=by exact rfl):o_f p e below Fn T (mkF m pc L st):=by
 subst hq;exact o_i (T':=T) (mkF m (pc+1) L (.long xl::st)) (fun _ j=>XS.lloadN X.here (o_M G) rfl (o_N G hj) hl j) w
theorem o_H (q j:Nat)(L':Array Slot)(X:Stand p l e R s m args below meth c T locs cells slots)(G:o_I p c s Z m own ml a0 xs)(w:o_f p e below Fn T (mkF m q L' st))(hj:xs[j]? =some (pc,.lstore k,2):=by exact rfl)(hl:storeLocals L k (.long xl)=some L':=by exact rfl)(hq:pc+2=q:=by exact rfl):o_f p e below Fn T (mkF m pc L (.long xl::st)):=by
 subst hq;exact o_i (T':=T) (mkF m (pc+2) L' st) (fun _ j=>XS.lstore X.here (o_M G) rfl (o_N G hj) rfl hl j) w
theorem o_bl (q j:Nat)(L':Array Slot)(X:Stand p l e R s m args below meth c T locs cells slots)(G:o_I p c s Z m own ml a0 xs)(w:o_f p e below Fn T (mkF m q L' st))(hj:xs[j]? =some (pc,.lstore_n kn,1):=by exact rfl)(hl:storeLocals L kn.val (.long xl)=some L':=by exact rfl)(hq:pc+1=q:=by exact rfl):o_f p e below Fn T (mkF m pc L (.long xl::st)):=by
 subst hq;exact o_i (T':=T) (mkF m (pc+1) L' st) (fun _ j=>XS.lstoreN X.here (o_M G) rfl (o_N G hj) rfl hl j) w
theorem o_ac (q j:Nat)(zl:Int64)(X:Stand p l e R s m args below meth c T locs cells slots)(G:o_I p c s Z m own ml a0 xs)(w:o_f p e below Fn T (mkF m q L (.long zl::st)))(hj:xs[j]? =some (pc,.lconst k2,1):=by exact rfl)(hz:Int64.ofNat k2=zl:=by exact rfl)(hq:pc+1=q:=by exact rfl):o_f p e below Fn T (mkF m pc L st):=by
 subst hq;subst hz;exact o_i (T':=T) (mkF m (pc+1) L (.long (Int64.ofNat k2)::st)) (fun _ j=>XS.lconst X.here (o_M G) rfl (o_N G hj) j) w
theorem o_4 (q j:Nat)(X:Stand p l e R s m args below meth c T locs cells slots)(G:o_I p c s Z m own ml a0 xs)(w:o_f p e below Fn T (mkF m q L (.long zl::st)))(hj:xs[j]? =some (pc,.ladd,1):=by exact rfl)(hz:xl+yl=zl:=by exact rfl)(hq:pc+1=q:=by exact rfl):o_f p e below Fn T (mkF m pc L (.long yl:: .long xl::st)):=by
 subst hq;subst hz;exact o_i (T':=T) (mkF m (pc+1) L (.long (xl+yl)::st)) (fun _ j=>XS.ladd X.here (o_M G) rfl (o_N G hj) rfl j) w
theorem o_aK (q j:Nat)(X:Stand p l e R s m args below meth c T locs cells slots)(G:o_I p c s Z m own ml a0 xs)(w:o_f p e below Fn T (mkF m q L (.long zl::st)))(hj:xs[j]? =some (pc,.lsub,1):=by exact rfl)(hz:xl-yl=zl:=by exact rfl)(hq:pc+1=q:=by exact rfl):o_f p e below Fn T (mkF m pc L (.long yl:: .long xl::st)):=by
 subst hq;subst hz;exact o_i (T':=T) (mkF m (pc+1) L (.long (xl-yl)::st)) (fun _ j=>XS.lsub X.here (o_M G) rfl (o_N G hj) rfl j) w
theorem o_ah (q j:Nat)(X:Stand p l e R s m args below meth c T locs cells slots)(G:o_I p c s Z m own ml a0 xs)(w:o_f p e below Fn T (mkF m q L (.long zl::st)))(hj:xs[j]? =some (pc,.lmul,1):=by exact rfl)(hz:xl*yl=zl:=by exact rfl)(hq:pc+1=q:=by exact rfl):o_f p e below Fn T (mkF m pc L (.long yl:: .long xl::st)):=by
 subst hq;subst hz;exact o_i (T':=T) (mkF m (pc+1) L (.long (xl*yl)::st)) (fun _ j=>XS.lmul X.here (o_M G) rfl (o_N G hj) rfl j) w
theorem o_A (q j:Nat)(X:Stand p l e R s m args below meth c T locs cells slots)(G:o_I p c s Z m own ml a0 xs)(w:o_f p e below Fn T (mkF m q L (.long zl::st)))(hj:xs[j]? =some (pc,.land,1):=by exact rfl)(hz:xl&&&yl=zl:=by exact rfl)(hq:pc+1=q:=by exact rfl):o_f p e below Fn T (mkF m pc L (.long yl:: .long xl::st)):=by
 subst hq;subst hz;exact o_i (T':=T) (mkF m (pc+1) L (.long (xl&&&yl)::st)) (fun _ j=>XS.land X.here (o_M G) rfl (o_N G hj) rfl j) w
theorem o_a0 (q j:Nat)(X:Stand p l e R s m args below meth c T locs cells slots)(G:o_I p c s Z m own ml a0 xs)(w:o_f p e below Fn T (mkF m q L (.long zl::st)))(hj:xs[j]? =some (pc,.lor,1):=by exact rfl)(hz:xl|||yl=zl:=by exact rfl)(hq:pc+1=q:=by exact rfl):o_f p e below Fn T (mkF m pc L (.long yl:: .long xl::st)):=by
 subst hq;subst hz;exact o_i (T':=T) (mkF m (pc+1) L (.long (xl|||yl)::st)) (fun _ j=>XS.lor X.here (o_M G) rfl (o_N G hj) rfl j) w
theorem o_ay (q j:Nat)(X:Stand p l e R s m args below meth c T locs cells slots)(G:o_I p c s Z m own ml a0 xs)(w:o_f p e below Fn T (mkF m q L (.long zl::st)))(hj:xs[j]? =some (pc,.lshl,1):=by exact rfl)(hz:xl<<<(y&&&0x3f).toInt64=zl:=by exact rfl)(hq:pc+1=q:=by exact rfl):o_f p e below Fn T (mkF m pc L (.int y:: .long xl::st)):=by
 subst hq;subst hz;exact o_i (T':=T) (mkF m (pc+1) L (.long (xl<<<(y&&&0x3f).toInt64)::st)) (fun _ j=>XS.lshl X.here (o_M G) rfl (o_N G hj) rfl j) w
theorem o_ak (q j:Nat)(X:Stand p l e R s m args below meth c T locs cells slots)(G:o_I p c s Z m own ml a0 xs)(w:o_f p e below Fn T (mkF m q L (.long zl::st)))(hj:xs[j]? =some (pc,.lushr,1):=by exact rfl)(hz:(xl.toUInt64>>>(y&&&0x3f).toInt64.toUInt64).toInt64=zl:=by exact rfl)(hq:pc+1=q:=by exact rfl):o_f p e below Fn T (mkF m pc L (.int y:: .long xl::st)):=by
 subst hq;subst hz;exact o_i (T':=T) (mkF m (pc+1) L (.long ((xl.toUInt64>>>(y&&&0x3f).toInt64.toUInt64).toInt64)::st)) (fun _ j=>XS.lushr X.here (o_M G) rfl (o_N G hj) rfl j) w
theorem o_D (q j:Nat)(X:Stand p l e R s m args below meth c T locs cells slots)(G:o_I p c s Z m own ml a0 xs)(w:o_f p e below Fn T (mkF m q L (.long x.toInt64::st)))(hj:xs[j]? =some (pc,.i2l,1):=by exact rfl)(hq:pc+1=q:=by exact rfl):o_f p e below Fn T (mkF m pc L (.int x::st)):=by
 subst hq;exact o_i (T':=T) (mkF m (pc+1) L (.long x.toInt64::st)) (fun _ j=>XS.i2l X.here (o_M G) rfl (o_N G hj) rfl j) w
theorem o_X (q j:Nat)(X:Stand p l e R s m args below meth c T locs cells slots)(G:o_I p c s Z m own ml a0 xs)(w:o_f p e below Fn T (mkF m q L (.int xl.toInt32::st)))(hj:xs[j]? =some (pc,.l2i,1):=by exact rfl)(hq:pc+1=q:=by exact rfl):o_f p e below Fn T (mkF m pc L (.long xl::st)):=by
 subst hq;exact o_i (T':=T) (mkF m (pc+1) L (.int xl.toInt32::st)) (fun _ j=>XS.l2i X.here (o_M G) rfl (o_N G hj) rfl j) w
theorem o_3 (q j:Nat)(X:Stand p l e R s m args below meth c T locs cells slots)(G:o_I p c s Z m own ml a0 xs)(w:o_f p e below Fn T (mkF m q L (.int (lcmpW xl yl)::st)))(hj:xs[j]? =some (pc,.lcmp,1):=by exact rfl)(hq:pc+1=q:=by exact rfl):o_f p e below Fn T (mkF m pc L (.long yl:: .long xl::st)):=by
 subst hq;exact o_i (T':=T) (mkF m (pc+1) L (.int (lcmpW xl yl)::st)) (fun _ j=>XS.lcmp X.here (o_M G) rfl (o_N G hj) rfl j) w
theorem o_y (q n j:Nat)(X:Stand p l e R s m args below meth c T locs cells slots)(G:o_I p c s Z m own ml a0 xs){v:Int64}(w:o_f p e below Fn T (mkF m q L (.long v::st)))(hj:xs[j]? =some (pc,.ldc2_w k,3):=by exact rfl)(hn:tables_1[n]? =some (.constantLong own k v):=by exact rfl)(hq:pc+3=q:=by exact rfl):o_f p e below Fn T (mkF m pc L st):=by
 subst hq;exact o_i (T':=T) (mkF m (pc+3) L (.long v::st)) (X.ldc2Long (o_M G) (o_bj G) (mvT (o_6 G) (o_5 G hn)) (g:=mkF m pc L st) rfl (o_N G hj)) w
theorem o_aL (q n j:Nat)(X:Stand p l e R s m args below meth c T locs cells slots)(G:o_I p c s Z m own ml a0 xs){v:Int32}(w:o_f p e below Fn T (mkF m q L (.int v::st)))(hj:xs[j]? =some (pc,.ldc k,2):=by exact rfl)(hn:tables_1[n]? =some (.constant own k v):=by exact rfl)(hq:pc+2=q:=by exact rfl):o_f p e below Fn T (mkF m pc L st):=by
 subst hq;exact o_i (T':=T) (mkF m (pc+2) L (.int v::st)) (X.ldcInt (o_M G) (o_bj G) (mvT (o_6 G) (o_5 G hn)) (g:=mkF m pc L st) rfl (o_N G hj)) w
theorem o_bN (q n j:Nat)(X:Stand p l e R s m args below meth c T locs cells slots)(G:o_I p c s Z m own ml a0 xs){v:Int32}(w:o_f p e below Fn T (mkF m q L (.int v::st)))(hj:xs[j]? =some (pc,.ldc_w k,3):=by exact rfl)(hn:tables_1[n]? =some (.constant own k v):=by exact rfl)(hq:pc+3=q:=by exact rfl):o_f p e below Fn T (mkF m pc L st):=by
 subst hq;exact o_i (T':=T) (mkF m (pc+3) L (.int v::st)) (X.ldcwInt (o_M G) (o_bj G) (mvT (o_6 G) (o_5 G hn)) (g:=mkF m pc L st) rfl (o_N G hj)) w
theorem o_w (q j:Nat)(X:Stand p l e R s m args below meth c T locs cells slots)(G:o_I p c s Z m own ml a0 xs)(w:o_f p e below Fn T (mkF m q L st))(hj:xs[j]? =some (pc,.goto o,3):=by exact rfl)(ho:0≤(pc:Int)+o:=by decide)(hq:((pc:Int)+o).toNat=q:=by decide):o_f p e below Fn T (mkF m pc L st):=
 o_i (T':=T) (mkF m q L st) (fun _ j=>XS.goto X.here (o_M G) rfl (pc0:=pc) rfl (o_N G hj) ho hq j) w
theorem o_p (q j:Nat)(X:Stand p l e R s m args below meth c T locs cells slots)(G:o_I p c s Z m own ml a0 xs)(hj:xs[j]? =some (pc,.ifCond cd o,3))(hc:ifCond.holds cd x=true)(w:o_f p e below Fn T (mkF m q L st))(ho:0≤(pc:Int)+o:=by decide)(hq:((pc:Int)+o).toNat=q:=by decide):o_f p e below Fn T (mkF m pc L (.int x::st)):=
 o_i (T':=T) (mkF m q L st) (fun _ j=>XS.ifYes X.here (o_M G) rfl (pc0:=pc) rfl (o_N G hj) rfl hc ho hq j) w
theorem o_z (q j:Nat)(X:Stand p l e R s m args below meth c T locs cells slots)(G:o_I p c s Z m own ml a0 xs)(hj:xs[j]? =some (pc,.if_icmp cd o,3))(hc:if_icmp.holds cd x y=true)(w:o_f p e below Fn T (mkF m q L st))(ho:0≤(pc:Int)+o:=by decide)(hq:((pc:Int)+o).toNat=q:=by decide):o_f p e below Fn T (mkF m pc L (.int y:: .int x::st)):=
 o_i (T':=T) (mkF m q L st) (fun _ j=>XS.icmpYes X.here (o_M G) rfl (pc0:=pc) rfl (o_N G hj) rfl hc ho hq j) w
end OwnStep2
section OwnHeap2
variable {p:Program}{l:Launch}{e:Env}{R:Room}{s:State}{m:MethodId}{args:Array Value}{below:List Frame}{meth:Method}{c:Code}{T:State}{locs:List Loc}{cells slots:Nat}{Fn:Outcome→State→Prop}{pc:Nat}{L:Array Slot}{st:List Value}{Z:State}{a0:Array Value}{h:Heap}{own O nf d C:String}{index kk ml:Nat}{a:Addr}{v old dv:Value}{ty:FieldType}{k:ClassId}{z j x:Int32}{vs:List Value}{xs:List (Nat×Jvm.ClassFile.Instr×Nat)}
theorem o_h (q i n:Nat)(X:Stand p l e R s m args below meth c T locs cells slots)(G:o_I p c s Z m own ml a0 xs)(eT:T.heap=h)(F:Fld Z h a O nf d v)(w: ∀T':State,Stand p l e R s m args below meth c T' locs cells slots→T'.heap=h→o_f p e below Fn T' (mkF m q L (v::st)))(hi:xs[i]? =some (pc,.getfield index,3):=by exact rfl)(hn:tables_1[n]? =some (.fieldLink own index O nf d):=by exact rfl)(hq:pc+3=q:=by exact rfl):o_f p e below Fn T (mkF m pc L (.ref a::st)):=
 o_gv q X (o_M G) (o_6 G) (o_bj G) (o_5 G hn) eT F (o_N G hi) hq w
theorem o_R (q i n u:Nat)(X:Stand p l e R s m args below meth c T locs cells slots)(G:o_I p c s Z m own ml a0 xs)(eT:T.heap=h)(F:Fld Z h a O nf d old)(E:Exa Z h a C)(lw:(Jvm.Cond.lays C O nf d).before a0 Z=true∨((Jvm.Cond.laysFinal C O nf d).before a0 Z=true∧own=O∧meth.name="<init>"))(w: ∀(T':State) (h':Heap),Stand p l e R s m args below meth c T' (locs++ [⟨a,Jvm.RoadKit.slotOf Z O nf d⟩]) cells slots→T'.heap=h'→Wr h h' a (Jvm.RoadKit.slotOf Z O nf d) v→o_f p e below Fn T' (mkF m q L st))
  (hi:xs[i]? =some (pc,.putfield index,3):=by exact rfl) (hn:tables_1[n]? =some (.fieldLink own index O nf d):=by exact rfl) (hu:tables_1[u]? =some (.instantiable C kk):=by exact rfl) (hty:parseFieldDescriptor d=some ty:=by decide) (hna:narrow ty v=v:=by exact rfl) (hf:fits ty v=true:=by exact rfl) (hq:pc+3=q:=by exact rfl):o_f p e below Fn T (mkF m pc L (v:: .ref a::st)):=
 o_gw q X (o_M G) (o_6 G) (o_bj G) (o_5 G hn) eT F E lw (o_5 G hu) hty hna hf (o_N G hi) hq w
theorem o_C (q i:Nat)(X:Stand p l e R s m args below meth c T locs cells slots)(G:o_I p c s Z m own ml a0 xs)(eT:T.heap=h)(F:Arv Z h a k ty z vs dv)(w:o_f p e below Fn T (mkF m q L (.int z::st)))(hi:xs[i]? =some (pc,.arraylength,1):=by exact rfl)(hq:pc+1=q:=by exact rfl):o_f p e below Fn T (mkF m pc L (.ref a::st)):=
 o_gx q X (o_M G) (o_6 G) eT F (o_N G hi) hq w
theorem o_Q (q i:Nat)(X:Stand p l e R s m args below meth c T locs cells slots)(G:o_I p c s Z m own ml a0 xs)(eT:T.heap=h)(F:Arv Z h a k .int z vs dv)(w:o_f p e below Fn T (mkF m q L (.int x::st)))(hi:xs[i]? =some (pc,.iaload,1):=by exact rfl)(ib: ¬j<0∧j<z:=by decide)(u:vs.getD j.toNatClampNeg dv= .int x:=by exact rfl)(hq:pc+1=q:=by exact rfl):o_f p e below Fn T (mkF m pc L (.int j:: .ref a::st)):=
 o_eh q X (o_M G) (o_6 G) eT F ib u (o_N G hi) hq w
theorem o_8 (q n i:Nat)(X:Stand p l e R s m args below meth c T locs cells slots)(G:o_I p c s Z m own ml a0 xs)(eT:T.heap=h)(F:Arv Z h a k .int z vs dv)(w: ∀(T':State) (h':Heap),Stand p l e R s m args below meth c T' (locs++ [⟨a,(j).toNatClampNeg⟩]) cells slots→T'.heap=h'→Wr h h' a j.toNatClampNeg (.int x)→Arv Z h' a k .int z (vs.set n (.int x)) dv→o_f p e below Fn T' (mkF m q L st))(hi:xs[i]? =some (pc,.iastore,1):=by exact rfl)(ib: ¬j<0∧j<z:=by decide)(hj:j.toNatClampNeg=n:=by exact rfl)(hn:n<vs.length:=by exact Nat.le_of_ble_eq_true rfl)(hq:pc+1=q:=by exact rfl):o_f p e below Fn T (mkF m pc L (.int x:: .int j:: .ref a::st)):=
 o_ei q n X (o_M G) (o_6 G) eT F ib hj hn (o_N G hi) hq w
section
variable {Q:Option Value→Heap→List Loc→Prop}{y:Int32}{xl:Int64}{k n:Nat}{t:FieldType}
theorem o_W (i:Nat)(X:Stand p l e R s m args below meth c T locs cells slots)(G:o_I p c s Z m own ml a0 xs)(w:meth.sig.returnType=some .int)(B:meth.locks=false)(hQ:Q (some (.int x)) T.heap locs)(hi:xs[i]? =some (pc,.ireturn,1):=by exact rfl)(hk:cells≤k:=by decide)(hn:slots≤n:=by decide):o_f p e below (o_V s Q k n) T (mkF m pc L (.int x::st)):=o_go X (o_M G) w B (o_N G hi) hk hn hQ
theorem o_a1 (i:Nat)(X:Stand p l e R s m args below meth c T locs cells slots)(G:o_I p c s Z m own ml a0 xs)(w:meth.sig.returnType=some .long)(B:meth.locks=false)(hQ:Q (some (.long xl)) T.heap locs)(hi:xs[i]? =some (pc,.lreturn,1):=by exact rfl)(hk:cells≤k:=by decide)(hn:slots≤n:=by decide):o_f p e below (o_V s Q k n) T (mkF m pc L (.long xl::st)):=o_gp X (o_M G) w B (o_N G hi) hk hn hQ
theorem o_K (i:Nat)(X:Stand p l e R s m args below meth c T locs cells slots)(G:o_I p c s Z m own ml a0 xs)(w:meth.sig.returnType=some t)(B:meth.locks=false)(hQ:Q (some v) T.heap locs)(hi:xs[i]? =some (pc,.areturn,1):=by exact rfl)(ht:t.isReference=true:=by exact rfl)(hv:v.isRef=true:=by exact rfl)(hk:cells≤k:=by decide)(hn:slots≤n:=by decide):o_f p e below (o_V s Q k n) T (mkF m pc L (v::st)):=o_d' X (o_M G) w ht B (o_N G hi) hv hk hn hQ
theorem o_al (i:Nat)(X:Stand p l e R s m args below meth c T locs cells slots)(G:o_I p c s Z m own ml a0 xs)(w:meth.sig.returnType=none)(B:meth.locks=false)(hQ:Q none T.heap locs)(hi:xs[i]? =some (pc,.return_,1):=by exact rfl)(hk:cells≤k:=by decide)(hn:slots≤n:=by decide):o_f p e below (o_V s Q k n) T (mkF m pc L []):=o_gq X (o_M G) w B (o_N G hi) hk hn hQ
end
section
variable {y:MethodName}{bytes:ByteArray}{maxL:Nat}{ret:Option FieldType}{rm:Room}{as':Array Value}{Q:Option Value→Heap→List Loc→Prop}{ps:List FieldType}{r:Option FieldType}{b:Addr}
theorem o_F (q n W kc ks j i1 i2 i5 i4:Nat)(X:Stand p l e R s m args below meth c T locs cells slots)(G:o_I p c s Z m own ml a0 xs)(M:o_q l y [Jvm.Cond.code y bytes maxL ret] rm as' Z h Q)(pd:parseMethodDescriptor y.desc=some ⟨ps,r⟩)(eT:T.heap=h)(w: ∀(v:Option Value) (T':State) (Lc:List Loc),Stand p l e R s m args below meth c T' (locs++Lc) kc ks→Q v T'.heap Lc→o_f p e below Fn T' (mkF m q L (v.toList++st.drop n)))(hj:xs[j]? =some (pc,.invokestatic index,3):=by exact rfl)(hi1:tables_1[i1]? =some (.methodLink own index y):=by exact rfl)(hi2:tables_1[i2]? =some (.static y):=by exact rfl)(hi5:tables_1[i5]? =some (.initialized y.cls):=by exact rfl)(hi4:tables_1[i4]? =some (.code y bytes maxL ret):=by exact rfl)(hy:y.cls≠"java/lang/invoke/MethodHandle"∧y.cls≠"java/lang/invoke/VarHandle":=by decide)(hf:rm.frames+1≤R.frames:=by decide)(hl:W+(maxL+11)+rm.locals≤R.locals:=by decide)(hsz:L.size=ml:=by exact rfl)(hn:(st.take n).reverse.length=ps.length:=by exact rfl)(hW:2*0+((st.drop n).map fun v=>v.category).sum≤W:=by exact Nat.le_of_eq rfl)(ha:(st.take n).reverse.toArray=as':=by exact rfl)(hkc:cells+rm.cells=kc:=by exact rfl)(hks:slots+rm.slots=ks:=by exact rfl)(hc:kc≤R.cells:=by decide)(hs:ks≤R.slots:=by decide)(hq:pc+3=q:=by exact rfl):o_f p e below Fn T (mkF m pc L st):=by
 subst hq
 obtain ⟨v,T',Lc,X',hQ,f⟩:=o_bn X (o_M G) (o_bj G) (mvT (o_6 G) (o_5 G hi1)) (mvT (o_6 G) (o_5 G hi2)) (mvT (o_6 G) (o_5 G hi5)) (mvT (o_6 G) (o_5 G hi4)) hy (backOf M (o_6 G) (o_5 G hi4) (o_5 G hi5) hf hl) (g:=mkF m pc L st) rfl (by rw[o_cI G];exact hsz) (argsL:=(st.take n).reverse) (rest:=st.drop n) (lenOf pd hn) (show st=_ by rw[List.reverse_reverse,List.take_append_drop]) hW (o_N G hj) ha eT hkc hks hc hs
 exact o_i _ f (w v T' Lc X' hQ)
theorem o_7 (q n W kc ks j i1 i2 i5 i4:Nat)(X:Stand p l e R s m args below meth c T locs cells slots)(G:o_I p c s Z m own ml a0 xs)(M:o_q l y [Jvm.Cond.code y bytes maxL none] rm as' Z h Q)(pd:parseMethodDescriptor y.desc=some ⟨ps,r⟩)(eT:T.heap=h)(hy1:y.name="<init>")(w: ∀(v:Option Value) (T':State) (Lc:List Loc),Stand p l e R s m args below meth c T' (locs++Lc) kc ks→Q v T'.heap Lc→o_f p e below Fn T' (mkF m q L (v.toList++st.drop (n+1))))(hj:xs[j]? =some (pc,.invokespecial index,3):=by exact rfl)(hi1:tables_1[i1]? =some (.methodLink own index y):=by exact rfl)(hi2:tables_1[i2]? =some (.instanceMethod y):=by exact rfl)(hi5:tables_1[i5]? =some (.initialized y.cls):=by exact rfl)(hi4:tables_1[i4]? =some (.code y bytes maxL none):=by exact rfl)(hy:y.cls≠"java/lang/invoke/MethodHandle"∧y.cls≠"java/lang/invoke/VarHandle":=by decide)(hf:rm.frames+1≤R.frames:=by decide)(hl:W+(maxL+11)+rm.locals≤R.locals:=by decide)(hsz:L.size=ml:=by exact rfl)(hn:(st.take n).reverse.length=ps.length:=by exact rfl)(hb:st.drop n= .ref b::st.drop (n+1):=by exact rfl)(hW:2*0+((st.drop (n+1)).map fun v=>v.category).sum≤W:=by exact Nat.le_of_eq rfl)(ha:(Value.ref b::(st.take n).reverse).toArray=as':=by exact rfl)(hkc:cells+rm.cells=kc:=by exact rfl)(hks:slots+rm.slots=ks:=by exact rfl)(hc:kc≤R.cells:=by decide)(hs:ks≤R.slots:=by decide)(hq:pc+3=q:=by exact rfl):o_f p e below Fn T (mkF m pc L st):=by
 subst hq
 obtain ⟨v,T',Lc,X',hQ,f⟩:=o_gr X (o_M G) hy1 (o_bj G) (mvT (o_6 G) (o_5 G hi1)) (mvT (o_6 G) (o_5 G hi2)) (mvT (o_6 G) (o_5 G hi4)) hy (backOf M (o_6 G) (o_5 G hi4) (o_5 G hi5) hf hl) (g:=mkF m pc L st) rfl (by rw[o_cI G];exact hsz) (argsL:=(st.take n).reverse) (rest:=st.drop (n+1)) (lenOf pd hn) (show st=_ by rw[List.reverse_reverse,←hb,List.take_append_drop]) hW (o_N G hj) ha eT hkc hks hc hs
 exact o_bC _ f (w v T' Lc X' hQ)
theorem o_aq (q n W kc ks j i1 i2 i3 i6 i5 i4:Nat)(X:Stand p l e R s m args below meth c T locs cells slots)(G:o_I p c s Z m own ml a0 xs)(M:o_q l y [Jvm.Cond.code y bytes maxL ret] rm as' Z h Q)(pd:parseMethodDescriptor y.desc=some ⟨ps,r⟩)(eT:T.heap=h)(Ex:Exa Z h b C)(w: ∀(v:Option Value) (T':State) (Lc:List Loc),Stand p l e R s m args below meth c T' (locs++Lc) kc ks→Q v T'.heap Lc→o_f p e below Fn T' (mkF m q L (v.toList++st.drop (n+1))))(hj:xs[j]? =some (pc,.invokevirtual index,3):=by exact rfl)(hi1:tables_1[i1]? =some (.methodLink own index y):=by exact rfl)(hi2:tables_1[i2]? =some (.declares y):=by exact rfl)(hi3:tables_1[i3]? =some (.selects C y y):=by exact rfl)(B:tables_1[i6]? =some (.instanceMethod y):=by exact rfl)(hi5:tables_1[i5]? =some (.initialized y.cls):=by exact rfl)(hi4:tables_1[i4]? =some (.code y bytes maxL ret):=by exact rfl)(hy:y.cls≠"java/lang/invoke/MethodHandle"∧y.cls≠"java/lang/invoke/VarHandle":=by decide)(hf:rm.frames+1≤R.frames:=by decide)(hl:W+(maxL+11)+rm.locals≤R.locals:=by decide)(hsz:L.size=ml:=by exact rfl)(hn:(st.take n).reverse.length=ps.length:=by exact rfl)(hb:st.drop n= .ref b::st.drop (n+1):=by exact rfl)(hW:2*0+((st.drop (n+1)).map fun v=>v.category).sum≤W:=by exact Nat.le_of_eq rfl)(ha:(Value.ref b::(st.take n).reverse).toArray=as':=by exact rfl)(hkc:cells+rm.cells=kc:=by exact rfl)(hks:slots+rm.slots=ks:=by exact rfl)(hc:kc≤R.cells:=by decide)(hs:ks≤R.slots:=by decide)(hq:pc+3=q:=by exact rfl):o_f p e below Fn T (mkF m pc L st):=by
 subst hq
 obtain ⟨_,_,qa,_,qc⟩:=isOf (o_6 G) eT Ex
 obtain ⟨v,T',Lc,X',hQ,f⟩:=o_bY X (o_M G) (o_bj G) (mvT (o_6 G) (o_5 G hi1)) (mvT (o_6 G) (o_5 G hi2)) (notFace_of_selects (args:= #[]) (mvT (o_6 G) (o_5 G hi3))) (mvT (o_6 G) (o_5 G hi3)) (mvT (o_6 G) (o_5 G B)) hy (backOf M (o_6 G) (o_5 G hi4) (o_5 G hi5) hf hl) qa qc (g:=mkF m pc L st) rfl (by rw[o_cI G];exact hsz) (argsL:=(st.take n).reverse) (rest:=st.drop (n+1)) (lenOf pd hn) (show st=_ by rw[List.reverse_reverse,←hb,List.take_append_drop]) hW (o_N G hj) ha eT hkc hks hc hs
 exact o_bC _ f (w v T' Lc X' hQ)
theorem o_aD (q n W kc ks j i1 i2 i3 i6 i5 i4:Nat)(X:Stand p l e R s m args below meth c T locs cells slots)(G:o_I p c s Z m own ml a0 xs)(M:o_q l y [Jvm.Cond.code y bytes maxL ret] rm as' Z h Q)(pd:parseMethodDescriptor y.desc=some ⟨ps,r⟩)(eT:T.heap=h)(Ex:Exa Z h b C)(w: ∀(v:Option Value) (T':State) (Lc:List Loc),Stand p l e R s m args below meth c T' (locs++Lc) kc ks→Q v T'.heap Lc→o_f p e below Fn T' (mkF m q L (v.toList++st.drop (n+1))))(hj:xs[j]? =some (pc,.invokevirtual index,3):=by exact rfl)(hi1:tables_1[i1]? =some (.methodLink own index y):=by exact rfl)(hi2:tables_1[i2]? =some (.instanceMethod y):=by exact rfl)(hi3:tables_1[i3]? =some (.selects C y y):=by exact rfl)(B:tables_1[i6]? =some (.privateMethod y):=by exact rfl)(hi5:tables_1[i5]? =some (.initialized y.cls):=by exact rfl)(hi4:tables_1[i4]? =some (.code y bytes maxL ret):=by exact rfl)(hy:y.cls≠"java/lang/invoke/MethodHandle"∧y.cls≠"java/lang/invoke/VarHandle":=by decide)(hf:rm.frames+1≤R.frames:=by decide)(hl:W+(maxL+11)+rm.locals≤R.locals:=by decide)(hsz:L.size=ml:=by exact rfl)(hn:(st.take n).reverse.length=ps.length:=by exact rfl)(hb:st.drop n= .ref b::st.drop (n+1):=by exact rfl)(hW:2*0+((st.drop (n+1)).map fun v=>v.category).sum≤W:=by exact Nat.le_of_eq rfl)(ha:(Value.ref b::(st.take n).reverse).toArray=as':=by exact rfl)(hkc:cells+rm.cells=kc:=by exact rfl)(hks:slots+rm.slots=ks:=by exact rfl)(hc:kc≤R.cells:=by decide)(hs:ks≤R.slots:=by decide)(hq:pc+3=q:=by exact rfl):o_f p e below Fn T (mkF m pc L st):=by
 subst hq
 obtain ⟨v,T',Lc,X',hQ,f⟩:=o_gy X (o_M G) (o_bj G) (mvT (o_6 G) (o_5 G hi1)) (mvT (o_6 G) (o_5 G hi2)) (mvT (o_6 G) (o_5 G hi3)) (mvP (o_6 G) (o_5 G B)) (mvT (o_6 G) (o_5 G hi4)) hy (backOf M (o_6 G) (o_5 G hi4) (o_5 G hi5) hf hl) (Exa.cell Ex) (g:=mkF m pc L st) rfl (by rw[o_cI G];exact hsz) (argsL:=(st.take n).reverse) (rest:=st.drop (n+1)) (lenOf pd hn) (show st=_ by rw[List.reverse_reverse,←hb,List.take_append_drop]) hW (o_N G hj) ha eT hkc hks hc hs
 exact o_bC _ f (w v T' Lc X' hQ)
end
end OwnHeap2
section OwnFun
def o_ao (N:Nat)(f:Nat→Int32):List Value:=(List.range N).map fun i=> .int (f i)
def o_T (f:Nat→Int32)(i:Nat)(x:Int32):Nat→Int32:=fun j=>if j=i then x else f j
def o_bb (l:List Int32):Nat→Int32:=fun i=>l.getD i 0
theorem o_cK (N:Nat)(f:Nat→Int32):(o_ao N f).length=N:=by simp[o_ao]
theorem o_dI {N i:Nat}{f:Nat→Int32}{d:Value}(h:i<N):(o_ao N f).getD i d= .int (f i):=by
 simp[o_ao,List.getD_eq_getElem?_getD,h]
theorem o_hy (N i:Nat)(f:Nat→Int32)(x:Int32):(o_ao N f).set i (.int x)=o_ao N (o_T f i x):=by
 apply List.ext_getElem?;intro j
 simp only[o_ao,o_T,List.getElem?_set,List.length_map,List.length_range,List.getElem?_map]
 by_cases q:i=j
 ·subst q;by_cases r:i<N
  ·simp[r]
  ·simp[r]
 ·have q': ¬j=i:=fun r=>q r.symm
  by_cases r:j<N
  ·simp[q,q',r]
  ·simp[q,r]
theorem o_hz {N:Nat}{f g:Nat→Int32}(h: ∀i,i<N→f i=g i):o_ao N f=o_ao N g:=by
 unfold o_ao;apply List.map_congr_left;intro i hi;rw[h i (List.mem_range.mp hi)]
abbrev o_x (Z:State)(h:Heap)(a:Addr)(k:ClassId)(z:Int32)(f:Nat→Int32):Prop:=Arv Z h a k .int z (o_ao z.toNatClampNeg f) (.int (0:Int32))
theorem o_aT {j:Int32}{i:Nat}(h:j.toInt=i):j.toNatClampNeg=i:=by unfold Int32.toNatClampNeg;omega
theorem o_eB {j z:Int32}{i:Nat}(h:j.toInt=i)(hi:(i:Int)<z.toInt): ¬j<0∧j<z:=by
 have e:(0:Int32).toInt=0:=rfl
 constructor
 ·intro q;rw[Int32.lt_iff_toInt_lt] at q;omega
 ·rw[Int32.lt_iff_toInt_lt];omega
theorem o_x.fe {Z:State}{h:Heap}{a:Addr}{k:ClassId}{z:Int32}{f g:Nat→Int32}(F:o_x Z h a k z f)(e: ∀i:Nat,(i:Int)<z.toInt→f i=g i):o_x Z h a k z g:=by
 have q:o_ao z.toNatClampNeg f=o_ao z.toNatClampNeg g:=o_hz fun i hi=>e i (by have:z.toNatClampNeg=z.toInt.toNat:=rfl;omega)
 unfold o_x;rw[←q];exact F
variable {p:Program}{l:Launch}{e:Env}{R:Room}{s:State}{m:MethodId}{args:Array Value}{below:List Frame}{meth:Method}{c:Code}{T:State}{locs:List Loc}{cells slots:Nat}{Fn:Outcome→State→Prop}{pc:Nat}{L:Array Slot}{st:List Value}{Z:State}{h:Heap}{a:Addr}{k:ClassId}{z j x:Int32}{f:Nat→Int32}
theorem o_ai (q i:Nat)(X:Stand p l e R s m args below meth c T locs cells slots)(hx:p.tables.exec=Jvm.exec)(hZ:Z.Warmed39 s.vm)(eT:T.heap=h)(F:o_x Z h a k z f)(hj:j.toInt=i)(hi:(i:Int)<z.toInt)(hd:decode c.code pc= .ok (.iaload,1))(hq:pc+1=q)(w:o_f p e below Fn T (mkF m q L (.int (f i)::st))):o_f p e below Fn T (mkF m pc L (.int j:: .ref a::st)):=
 o_eh q X hx hZ eT F (o_eB hj hi) (by rw[o_aT hj];exact o_dI (by have:z.toNatClampNeg=z.toInt.toNat:=rfl;omega)) hd hq w
theorem o_as (q i:Nat)(X:Stand p l e R s m args below meth c T locs cells slots)(hx:p.tables.exec=Jvm.exec)(hZ:Z.Warmed39 s.vm)(eT:T.heap=h)(F:o_x Z h a k z f)(hj:j.toInt=i)(hi:(i:Int)<z.toInt)(hd:decode c.code pc= .ok (.iastore,1))(hq:pc+1=q)
  (w: ∀(T':State) (h':Heap),Stand p l e R s m args below meth c T' (locs++ [⟨a,(j).toNatClampNeg⟩]) cells slots→T'.heap=h'→Wr h h' a j.toNatClampNeg (.int x)→o_x Z h' a k z (o_T f i x)→o_f p e below Fn T' (mkF m q L st)):o_f p e below Fn T (mkF m pc L (.int x:: .int j:: .ref a::st)):=
 o_ei q i X hx hZ eT F (o_eB hj hi) (o_aT hj) (by rw[o_cK];have:z.toNatClampNeg=z.toInt.toNat:=rfl;omega) hd hq fun T' h' X' e' W' A'=>w T' h' X' e' W' (by rw[o_hy] at A';exact A')
theorem o_hA (q:Nat){x y z':Value}(X:Stand p l e R s m args below meth c T locs cells slots)(hx:p.tables.exec=Jvm.exec)(hd:decode c.code pc= .ok (.dup_x2,1))(h1:x.category=1)(h2:y.category=1)(h3:z'.category=1)(hq:pc+1=q)(w:o_f p e below Fn T (mkF m q L (x::y::z'::x::st))):o_f p e below Fn T (mkF m pc L (x::y::z'::st)):=by
 subst hq;refine o_i (T':=T) (mkF m (pc+1) L (x::y::z'::x::st)) (fun t k=> ?_) w
 have hh:=X.here
 jvm_step hh [hh.top,hx,hd,h1,h2,h3,mkF]
 exact k
theorem o_hB (q:Nat){x y:Value}(X:Stand p l e R s m args below meth c T locs cells slots)(hx:p.tables.exec=Jvm.exec)(hd:decode c.code pc= .ok (.dup2,1))(h1:x.category=1)(h2:y.category=1)(hq:pc+1=q)(w:o_f p e below Fn T (mkF m q L (x::y::x::y::st))):o_f p e below Fn T (mkF m pc L (x::y::st)):=by
 subst hq;exact o_i (T':=T) (mkF m (pc+1) L (x::y::x::y::st)) (fun t k=>Jvm.Free.XT.dup2 X.here hx rfl hd rfl h1 h2 k) w
end OwnFun
section OwnWF
def o_L (x:Slot):Bool:=match x with| .val v=>v.category==2|_=>false
def o_0 (x:Slot):Bool:=match x with| .second=>true|_=>false
def o_am (a b c d e f g:Slot):Prop:=o_0 a=false∧o_0 b=o_L a∧o_0 c=o_L b∧o_0 d=o_L c∧o_0 e=o_L d∧o_0 f=o_L e∧o_0 g=o_L f∧o_L g=false
def o_9 (x:Slot):Prop:=o_0 x=false∧o_L x=false
theorem o_eC {l:Array Slot}{i j:Nat}{x y:Slot}(h:j<l.size):(l.setIfInBounds i x)[j]? =if i=j then some x else l[j]? :=by
 rw[Array.getElem?_setIfInBounds];by_cases q:i=j
 ·subst q;simp[h]
 ·simp[q]
theorem o_hC {l:Array Slot}{i:Nat}{b:Slot}{v:Int32}(hb:l[i]? =some b)(h:o_9 b):storeLocals l i (.int v)=some (l.setIfInBounds i (.val (.int v))):=by
 refine storeLocals_cat1 hb rfl ?_
 cases b with
 |unset=>trivial
 |second=>cases h.1
 |val w=>have q:=h.2;cases w<;>first|rfl|cases q
theorem o_eD {l:Array Slot}{i:Nat}{b:Slot}{v:Int32}(hb:l[i]? =some b)(h:o_0 b=false)(hi:i+1<l.size):storeLocals l i (.int v)=some ((if o_L b then l.setIfInBounds (i+1) .unset else l).setIfInBounds i (.val (.int v))):=by
 have hi':i<l.size:=by omega
 unfold storeLocals;rw[hb]
 cases b with
 |unset=>simp[storeSelf,setAt,hi',o_L,Value.category]
 |second=>cases h
 |val w=>cases w<;>simp[storeSelf,setAt,hi,hi',o_L,Value.category]
theorem o_bu {l:Array Slot}{i:Nat}{b c:Slot}{v:Int64}(hb:l[i]? =some b)(hc:l[i+1]? =some c)(sb:o_0 b=false)(sc:o_0 c=o_L b)(h2:o_L c=true→i+2<l.size):
  storeLocals l i (.long v)=some ((if o_L c then (l.setIfInBounds i (.val (.long v))).setIfInBounds (i+2) .unset else l.setIfInBounds i (.val (.long v))).setIfInBounds (i+1) .second):=by
 have hi:i+1<l.size:=(Array.getElem?_eq_some_iff.mp hc).1
 have hi':i<l.size:=by omega
 have hs: ∀l':Array Slot,l'.size=l.size→l'[i+1]? =some c→storeSelf l' i (.long v)=some ((if o_L c then (l'.setIfInBounds i (.val (.long v))).setIfInBounds (i+2) .unset else l'.setIfInBounds i (.val (.long v))).setIfInBounds (i+1) .second):=by
  intro l' e hc'
  obtain ⟨hi2,gc⟩:=Array.getElem?_eq_some_iff.mp hc'
  have g:(l'.setIfInBounds i (.val (.long v)))[i+1]? =some c:=by rw[o_eC (y:=c) (by omega)];simp[hc']
  cases c with
  |unset=>simp[storeSelf,setAt,e,hi,hi',o_L,Value.category,gc]
  |second=>simp[storeSelf,setAt,e,hi,hi',o_L,Value.category,gc]
  |val w=>cases w<;>(first|(have q:=h2 rfl;simp[storeSelf,setAt,e,hi,hi',o_L,Value.category,gc,q])|simp[storeSelf,setAt,e,hi,hi',o_L,Value.category,gc])
 have un:o_L b=true→storeSelf (l.setIfInBounds (i+1) .unset) i (.long v)=some ((l.setIfInBounds i (.val (.long v))).setIfInBounds (i+1) .second):=by
  intro hb2
  have g:((l.setIfInBounds (i+1) .unset).setIfInBounds i (.val (.long v)))[i+1]? =some .unset:=by rw[o_eC (y:= .unset) (by simpa using hi)];simp[hi]
  have e:((l.setIfInBounds (i+1) .unset).setIfInBounds i (.val (.long v))).setIfInBounds (i+1) .second=(l.setIfInBounds i (.val (.long v))).setIfInBounds (i+1) .second:=by
   apply Array.ext_getElem?;intro j;simp only[Array.getElem?_setIfInBounds,Array.size_setIfInBounds];by_cases q:i+1=j<;>by_cases r:i=j<;>simp[q,r]
  simp[storeSelf,setAt,hi,hi',o_L,Value.category,g,e]
 unfold storeLocals;rw[hb]
 cases b with
 |unset=>exact hs l rfl hc
 |second=>cases sb
 |val w=>
  have k2:o_L (.val w)=true→o_L c=false:=fun q=>by rw[q] at sc;cases c<;>first|rfl|cases sc
  cases w<;>first|exact hs l rfl hc|(rw[k2 rfl];have q:=un rfl;simp[setAt,hi,Value.category];exact q)
theorem o_bO {c d e:Slot}(h:o_0 d=o_L c)(h':o_0 e=o_L d):o_0 (if o_L c then .unset else d)=false∧o_0 e=o_L (if o_L c then .unset else d):=by
 cases q:o_L c with
 |false=>rw[q] at h;exact ⟨h,h'⟩
 |true=>rw[q] at h;refine ⟨rfl,?_⟩;cases d<;>first|exact h'|cases h
theorem o_hD {c d:Slot}(h:o_0 d=o_L c)(h':o_L d=false):o_0 (if o_L c then .unset else d)=false∧o_L (if o_L c then .unset else d)=false:=by
 cases q:o_L c with
 |false=>rw[q] at h;exact ⟨h,h'⟩
 |true=>exact ⟨rfl,rfl⟩
variable {p:Program}{l:Launch}{e':Env}{R:Room}{s:State}{m:MethodId}{args:Array Value}{below:List Frame}{meth:Method}{cd:Code}{T:State}{locs:List Loc}{cells slots:Nat}{Fn:Outcome→State→Prop}{pc:Nat}{st:List Value}
variable {x0 x1 x2 x3 x4 x5 x6 x7 x8 x9 x10 x11 x12 x13 x14 x15 x16 x17 x18 x19 x20 a b c d e f g:Slot}{v:Int64}{i:Int32}
theorem o_az (q k:Nat){L:Array Slot}(L':Array Slot)(X:Stand p l e' R s m args below meth cd T locs cells slots)(hx:p.tables.exec=Jvm.exec)(hd:decode cd.code pc= .ok (.istore k,2))(hb:L[k]? =some b)(hc:o_9 b)(hl:L.setIfInBounds k (.val (.int i))=L')(hq:pc+2=q)(w:o_f p e' below Fn T (mkF m q L' st)):o_f p e' below Fn T (mkF m pc L (.int i::st)):=
 o_dp q L' X hx hd (by rw[o_hC hb hc,hl]) hq w
theorem o_eE (q:Nat)(X:Stand p l e' R s m args below meth cd T locs cells slots)(hx:p.tables.exec=Jvm.exec)(hd:decode cd.code pc= .ok (.lstore 22,2))(H:o_am a b c d e f g)(h:o_L a=false∨o_0 a=true)(hq:pc+2=q)(w: ∀d_:Slot,o_am a (.val (.long v)) .second d_ e f g→o_f p e' below Fn T (mkF m q #[x0,x1,x2,x3,x4,x5,x6,x7,x8,x9,x10,x11,x12,x13,x14,x15,x16,x17,x18,x19,x20,a,.val (.long v),.second,d_,e,f,g] st)):o_f p e' below Fn T (mkF m pc #[x0,x1,x2,x3,x4,x5,x6,x7,x8,x9,x10,x11,x12,x13,x14,x15,x16,x17,x18,x19,x20,a,b,c,d,e,f,g] (.long v::st)):=by
 obtain ⟨h1,h2,h3,h4,h5,h6,h7,h8⟩:=H
 have hb:o_0 b=false:=by
  rw[h2]
  rcases h with h|h
  ·exact h
  ·cases a<;>first|rfl|cases h
 have hl:storeLocals #[x0,x1,x2,x3,x4,x5,x6,x7,x8,x9,x10,x11,x12,x13,x14,x15,x16,x17,x18,x19,x20,a,b,c,d,e,f,g] 22 (.long v)=some #[x0,x1,x2,x3,x4,x5,x6,x7,x8,x9,x10,x11,x12,x13,x14,x15,x16,x17,x18,x19,x20,a,.val (.long v),.second,(if o_L c then .unset else d),e,f,g]:=by
  rw[o_bu (b:=b) (c:=c) rfl rfl hb h3 (fun q=>(by decide:22+2<28))];cases o_L c<;>rfl
 have hw:=o_bO h4 h5
 have hz:o_0 (.val (.long v))=o_L a:=by rw[←h2,hb];rfl
 exact o_aO q _ X hx hd hl hq (w _ ⟨h1,hz,rfl,hw.1,hw.2,h6,h7,h8⟩)
theorem o_eF (q:Nat)(X:Stand p l e' R s m args below meth cd T locs cells slots)(hx:p.tables.exec=Jvm.exec)(hd:decode cd.code pc= .ok (.lstore 24,2))(H:o_am a b c d e f g)(h:o_L c=false∨o_0 c=true)(hq:pc+2=q)(w: ∀B:Slot,o_am a b c (.val (.long v)) .second B g→o_f p e' below Fn T (mkF m q #[x0,x1,x2,x3,x4,x5,x6,x7,x8,x9,x10,x11,x12,x13,x14,x15,x16,x17,x18,x19,x20,a,b,c,.val (.long v),.second,B,g] st)):o_f p e' below Fn T (mkF m pc #[x0,x1,x2,x3,x4,x5,x6,x7,x8,x9,x10,x11,x12,x13,x14,x15,x16,x17,x18,x19,x20,a,b,c,d,e,f,g] (.long v::st)):=by
 obtain ⟨h1,h2,h3,h4,h5,h6,h7,h8⟩:=H
 have hb:o_0 d=false:=by
  rw[h4]
  rcases h with h|h
  ·exact h
  ·cases c<;>first|rfl|cases h
 have hl:storeLocals #[x0,x1,x2,x3,x4,x5,x6,x7,x8,x9,x10,x11,x12,x13,x14,x15,x16,x17,x18,x19,x20,a,b,c,d,e,f,g] 24 (.long v)=some #[x0,x1,x2,x3,x4,x5,x6,x7,x8,x9,x10,x11,x12,x13,x14,x15,x16,x17,x18,x19,x20,a,b,c,.val (.long v),.second,(if o_L e then .unset else f),g]:=by
  rw[o_bu (b:=d) (c:=e) rfl rfl hb h5 (fun q=>(by decide:24+2<28))];cases o_L e<;>rfl
 have hw:=o_bO h6 h7
 have hz:o_0 (.val (.long v))=o_L c:=by rw[←h4,hb];rfl
 exact o_aO q _ X hx hd hl hq (w _ ⟨h1,h2,h3,hz,rfl,hw.1,hw.2,h8⟩)
theorem o_hE (q:Nat)(X:Stand p l e' R s m args below meth cd T locs cells slots)(hx:p.tables.exec=Jvm.exec)(hd:decode cd.code pc= .ok (.lstore 26,2))(H:o_am a b c d e f g)(h:o_L e=false∨o_0 e=true)(hq:pc+2=q)(w:o_am a b c d e (.val (.long v)) .second→o_f p e' below Fn T (mkF m q #[x0,x1,x2,x3,x4,x5,x6,x7,x8,x9,x10,x11,x12,x13,x14,x15,x16,x17,x18,x19,x20,a,b,c,d,e,.val (.long v),.second] st)):o_f p e' below Fn T (mkF m pc #[x0,x1,x2,x3,x4,x5,x6,x7,x8,x9,x10,x11,x12,x13,x14,x15,x16,x17,x18,x19,x20,a,b,c,d,e,f,g] (.long v::st)):=by
 obtain ⟨h1,h2,h3,h4,h5,h6,h7,h8⟩:=H
 have hb:o_0 f=false:=by
  rw[h6]
  rcases h with h|h
  ·exact h
  ·cases e<;>first|rfl|cases h
 have hl:storeLocals #[x0,x1,x2,x3,x4,x5,x6,x7,x8,x9,x10,x11,x12,x13,x14,x15,x16,x17,x18,x19,x20,a,b,c,d,e,f,g] 26 (.long v)=some #[x0,x1,x2,x3,x4,x5,x6,x7,x8,x9,x10,x11,x12,x13,x14,x15,x16,x17,x18,x19,x20,a,b,c,d,e,.val (.long v),.second]:=by
  rw[o_bu (b:=f) (c:=g) rfl rfl hb h7 (fun q=>by rw[h8] at q;cases q)];rw[h8];rfl
 have hz:o_0 (.val (.long v))=o_L e:=by rw[←h6,hb];rfl
 exact o_aO q _ X hx hd hl hq (w ⟨h1,h2,h3,h4,h5,hz,rfl,rfl⟩)
theorem o_eG (q:Nat)(X:Stand p l e' R s m args below meth cd T locs cells slots)(hx:p.tables.exec=Jvm.exec)(hd:decode cd.code pc= .ok (.lstore 21,2))(H:o_am a b c d e f g)(hq:pc+2=q)(w: ∀B:Slot,o_am (.val (.long v)) .second B d e f g→o_f p e' below Fn T (mkF m q #[x0,x1,x2,x3,x4,x5,x6,x7,x8,x9,x10,x11,x12,x13,x14,x15,x16,x17,x18,x19,x20,.val (.long v),.second,B,d,e,f,g] st)):o_f p e' below Fn T (mkF m pc #[x0,x1,x2,x3,x4,x5,x6,x7,x8,x9,x10,x11,x12,x13,x14,x15,x16,x17,x18,x19,x20,a,b,c,d,e,f,g] (.long v::st)):=by
 obtain ⟨h1,h2,h3,h4,h5,h6,h7,h8⟩:=H
 have hb:=h1
 have hl:storeLocals #[x0,x1,x2,x3,x4,x5,x6,x7,x8,x9,x10,x11,x12,x13,x14,x15,x16,x17,x18,x19,x20,a,b,c,d,e,f,g] 21 (.long v)=some #[x0,x1,x2,x3,x4,x5,x6,x7,x8,x9,x10,x11,x12,x13,x14,x15,x16,x17,x18,x19,x20,.val (.long v),.second,(if o_L b then .unset else c),d,e,f,g]:=by
  rw[o_bu (b:=a) (c:=b) rfl rfl hb h2 (fun q=>(by decide:21+2<28))];cases o_L b<;>rfl
 have hw:=o_bO h3 h4
 exact o_aO q _ X hx hd hl hq (w _ ⟨rfl,rfl,hw.1,hw.2,h5,h6,h7,h8⟩)
theorem o_eH (q:Nat)(X:Stand p l e' R s m args below meth cd T locs cells slots)(hx:p.tables.exec=Jvm.exec)(hd:decode cd.code pc= .ok (.lstore 23,2))(H:o_am a b c d e f g)(h:o_L b=false∨o_0 b=true)(hq:pc+2=q)(w: ∀y_:Slot,o_am a b (.val (.long v)) .second y_ f g→o_f p e' below Fn T (mkF m q #[x0,x1,x2,x3,x4,x5,x6,x7,x8,x9,x10,x11,x12,x13,x14,x15,x16,x17,x18,x19,x20,a,b,.val (.long v),.second,y_,f,g] st)):o_f p e' below Fn T (mkF m pc #[x0,x1,x2,x3,x4,x5,x6,x7,x8,x9,x10,x11,x12,x13,x14,x15,x16,x17,x18,x19,x20,a,b,c,d,e,f,g] (.long v::st)):=by
 obtain ⟨h1,h2,h3,h4,h5,h6,h7,h8⟩:=H
 have hb:o_0 c=false:=by
  rw[h3]
  rcases h with h|h
  ·exact h
  ·cases b<;>first|rfl|cases h
 have hl:storeLocals #[x0,x1,x2,x3,x4,x5,x6,x7,x8,x9,x10,x11,x12,x13,x14,x15,x16,x17,x18,x19,x20,a,b,c,d,e,f,g] 23 (.long v)=some #[x0,x1,x2,x3,x4,x5,x6,x7,x8,x9,x10,x11,x12,x13,x14,x15,x16,x17,x18,x19,x20,a,b,.val (.long v),.second,(if o_L d then .unset else e),f,g]:=by
  rw[o_bu (b:=c) (c:=d) rfl rfl hb h4 (fun q=>(by decide:23+2<28))];cases o_L d<;>rfl
 have hw:=o_bO h5 h6
 have hz:o_0 (.val (.long v))=o_L b:=by rw[←h3,hb];rfl
 exact o_aO q _ X hx hd hl hq (w _ ⟨h1,h2,hz,rfl,hw.1,hw.2,h7,h8⟩)
theorem o_hF (q:Nat)(X:Stand p l e' R s m args below meth cd T locs cells slots)(hx:p.tables.exec=Jvm.exec)(hd:decode cd.code pc= .ok (.lstore 25,2))(H:o_am a b c d e f g)(h:o_L d=false∨o_0 d=true)(hq:pc+2=q)(w: ∀B:Slot,o_am a b c d (.val (.long v)) .second B→o_f p e' below Fn T (mkF m q #[x0,x1,x2,x3,x4,x5,x6,x7,x8,x9,x10,x11,x12,x13,x14,x15,x16,x17,x18,x19,x20,a,b,c,d,.val (.long v),.second,B] st)):o_f p e' below Fn T (mkF m pc #[x0,x1,x2,x3,x4,x5,x6,x7,x8,x9,x10,x11,x12,x13,x14,x15,x16,x17,x18,x19,x20,a,b,c,d,e,f,g] (.long v::st)):=by
 obtain ⟨h1,h2,h3,h4,h5,h6,h7,h8⟩:=H
 have hb:o_0 e=false:=by
  rw[h5]
  rcases h with h|h
  ·exact h
  ·cases d<;>first|rfl|cases h
 have hl:storeLocals #[x0,x1,x2,x3,x4,x5,x6,x7,x8,x9,x10,x11,x12,x13,x14,x15,x16,x17,x18,x19,x20,a,b,c,d,e,f,g] 25 (.long v)=some #[x0,x1,x2,x3,x4,x5,x6,x7,x8,x9,x10,x11,x12,x13,x14,x15,x16,x17,x18,x19,x20,a,b,c,d,.val (.long v),.second,(if o_L f then .unset else g)]:=by
  rw[o_bu (b:=e) (c:=f) rfl rfl hb h6 (fun q=>(by decide:25+2<28))];cases o_L f<;>rfl
 have hw:=o_hD h7 h8
 have hz:o_0 (.val (.long v))=o_L d:=by rw[←h5,hb];rfl
 exact o_aO q _ X hx hd hl hq (w _ ⟨h1,h2,h3,h4,hz,rfl,hw.1,hw.2⟩)
theorem o_eI (q:Nat)(X:Stand p l e' R s m args below meth cd T locs cells slots)(hx:p.tables.exec=Jvm.exec)(hd:decode cd.code pc= .ok (.istore 21,2))(H:o_am a b c d e f g)(hq:pc+2=q)(w: ∀B:Slot,o_am (.val (.int i)) B c d e f g→o_f p e' below Fn T (mkF m q #[x0,x1,x2,x3,x4,x5,x6,x7,x8,x9,x10,x11,x12,x13,x14,x15,x16,x17,x18,x19,x20,.val (.int i),B,c,d,e,f,g] st)):o_f p e' below Fn T (mkF m pc #[x0,x1,x2,x3,x4,x5,x6,x7,x8,x9,x10,x11,x12,x13,x14,x15,x16,x17,x18,x19,x20,a,b,c,d,e,f,g] (.int i::st)):=by
 obtain ⟨h1,h2,h3,h4,h5,h6,h7,h8⟩:=H
 have hb:o_0 a=false:=h1
 have hl:storeLocals #[x0,x1,x2,x3,x4,x5,x6,x7,x8,x9,x10,x11,x12,x13,x14,x15,x16,x17,x18,x19,x20,a,b,c,d,e,f,g] 21 (.int i)=some #[x0,x1,x2,x3,x4,x5,x6,x7,x8,x9,x10,x11,x12,x13,x14,x15,x16,x17,x18,x19,x20,.val (.int i),(if o_L a then .unset else b),c,d,e,f,g]:=by
  rw[o_eD (b:=a) rfl hb (by decide:21+1<28)];cases o_L a<;>rfl
 have hw:=o_bO h2 h3
 exact o_dp q _ X hx hd hl hq (w _ ⟨rfl,hw.1,hw.2,h4,h5,h6,h7,h8⟩)
theorem o_hG (q:Nat)(X:Stand p l e' R s m args below meth cd T locs cells slots)(hx:p.tables.exec=Jvm.exec)(hd:decode cd.code pc= .ok (.istore 22,2))(H:o_am a b c d e f g)(h:o_L a=false)(hq:pc+2=q)(w: ∀B:Slot,o_am a (.val (.int i)) B d e f g→o_f p e' below Fn T (mkF m q #[x0,x1,x2,x3,x4,x5,x6,x7,x8,x9,x10,x11,x12,x13,x14,x15,x16,x17,x18,x19,x20,a,.val (.int i),B,d,e,f,g] st)):o_f p e' below Fn T (mkF m pc #[x0,x1,x2,x3,x4,x5,x6,x7,x8,x9,x10,x11,x12,x13,x14,x15,x16,x17,x18,x19,x20,a,b,c,d,e,f,g] (.int i::st)):=by
 obtain ⟨h1,h2,h3,h4,h5,h6,h7,h8⟩:=H
 have hb:o_0 b=false:=h2.trans h
 have hl:storeLocals #[x0,x1,x2,x3,x4,x5,x6,x7,x8,x9,x10,x11,x12,x13,x14,x15,x16,x17,x18,x19,x20,a,b,c,d,e,f,g] 22 (.int i)=some #[x0,x1,x2,x3,x4,x5,x6,x7,x8,x9,x10,x11,x12,x13,x14,x15,x16,x17,x18,x19,x20,a,.val (.int i),(if o_L b then .unset else c),d,e,f,g]:=by
  rw[o_eD (b:=b) rfl hb (by decide:22+1<28)];cases o_L b<;>rfl
 have hw:=o_bO h3 h4
 exact o_dp q _ X hx hd hl hq (w _ ⟨h1,h.symm,hw.1,hw.2,h5,h6,h7,h8⟩)
end OwnWF
section OwnTurn
theorem o_eJ {x y:Int64}(hy:0≤y.toInt∧y.toInt<4294967296):o_s ((x<<<((32:Int32)&&&0x3f).toInt64)|||y)=(x.toInt%4294967296)*4294967296+y.toInt:=by
 have s:=c_lshl x 32 32 (by decide)
 have B:((2^32:Nat):Int)=4294967296:=rfl
 rw[B] at s
 have rs:=rng64 (x<<<((32:Int32)&&&0x3f).toInt64)
 have w:=c_orL (x<<<((32:Int32)&&&0x3f).toInt64) y 32 (by decide) 4294967296 rfl (by omega) (by omega) (by omega)
 unfold o_s
 generalize ((x<<<((32:Int32)&&&0x3f).toInt64)|||y).toInt=W at*
 generalize (x<<<((32:Int32)&&&0x3f).toInt64).toInt=S at*
 omega
theorem o_dJ (a b:Int32):o_s ((a.toInt64<<<((32:Int32)&&&0x3f).toInt64)|||(b.toInt64&&&(4294967295:Int64)))=o_a a*4294967296+o_a b:=by
 have m:=o_2 b;have r:=o_m b
 rw[o_eJ (by omega),m,c_i2l];rfl
theorem o_bH (a b:Int32):o_s (((a.toInt64&&&(4294967295:Int64))<<<((32:Int32)&&&0x3f).toInt64)|||(b.toInt64&&&(4294967295:Int64)))=o_a a*4294967296+o_a b:=by
 have m:=o_2 b;have r:=o_m b;have m':=o_2 a;have r':=o_m a
 rw[o_eJ (by omega),m,m'];omega
def o_aM (a b dh dl qh qr sk:Int32):Prop:= ∃r:Int,o_a a*4294967296+o_a b=o_a qh*o_a dh+r∧0≤r∧(sk=0→r=o_a qr)∧(¬sk=0→4294967296≤r)∧ ∀n2:Int,n2<4294967296→(o_a a*4294967296+o_a b)*4294967296+n2-o_a qh*(o_a dh*4294967296+o_a dl)<o_a dh*4294967296+o_a dl
def o_a2 (a b c dh dl q:Int32):Prop:=0≤(o_a a*4294967296+o_a b)*4294967296+o_a c-o_a q*(o_a dh*4294967296+o_a dl)∧(o_a a*4294967296+o_a b)*4294967296+o_a c-o_a q*(o_a dh*4294967296+o_a dl)<o_a dh*4294967296+o_a dl
def o_cL (a b c dh dl q b' c':Int32):Prop:=o_a q*(o_a dh*4294967296+o_a dl)+(o_a b'*4294967296+o_a c')=(o_a a*4294967296+o_a b)*4294967296+o_a c∧o_a b'*4294967296+o_a c'<o_a dh*4294967296+o_a dl
variable {a b c dh dl qh qr sk:Int32}{dhl nC:Int64}
theorem o_cM (x y:Int32):o_a (x+y)=(o_a x+o_a y)%4294967296:=by
 have q:=o_b3 x y;rw[o_bh,o_bh,o_bh,q];omega
theorem o_cN (h:a=dh)(hn:o_a a*4294967296+o_a b<o_a dh*4294967296+o_a dl):(((a+b)+(-2147483648:Int32))<(a+(-2147483648:Int32))→o_aM a b dh dl (-1) (a+b) 1)∧(¬((a+b)+(-2147483648:Int32))<(a+(-2147483648:Int32))→o_aM a b dh dl (-1) (a+b) 0):=by
 subst h
 have ua:=o_m a;have ub:=o_m b;have e:=o_cM a b
 have m1:o_a (-1)=4294967295:=rfl
 constructor
 ·intro q;have l:=o_bG q
  refine ⟨o_a a+o_a b,?_,by omega,fun q=>absurd q (by decide),fun _=>by omega,fun n2 h2=> ?_⟩
  ·rw[m1];omega
  ·rw[m1];exact o_ex hn h2
 ·intro q;have l:=o_aZ q
  refine ⟨o_a a+o_a b,?_,by omega,fun _=>by omega,fun q=>absurd rfl q,fun n2 h2=> ?_⟩
  ·rw[m1];omega
  ·rw[m1];exact o_ex hn h2
theorem o_eK (hn:o_a a*4294967296+o_a b<o_a dh*4294967296+o_a dl)(h: ¬a=dh):o_a a<o_a dh:=by
 have ub:=o_m b;have ul:=o_m dl
 have:o_a a≠o_a dh:=fun q=>h (by
  rw[←Int32.toInt_inj];have r:=rng32 a;have r':=rng32 dh;unfold o_a at q;omega)
 omega
theorem o_eL {Q r:Int}(hq:o_a qh=(o_a a*4294967296+o_a b)/o_a dh)(hr:o_a qr=(o_a a*4294967296+o_a b)%o_a dh)(hd:2147483648≤o_a dh):o_aM a b dh dl qh qr 0:=by
 have ub:=o_m b;have ul:=o_m dl;have ua:=o_m a;have w:=o_m qh
 have e:=Int.mul_ediv_add_emod (o_a a*4294967296+o_a b) (o_a dh)
 rw[←hq,←hr,Int.mul_comm] at e
 have l:o_a qr<o_a dh:=by rw[hr];exact Int.emod_lt_of_pos _ (by omega)
 refine ⟨o_a qr,e.symm,(o_m qr).1,fun _=>rfl,fun q=>absurd rfl q,fun n2 h2=> ?_⟩
 rw[o_b6 e.symm];exact o_hh w.1 ul.1 h2 l
theorem o_eM {U d:Int}(hd:0<d)(h:U<d*4294967296):U/d<4294967296:=Int.ediv_lt_of_lt_mul hd (by rw[Int.mul_comm];exact h)
theorem o_eN (hC:((a.toInt64<<<((32:Int32)&&&0x3f).toInt64)|||(b.toInt64&&&(4294967295:Int64)))=nC)(hl:dhl.toInt=o_a dh)(hd:2147483648≤o_a dh)(hlt:o_a a<o_a dh)(hp: ¬lcmpW nC (0:Int64)<0):o_aM a b dh dl (nC/dhl).toInt32 (nC-((nC/dhl).toInt32.toInt64*dhl)).toInt32 0:=by
 have U:=o_dJ a b;rw[hC] at U
 have ub:=o_m b;have ua:=o_m a;have w:=o_m dh
 have p:=o_a9 hp
 have o:(0:Int64).toInt=0:=rfl
 have rn:=rng64 nC
 have eU:nC.toInt=o_a a*4294967296+o_a b:=by rw[←U];unfold o_s;omega
 have dv:=(c_ldiv nC dhl (o_a dh) hl (fun q=>by rw[q] at hl;have:(-1:Int64).toInt= -1:=rfl;omega)).1 (by omega)
 rw[eU] at dv
 have lt:=o_eM (U:=o_a a*4294967296+o_a b) (d:=o_a dh) (by omega) (by omega)
 have ge:0≤(o_a a*4294967296+o_a b)/o_a dh:=Int.ediv_nonneg (by omega) (by omega)
 have hq:o_a (nC/dhl).toInt32=(o_a a*4294967296+o_a b)/o_a dh:=by rw[o_ae,dv];omega
 refine o_eL (Q:=0) (r:=0) hq ?_ hd
 have e:=Int.mul_ediv_add_emod (o_a a*4294967296+o_a b) (o_a dh)
 have lt':=Int.emod_lt_of_pos (o_a a*4294967296+o_a b) (show 0<o_a dh by omega)
 have B:=Int.emod_nonneg (o_a a*4294967296+o_a b) (show o_a dh≠0 by omega)
 rw[o_ae]
 have s:=c_lsub nC ((nC/dhl).toInt32.toInt64*dhl)
 have mu:=c_lmul (nC/dhl).toInt32.toInt64 dhl
 rw[hl,c_i2l] at mu
 have z: ∃t:Int,(nC/dhl).toInt32.toInt=(o_a a*4294967296+o_a b)/o_a dh+t*4294967296:=by
  refine ⟨((nC/dhl).toInt32.toInt-(o_a a*4294967296+o_a b)/o_a dh)/4294967296,?_⟩
  unfold o_a at hq⊢;omega
 obtain ⟨t,ht⟩:=z
 have ex:(nC/dhl).toInt32.toInt*o_a dh=o_a dh*((o_a a*4294967296+o_a b)/o_a dh)+(t*o_a dh)*4294967296:=by rw[ht];grind
 rw[ex] at mu
 rw[eU] at s
 generalize o_a dh*((o_a a*4294967296+o_a b)/o_a dh)=P at*
 generalize (o_a a*4294967296+o_a b)%o_a dh=Rm at*
 generalize t*o_a dh=Y at*
 generalize (nC-((nC/dhl).toInt32.toInt64*dhl)).toInt=S at*
 generalize ((nC/dhl).toInt32.toInt64*dhl).toInt=M at*
 omega
theorem o_eO {r:Int64}(hC:((a.toInt64<<<((32:Int32)&&&0x3f).toInt64)|||(b.toInt64&&&(4294967295:Int64)))=nC)(hd:2147483648≤o_a dh)(h1:o_a r.toInt32=o_s nC/o_a dh)(h2:o_s r/4294967296=o_s nC%o_a dh):o_aM a b dh dl (r&&&(4294967295:Int64)).toInt32 ((r.toUInt64>>>((32:Int32)&&&0x3f).toInt64.toUInt64).toInt64).toInt32 0:=by
 have U:=o_dJ a b;rw[hC] at U;rw[U] at h1 h2
 have w:=o_m dh
 refine o_eL (Q:=0) (r:=0) ?_ ?_ hd
 ·rw[←h1,o_ae,o_ae,o_cs];omega
 ·rw[←h2,o_ae,o_bg];have:=o_b8 r;unfold o_s at*;omega
theorem o_eP (H:o_aM a b dh dl qh qr sk)(h: ¬sk=0):o_a2 a b c dh dl qh:=by
 obtain ⟨r,e,-,-,h3,h4⟩:=H
 have w:=o_m c;have B:=o_m qh;have ul:=o_m dl
 refine ⟨?_,h4 _ w.2⟩
 rw[o_b6 e];exact o_ew B.1 (by omega) ul.1 (by omega) w.1 (h3 h)
theorem o_b_ (dl qh:Int32):o_s ((dl.toInt64&&&(4294967295:Int64))*(qh.toInt64&&&(4294967295:Int64)))=o_a qh*o_a dl:=by
 have m:=c_lmul (dl.toInt64&&&(4294967295:Int64)) (qh.toInt64&&&(4294967295:Int64))
 rw[o_2,o_2] at m
 have w:=o_m qh;have ul:=o_m dl
 have k:=o_b7 w.1 (by omega) ul.1 (by omega)
 rw[Int.mul_comm] at m
 unfold o_s
 generalize o_a qh*o_a dl=P at*
 generalize ((dl.toInt64&&&(4294967295:Int64))*(qh.toInt64&&&(4294967295:Int64))).toInt=E at*
 omega
theorem o_cO (h:1≤o_a qh):o_s (((dl.toInt64&&&(4294967295:Int64))*(qh.toInt64&&&(4294967295:Int64)))-(dl.toInt64&&&(4294967295:Int64)))=(o_a qh-1)*o_a dl:=by
 have e:=o_b_ dl qh
 have s:=c_lsub ((dl.toInt64&&&(4294967295:Int64))*(qh.toInt64&&&(4294967295:Int64))) (dl.toInt64&&&(4294967295:Int64))
 rw[o_2] at s
 have w:=o_m qh;have ul:=o_m dl
 have k:=o_b7 (q:=o_a qh-1) (dl:=o_a dl) (by omega) (by omega) ul.1 (by omega)
 have x:(o_a qh-1)*o_a dl=o_a qh*o_a dl-o_a dl:=by grind
 rw[x] at k⊢
 unfold o_s at*
 generalize o_a qh*o_a dl=P at*
 generalize (((dl.toInt64&&&(4294967295:Int64))*(qh.toInt64&&&(4294967295:Int64)))-(dl.toInt64&&&(4294967295:Int64))).toInt=F at*
 generalize ((dl.toInt64&&&(4294967295:Int64))*(qh.toInt64&&&(4294967295:Int64))).toInt=E at*
 omega
theorem o_cP (h:1≤o_a qh):o_a (qh+(-1:Int32))=o_a qh-1:=by
 have e:=o_cM qh (-1);have m1:o_a (-1)=4294967295:=rfl;have r:=o_m qh;omega
theorem o_eQ (H:o_aM a b dh dl qh qr sk)(h:sk=0)(hu:o_s ((dl.toInt64&&&(4294967295:Int64))*(qh.toInt64&&&(4294967295:Int64)))≤o_s (((qr.toInt64&&&(4294967295:Int64))<<<((32:Int32)&&&0x3f).toInt64)|||(c.toInt64&&&(4294967295:Int64)))):o_a2 a b c dh dl qh:=by
 obtain ⟨r,e,h1,h2,h3,h4⟩:=H
 have w:=o_m c
 rw[o_b_,o_bH] at hu
 have r':=h2 h
 refine ⟨?_,h4 _ w.2⟩
 rw[o_b6 e,r'];omega
theorem o_bP (hu:o_s (((qr.toInt64&&&(4294967295:Int64))<<<((32:Int32)&&&0x3f).toInt64)|||(c.toInt64&&&(4294967295:Int64)))<o_s ((dl.toInt64&&&(4294967295:Int64))*(qh.toInt64&&&(4294967295:Int64)))):1≤o_a qh:=by
 rw[o_b_,o_bH] at hu
 have w:=o_m qh;have ur:=o_m qr;have B:=o_m c
 refine Classical.byContradiction fun q=> ?_
 have:o_a qh=0:=by omega
 rw[this] at hu;omega
theorem o_eR (hl:dhl.toInt=o_a dh):o_a ((qr.toInt64&&&(4294967295:Int64))+dhl).toInt32=(o_a qr+o_a dh)%4294967296:=by
 have s:=c_ladd (qr.toInt64&&&(4294967295:Int64)) dhl
 rw[o_2,hl] at s
 rw[o_ae];omega
theorem o_eS (hl:dhl.toInt=o_a dh):(lcmpW (((qr.toInt64&&&(4294967295:Int64))+dhl).toInt32.toInt64&&&(4294967295:Int64)) dhl<0→4294967296≤o_a qr+o_a dh)∧(¬lcmpW (((qr.toInt64&&&(4294967295:Int64))+dhl).toInt32.toInt64&&&(4294967295:Int64)) dhl<0→o_a qr+o_a dh<4294967296):=by
 have q:=o_eR (qr:=qr) hl
 have ur:=o_m qr;have w:=o_m dh
 constructor
 ·intro h;have l:=o_aJ h;rw[o_2,q,hl] at l;omega
 ·intro h;have l:=o_a9 h;rw[o_2,q,hl] at l;omega
theorem o_eT (H:o_aM a b dh dl qh qr sk)(h:sk=0)(hl:dhl.toInt=o_a dh)(hu:o_s (((qr.toInt64&&&(4294967295:Int64))<<<((32:Int32)&&&0x3f).toInt64)|||(c.toInt64&&&(4294967295:Int64)))<o_s ((dl.toInt64&&&(4294967295:Int64))*(qh.toInt64&&&(4294967295:Int64))))
  (ho:lcmpW (((qr.toInt64&&&(4294967295:Int64))+dhl).toInt32.toInt64&&&(4294967295:Int64)) dhl<0) {q':Int32} (e1:qh+(-1:Int32)=q'):o_a2 a b c dh dl q':=by
 subst e1
 have q1:=o_bP hu
 have ov:=(o_eS hl).1 ho
 rw[o_b_,o_bH] at hu
 obtain ⟨r,e,h1,h2,h3,h4⟩:=H
 have r':=h2 h
 have w:=o_m c;have B:=o_m qh;have ul:=o_m dl
 have e':o_a a*4294967296+o_a b=(o_a qh-1)*o_a dh+(o_a qr+o_a dh):=by rw[e,r'];grind
 unfold o_a2
 rw[o_cP q1]
 refine ⟨?_,?_⟩
 ·rw[o_b6 e'];exact o_ew (by omega) (by omega) ul.1 (by omega) w.1 ov
 ·rw[o_hf,o_b6 e,r'];omega
theorem o_hH {U q r dh dl n2:Int}(e:U=q*dh+r)(h:r*4294967296+n2<q*dl)(h1:(q-1)*dl≤(r+dh)*4294967296+n2):0≤U*4294967296+n2-(q-1)*(dh*4294967296+dl)∧U*4294967296+n2-(q-1)*(dh*4294967296+dl)<dh*4294967296+dl:=by
 have e':U*4294967296+n2-(q-1)*(dh*4294967296+dl)=(r+dh)*4294967296+n2-(q-1)*dl:=by rw[e];grind
 have e2:(q-1)*dl=q*dl-dl:=by grind
 rw[e'];constructor<;>omega
theorem o_hI {U q r dh dl n2:Int}(e:U=q*dh+r)(k:0≤r*4294967296+n2-q*dl+2*(dh*4294967296+dl))(h1:(r+dh)*4294967296+n2<(q-1)*dl):0≤U*4294967296+n2-(q-1-1)*(dh*4294967296+dl)∧U*4294967296+n2-(q-1-1)*(dh*4294967296+dl)<dh*4294967296+dl:=by
 have e':U*4294967296+n2-(q-1-1)*(dh*4294967296+dl)=r*4294967296+n2-q*dl+2*(dh*4294967296+dl):=by rw[e];grind
 have e2:(q-1)*dl=q*dl-dl:=by grind
 rw[e'];constructor<;>omega
theorem o_cQ (hl:dhl.toInt=o_a dh)(ho: ¬lcmpW (((qr.toInt64&&&(4294967295:Int64))+dhl).toInt32.toInt64&&&(4294967295:Int64)) dhl<0):o_s (((((qr.toInt64&&&(4294967295:Int64))+dhl).toInt32.toInt64&&&(4294967295:Int64))<<<((32:Int32)&&&0x3f).toInt64)|||(c.toInt64&&&(4294967295:Int64)))=(o_a qr+o_a dh)*4294967296+o_a c:=by
 have ov:=(o_eS hl).2 ho
 have ur:=o_m qr;have w:=o_m dh
 rw[o_bH,o_eR hl,Int.emod_eq_of_lt (by omega) ov]
theorem o_eU (H:o_aM a b dh dl qh qr sk)(h:sk=0)(hu:o_s (((qr.toInt64&&&(4294967295:Int64))<<<((32:Int32)&&&0x3f).toInt64)|||(c.toInt64&&&(4294967295:Int64)))<o_s ((dl.toInt64&&&(4294967295:Int64))*(qh.toInt64&&&(4294967295:Int64)))){E R:Int64}
  (hE:o_s E=(o_a qh-1)*o_a dl) (hR:o_s R=(o_a qr+o_a dh)*4294967296+o_a c) (hq:o_s E≤o_s R) {q':Int32} (e1:qh+(-1:Int32)=q'):o_a2 a b c dh dl q':=by
 subst e1
 have d1:=o_cP (o_bP hu)
 rw[o_b_,o_bH] at hu
 rw[hE,hR] at hq
 obtain ⟨r,e,h1,h2,h3,h4⟩:=H
 rw[h2 h] at e
 unfold o_a2;rw[d1];exact o_hH e hu hq
theorem o_hJ {q' q'':Int32}(h:o_a qh-1≥1)(e1:q'=qh+(-1:Int32))(e2:q''=q'+(-1:Int32)):o_a q''=o_a qh-1-1:=by
 have d1:o_a q'=o_a qh-1:=by rw[e1];exact o_cP (by clear e1 e2;omega)
 have d2:o_a q''=o_a q'-1:=by rw[e2];exact o_cP (by rw[d1];exact h)
 clear e1 e2;omega
theorem o_eV (H:o_aM a b dh dl qh qr sk)(h:sk=0)(hu:o_s (((qr.toInt64&&&(4294967295:Int64))<<<((32:Int32)&&&0x3f).toInt64)|||(c.toInt64&&&(4294967295:Int64)))<o_s ((dl.toInt64&&&(4294967295:Int64))*(qh.toInt64&&&(4294967295:Int64)))){E R:Int64}{q' q'':Int32}(e1:qh+(-1:Int32)=q')(e2:q'+(-1:Int32)=q'')
  (hd:2147483648≤o_a dh) (hE:o_s E=(o_a qh-1)*o_a dl) (hR:o_s R=(o_a qr+o_a dh)*4294967296+o_a c) (hq:o_s R<o_s E):o_a2 a b c dh dl q'':=by
 rw[hE,hR] at hq
 clear hE hR
 obtain ⟨r,e,h1,h2,h3,h4⟩:=H
 rw[h2 h] at e
 clear hu h1 h2 h3 h4
 have w:=o_m c;have B:=o_m qh;have ul:=o_m dl;have ur:=o_m qr
 have q2:o_a qh-1≥1:=Classical.byContradiction fun q=>by
  have q0:o_a qh-1≤0:=by clear e1 e2 hq e hd;omega
  have:=Int.mul_le_mul_of_nonneg_right q0 ul.1
  clear e1 e2 e
  omega
 have d2:=o_hJ q2 e1.symm e2.symm
 clear e1 e2
 unfold o_a2;rw[d2]
 exact o_hI e (o_hg B.1 (by clear e;omega) ul.1 (by clear e;omega) w.1 ur.1 hd) hq
def o_cR (b c dh dl q b' c' r:Int32):Prop:=o_a b*4294967296+o_a c-o_a q*(o_a dh*4294967296+o_a dl)=o_a b'*4294967296+o_a c'-o_a r*18446744073709551616
theorem o_eW {q b' c' r:Int32}(H:o_a2 a b c dh dl q)(M:o_cR b c dh dl q b' c' r):r=a∧o_cL a b c dh dl q b' c':=by
 have ub:=o_m b';have w:=o_m c';have B:=o_m dh;have ul:=o_m dl;have ur:=o_m r;have ua:=o_m a
 obtain ⟨z1,z2⟩:=o_hk (n0:=o_a a) M ub w (by omega) H.1 H.2
 refine ⟨?_,?_,?_⟩
 ·rw[←Int32.toInt_inj];have r1:=rng32 a;have r2:=rng32 r;clear M H z2 ub w B ul;unfold o_a at z1;omega
 ·rw[z2];omega
 ·rw[z2];exact H.2
theorem o_eX (H:o_aM a b dh dl qh qr sk)(h:qh=0):o_a a=0∧o_cL a b c dh dl 0 b c:=by
 obtain ⟨r,e,h1,h2,h3,h4⟩:=H
 have w:=o_m c;have ub:=o_m b;have ua:=o_m a;have B:=o_m dh;have ul:=o_m dl
 have z:o_a (0:Int32)=0:=rfl
 subst h
 have l:=h4 _ w.2
 rw[z] at l
 refine ⟨by omega,?_,by omega⟩
 rw[z];omega
end OwnTurn
section OwnMs
theorem o_bc {j z:Int32}{k n:Nat}{c:Int32}(h:j.toInt=k)(hc:c.toInt=n)(hz:((k+n:Nat):Int)<z.toInt):(j+c).toInt=(k+n:Nat):=by
 have a:=c_iadd j c;have r:=rng32 (j+c);have rz:=rng32 z;omega
theorem o_dK {j:Int32}{k:Nat}(h:j.toInt=(k+1:Nat)):(j+(-1:Int32)).toInt=k:=by
 have a:=c_iadd j (-1);have o:(-1:Int32).toInt= -1:=rfl;have r:=rng32 (j+(-1));have r':=rng32 j;omega
theorem o_hK (x:Int32):o_a (x^^^(-1:Int32))=4294967295-o_a x:=by
 have e:(x^^^(-1:Int32)).toBitVec= ~~~x.toBitVec:=by
  have z:(-1:Int32).toBitVec=BitVec.allOnes 32:=by decide
  show x.toBitVec^^^(-1:Int32).toBitVec=_
  rw[z,BitVec.xor_allOnes]
 rw[o_bh,o_bh,e,BitVec.toNat_not]
 have:=x.toBitVec.isLt;omega
theorem o_eY {y d g:Int32}{xl cin pr df cy:Int64}{X:Int}(hx:xl.toInt=X)(hX:0≤X∧X<4294967296)(hc:0≤cin.toInt∧cin.toInt<4294967296)(hp:((d.toInt64&&&(4294967295:Int64))*xl)+cin=pr)(hD:y.toInt64-pr=df)
  (g1:(0:Int32)<lcmpW (df&&&(4294967295:Int64)) ((pr.toInt32^^^(-1:Int32)).toInt64&&&(4294967295:Int64))→g=1) (g0: ¬((0:Int32)<lcmpW (df&&&(4294967295:Int64)) ((pr.toInt32^^^(-1:Int32)).toInt64&&&(4294967295:Int64)))→g=0)
  (hcy:((pr.toUInt64>>>((32:Int32)&&&0x3f).toInt64.toUInt64).toInt64)+g.toInt64=cy):o_a y-(X*o_a d+cin.toInt)=o_a df.toInt32-cy.toInt*4294967296∧0≤cy.toInt∧cy.toInt<4294967296:=by
 have B:=o_m d;have w:=o_m y
 have m:=c_lmul (d.toInt64&&&(4294967295:Int64)) xl;rw[o_2,hx] at m
 have a:=c_ladd ((d.toInt64&&&(4294967295:Int64))*xl) cin;rw[hp] at a
 have k:=o_b7 hX.1 (by omega) B.1 (by omega)
 rw[Int.mul_comm] at m
 have U:o_s pr=X*o_a d+cin.toInt:=by
  unfold o_s
  generalize X*o_a d=P at*
  generalize ((d.toInt64&&&(4294967295:Int64))*xl).toInt=E at*
  omega
 have s:=c_lsub y.toInt64 pr;rw[hD,c_i2l] at s
 have l1:=o_cs df
 have l2:=o_2 (pr.toInt32^^^(-1:Int32));rw[o_hK,o_ae] at l2
 have e1:=o_ae df
 have sh:=o_bg pr
 have pU:o_s pr=pr.toInt%18446744073709551616:=rfl
 have hg:g.toInt64.toInt=if o_a y<o_s pr%4294967296 then 1 else 0:=by
  rw[c_i2l]
  by_cases q:(0:Int32)<lcmpW (df&&&(4294967295:Int64)) ((pr.toInt32^^^(-1:Int32)).toInt64&&&(4294967295:Int64))
  ·have l:=o_ds q;rw[l1,l2] at l;rw[g1 q]
   have:o_a y<o_s pr%4294967296:=by rw[pU];unfold o_a at w⊢;clear m a k U sh hp hD hcy;omega
   rw[if_pos this];rfl
  ·have l:=o_cp q;rw[l1,l2] at l;rw[g0 q]
   have: ¬o_a y<o_s pr%4294967296:=by rw[pU];unfold o_a at w⊢;clear m a k U sh hp hD hcy;omega
   rw[if_neg this];rfl
 have ca:=c_ladd ((pr.toUInt64>>>((32:Int32)&&&0x3f).toInt64.toUInt64).toInt64) g.toInt64
 rw[hcy,sh,hg] at ca
 have rc:=rng64 cy
 have F:=o_b8 pr
 have pb:0≤o_s pr∧o_s pr≤18446744069414584320:=by rw[U];omega
 have ec:cy.toInt=o_s pr/4294967296+(if o_a y<o_s pr%4294967296 then 1 else 0):=by
  rw[←pU] at ca
  by_cases q:o_a y<o_s pr%4294967296
  ·rw[if_pos q] at ca⊢;clear m a k U hp hD hcy s l1 l2 e1 sh;omega
  ·rw[if_neg q] at ca⊢;clear m a k U hp hD hcy s l1 l2 e1 sh;omega
 have eD:o_a df.toInt32=(o_a y-o_s pr)%4294967296:=by rw[e1,pU];unfold o_a;clear m a k U hp hD hcy ca ec hg sh;omega
 have r:=o_hi w pb eD ec
 rw[U] at r;exact r
theorem o_hL {b c dh dl x b' c':Int32}{xl c2 c1:Int64}(hx:xl.toInt=o_a x)(h2:o_a c-(o_a x*o_a dl+(0:Int64).toInt)=o_a c'-c2.toInt*4294967296∧0≤c2.toInt∧c2.toInt<4294967296)(h1:o_a b-(o_a x*o_a dh+c2.toInt)=o_a b'-c1.toInt*4294967296∧0≤c1.toInt∧c1.toInt<4294967296):o_cR b c dh dl x b' c' c1.toInt32:=by
 have o:(0:Int64).toInt=0:=rfl
 have e:o_a c1.toInt32=c1.toInt:=by rw[o_ae];omega
 unfold o_cR;rw[e]
 refine o_hj (c2:=c2.toInt) ?_ h1.1
 rw[←h2.1,o];omega
end OwnMs
theorem o_bI {f:Nat→Int32}{i j:Nat}{x:Int32}(h: ¬j=i):o_T f i x j=f j:=if_neg h
theorem o_eZ {f:Nat→Int32}{i:Nat}{x:Int32}:o_T f i x i=x:=if_pos rfl
theorem o_e0 {dh:Int32}{dhl:Int64}(h:dhl.toInt=o_a dh)(hd:2147483648≤o_a dh):dhl≠0:=fun q=>by
 rw[q] at h;have:(0:Int64).toInt=0:=rfl;omega
theorem o_a3 {k n:Nat}{z:Int}(h:((k+n:Nat):Int)<z)(i:Nat):((k+(n-i):Nat):Int)<z:=by omega
theorem o_e1 {a b dh:Int32}{nC:Int64}(hC:((a.toInt64<<<((32:Int32)&&&0x3f).toInt64)|||(b.toInt64&&&(4294967295:Int64)))=nC)(h:o_a a<o_a dh):o_s nC<o_a dh*4294967296:=by
 rw[←hC,o_dJ];have:=o_m b;omega
theorem o_e2 {f:Nat→Int32}{k:Nat}{z:Int32}(h:f k=0): ∀i:Nat,(i:Int)<z.toInt→f i=o_T (o_T (o_T f k 0) (k+2) (f (k+2))) (k+1) (f (k+1)) i:=fun i _=>by
 unfold o_T
 by_cases q1:i=k+1
 ·simp[q1]
 ·by_cases q2:i=k+2
  ·simp[q2]
  ·by_cases q3:i=k
   ·simp[q3,h]
   ·simp[q1,q2,q3]
theorem o_e3 {g:Nat→Int32}{k:Nat}{z:Int32}(h:g k=0): ∀i:Nat,(i:Int)<z.toInt→g i=o_T g k 0 i:=fun i _=>by
 unfold o_T
 by_cases q:i=k
 ·simp[q,h]
 ·simp[q]
section OwnShf
def o_ad (n:Int32)(f:Nat→Int32)(i:Nat):Int32:=(f i<<<(n&&&31))|||(((f (i+1)).toUInt32>>>(((32:Int32)-n)&&&31).toUInt32).toInt32)
def o_aI (n:Int32)(f:Nat→Int32)(i:Nat):Nat→Int32:=fun x=>if x<i then o_ad n f x else f x
theorem o_hM (n:Int32)(f:Nat→Int32)(i:Nat):o_T (o_aI n f i) i (o_ad n f i)=o_aI n f (i+1):=by
 funext x;unfold o_T o_aI
 by_cases q:x=i
 ·subst q;simp
 ·by_cases r:x<i
  ·have:x<i+1:=by omega
   simp[q,r,this]
  ·have: ¬x<i+1:=by omega
   simp[q,r,this]
theorem o_hN (n:Int32)(f:Nat→Int32):o_aI n f 0=f:=by funext x;simp[o_aI]
theorem o_e4 {n:Int32}{f:Nat→Int32}{i x:Nat}(h:i≤x):o_aI n f i x=f x:=if_neg (by omega)
theorem o_hO {n:Int32}{f:Nat→Int32}{i x:Nat}(h:x<i):o_aI n f i x=o_ad n f x:=if_pos h
theorem o_hP {Z:State}{h:Heap}{a:Addr}{k:ClassId}{z n:Int32}{f:Nat→Int32}{i:Nat}(F:o_x Z h a k z (o_T (o_aI n f i) i (o_ad n f i))):o_x Z h a k z (o_aI n f (i+1)):=by rw[o_hM] at F;exact F
def o_aU (n:Int32)(f g:Nat→Int32)(d i:Nat):Nat→Int32:=fun x=>if d≤x∧x<d+i then o_ad n f (x-d) else g x
theorem o_hQ (n:Int32)(f g:Nat→Int32)(d i:Nat):o_T (o_aU n f g d i) (d+i) (o_ad n f i)=o_aU n f g d (i+1):=by
 funext x;unfold o_T o_aU
 by_cases q:x=d+i
 ·subst q;have e:d+i-d=i:=by omega
  simp[e]
 ·by_cases r:d≤x∧x<d+i
  ·have:d≤x∧x<d+(i+1):=by omega
   simp[q,r,this]
  ·have: ¬(d≤x∧x<d+(i+1)):=by omega
   simp only[q,r,this,if_false]
theorem o_e5 (n:Int32)(f g:Nat→Int32)(d:Nat):o_aU n f g d 0=g:=by
 funext x;unfold o_aU;have: ¬(d≤x∧x<d+0):=by omega
 simp only[this,if_false]
theorem o_e6 {Z:State}{h:Heap}{a:Addr}{k:ClassId}{z n:Int32}{f g:Nat→Int32}{d i:Nat}(F:o_x Z h a k z (o_T (o_aU n f g d i) (d+i) (o_ad n f i))):o_x Z h a k z (o_aU n f g d (i+1)):=by rw[o_hQ] at F;exact F
theorem o_e7 (x:Int32):x-(0:Int32)=x:=by rw[←Int32.toInt_inj];have a:=c_isub x 0;have r:=rng32 x;have r':=rng32 (x-0);have o:(0:Int32).toInt=0:=rfl;omega
theorem o_hR {r:Int32}(h:o_aR (o_a 0) r):(32:Int32)-r=0:=by
 obtain ⟨k,e,q⟩:=h
 have u0:o_a 0=0:=rfl
 have w:k=32:=by
  rcases q with ⟨-,q⟩|⟨-,q,-⟩
  ·exact q
  ·rw[u0] at q;omega
 rw[←Int32.toInt_inj];have a:=c_isub 32 r;have r1:=rng32 (32-r);have o:(32:Int32).toInt=32:=rfl;have o0:(0:Int32).toInt=0:=rfl
 omega
def o_a4 (oo ll:Int32)(il:Nat)(f:Nat→Int32):Prop:= ∃z:Nat,z≤il∧(∀i,i<z→f i=0)∧(z<il→ ¬f z=0)∧ll.toInt=((il-z:Nat):Int)∧(z<il→oo.toInt=z)∧(z=il→oo=0)
theorem o_aA {a b:Int32}{i j:Nat}(ha:a.toInt=i)(hb:b.toInt=j)(h:i<j):a<b:=by rw[Int32.lt_iff_toInt_lt];omega
theorem o_an {a b:Int32}{i j:Nat}(ha:a.toInt=i)(hb:b.toInt=j)(h:j≤i): ¬a<b:=fun q=>by rw[Int32.lt_iff_toInt_lt] at q;omega
theorem o_aV {a b:Int32}{i j:Nat}(ha:a.toInt=i)(hb:b.toInt=j)(h:j≤i):(a-b).toInt=((i-j:Nat):Int):=by
 have q:=c_isub a b;have r:=rng32 (a-b);have ra:=rng32 a;omega
theorem o_aE {a b:Int32}{i j:Nat}(ha:a.toInt=i)(hb:b.toInt=j)(h:i+j<100000):(a+b).toInt=((i+j:Nat):Int):=by
 have q:=c_iadd a b;have r:=rng32 (a+b);omega
theorem o_bJ {a:Int32}{i:Nat}(ha:a.toInt=i)(h:0<i): ¬a=0:=fun q=>by
 rw[q] at ha;have o:(0:Int32).toInt=0:=rfl;omega
theorem o_cS {a:Int32}(ha:a.toInt=0):a=0:=by rw[←Int32.toInt_inj];exact ha
theorem o_cT (x:Int32):(0:Int32)+x=x:=by rw[←Int32.toInt_inj];have a:=c_iadd 0 x;have r:=rng32 x;have r':=rng32 (0+x);have o:(0:Int32).toInt=0:=rfl;omega
theorem o_hS {f:Nat→Int32}{i:Nat}(h: ∀x,x≤i→f x=0)(h':f (i+1)=0): ∀x,x≤i+1→f x=0:=fun x q=>by
 by_cases r:x=i+1
 ·rw[r];exact h'
 ·exact h x (by omega)
theorem o_hT {f:Nat→Int32}(h:f 0=0): ∀x,x≤0→f x=0:=fun x q=>by
 have:x=0:=by omega
 rw[this];exact h
end OwnShf
section OwnCopy
variable {Z:State}{h:Heap}{a b:Addr}{k:ClassId}{z:Int32}{f g:Nat→Int32}
theorem o_bQ (A:Arv Z h a k .int z [] (.int (0:Int32))):o_x Z h a k z (fun _=>0):=A.pad fun i=>by
 by_cases q:i<z.toNatClampNeg
 ·rw[o_dI q];rfl
 ·have e:(o_ao z.toNatClampNeg fun _=>0).length≤i:=by rw[o_cK];omega
  rw[List.getD_eq_getElem?_getD,List.getElem?_eq_none e];rfl
theorem o_hU {M:Nat}{sp nn:Int32}{dv:Value}(hnn:nn=z)(hs:sp.toNatClampNeg+z.toNatClampNeg≤M)(A:Arv Z h b k .int z ((o_ao z.toNatClampNeg g).take (0:Int32).toNatClampNeg++(List.range nn.toNatClampNeg).map (fun i=>(o_ao M f).getD (sp.toNatClampNeg+i) dv)++(o_ao z.toNatClampNeg g).drop ((0:Int32).toNatClampNeg+nn.toNatClampNeg)) (.int (0:Int32))):o_x Z h b k z (fun i=>f (sp.toNatClampNeg+i)):=by
 subst hnn
 have z0:(0:Int32).toNatClampNeg=0:=rfl
 have e:(o_ao nn.toNatClampNeg g).take (0:Int32).toNatClampNeg++(List.range nn.toNatClampNeg).map (fun i=>(o_ao M f).getD (sp.toNatClampNeg+i) dv)++(o_ao nn.toNatClampNeg g).drop ((0:Int32).toNatClampNeg+nn.toNatClampNeg)=o_ao nn.toNatClampNeg (fun i=>f (sp.toNatClampNeg+i)):=by
  rw[z0,List.take_zero,List.nil_append,List.drop_of_length_le (by rw[o_cK];omega),List.append_nil]
  unfold o_ao
  apply List.map_congr_left;intro i hi
  have hi':=List.mem_range.mp hi
  exact o_dI (N:=M) (f:=f) (by omega)
 rw[e] at A;exact A
theorem o_hV (x y:Int32):(x+y)-x=y:=by
 rw[←Int32.toInt_inj];have p:=c_iadd x y;have q:=c_isub (x+y) x;have r:=rng32 y;have r':=rng32 ((x+y)-x);omega
theorem o_hW {x:Int32}{i:Nat}(h:x.toInt=i)(q: ¬(0:Int32)<x):i=0:=by
 rw[Int32.lt_iff_toInt_lt] at q;have o:(0:Int32).toInt=0:=rfl;omega
theorem o_hX {x:Int32}{i:Nat}(h:x.toInt=i)(q:(0:Int32)<x): ¬x=0:=fun r=>by rw[r] at q;exact absurd q (by decide)
theorem o_e8 {z:Int32}{n:Nat}(h:(n:Int)≤z.toInt):n≤z.toNatClampNeg:=by have:z.toNatClampNeg=z.toInt.toNat:=rfl;omega
theorem o_hY {z fo:Int32}{i:Nat}(h:fo.toInt=i)(hz:(i:Int)≤z.toInt):(z-fo).toInt=((z.toInt.toNat-i:Nat):Int):=by
 have q:=c_isub z fo;have r:=rng32 (z-fo);have rz:=rng32 z;omega
theorem o_hZ {oo l2 zz:Int32}(h: ¬zz=l2):oo=0→ ¬(oo+l2)=zz:=fun q r=>h (by rw[←r,q,o_cT])
end OwnCopy
section OwnDm
theorem o_bR {b r x:Addr}{S:Nat}(h:b=r∨S≤b)(h1:r≠x)(h2:x<S):b≠x:=by
 rcases h with h|h
 ·rw[h];exact h1
 ·exact fun q=>absurd h (by rw[q];exact Nat.not_le.mpr h2)
def o_n (f:Nat→Int32):Nat→Int
 |0=>0
 |n+1=>o_n f n*4294967296+o_a (f n)
def o_bd (f:Nat→Int32):Nat→Int32:=fun x=>if x=0 then 0 else f (x-1)
theorem o_e9 (f:Nat→Int32)(i:Nat):o_bd f (i+1)=f i:=by simp[o_bd]
def o_a5 (sh:Int32)(f:Nat→Int32)(n:Nat):Nat→Int32:=o_T (o_aU sh f (fun _=>0) 1 (n-1)) (1+(n-1)) (f (n-1)<<<(sh&&&31))
theorem o_h0 {u:Int}{sh:Int32}(h:o_aR u sh)(h0:0<u)(h1:u<2147483648): ∃ks:Nat,sh.toInt=ks∧1≤ks∧ks≤31∧2147483648≤u*2^ks∧u*2^ks<4294967296:=by
 obtain ⟨k,e,q⟩:=h
 rcases q with ⟨q,-⟩|⟨q1,q2,q3⟩
 ·omega
 ·refine ⟨k,e,?_,q1,q2,q3⟩
  rcases Nat.eq_zero_or_pos k with r|r
  ·subst r;simp at q2;omega
  ·exact r
theorem o_h1 {u:Int}{s2 sh:Int32}{ks:Nat}(h:o_aR u s2)(hu:0≤u)(hs:sh.toInt=ks)(hge: ¬s2<sh):u*2^ks<4294967296:=by
 obtain ⟨k,e,q⟩:=h
 have hk:ks≤k:=by rw[Int32.lt_iff_toInt_lt] at hge;omega
 rcases q with ⟨q,-⟩|⟨q1,q2,q3⟩
 ·rw[q];omega
 ·have:(2:Int)^ks≤2^k:=by
   have:=Nat.pow_le_pow_right (show 0<2 by omega) hk
   have a:=o_aP ks;have b:=o_aP k;omega
  have:=Int.mul_le_mul_of_nonneg_left this hu
  omega
theorem o_h2 {u t:Int}{s2 sh:Int32}(h:o_aR u s2)(ht:o_aR t sh)(hu:0<u)(ht0:0<t)(hlt:s2<sh):t<u:=by
 obtain ⟨k,e,q⟩:=h;obtain ⟨k',e',q'⟩:=ht
 rw[Int32.lt_iff_toInt_lt] at hlt
 rcases q with ⟨q,-⟩|⟨q1,q2,q3⟩
 ·omega
 rcases q' with ⟨q',-⟩|⟨r1,r2,r3⟩
 ·omega
 refine Classical.byContradiction fun w=> ?_
 have hk:k+1≤k':=by omega
 have p2:(2:Int)^(k+1)≤2^k':=by
  have:=Nat.pow_le_pow_right (show 0<2 by omega) hk
  have a:=o_aP (k+1);have b:=o_aP k';omega
 have e2:(2:Int)^(k+1)=2^k*2:=by rw[Int.pow_succ]
 have m1:=Int.mul_le_mul_of_nonneg_left p2 (show 0≤u by omega)
 have pk:(0:Int)≤2^k':=by rw[←o_aP];exact Int.natCast_nonneg _
 have m2:=Int.mul_le_mul_of_nonneg_right (show u≤t by omega) pk
 rw[e2] at m1
 have e3:u*(2^k*2)=u*2^k*2:=by grind
 omega
variable {sh:Int32}{ks:Nat}{f:Nat→Int32}
theorem o_h3 (hs:sh.toInt=ks)(h1:1≤ks)(hk:ks≤31)(h:o_a (f 0)*2^ks<4294967296):o_n (o_a5 sh f 2) 3=o_n f 2*2^ks:=by
 have a:o_a (o_ad sh f 0)=_:=o_aX (x:=f 0) (y:=f 1) hs h1 hk
 have b:o_a (f 1<<<(sh&&&31))=_:=o_a' hs hk
 have z:o_a (0:Int32)=0:=rfl
 have e:o_n (o_a5 sh f 2) 3=((0*4294967296+o_a 0)*4294967296+o_a (o_ad sh f 0))*4294967296+o_a (f 1<<<(sh&&&31)):=rfl
 have e':o_n f 2*2^ks=o_a (f 0)*2^ks*4294967296+o_a (f 1)*2^ks:=by show ((0*4294967296+o_a (f 0))*4294967296+o_a (f 1))*2^ks=_;grind
 have p:=(o_ap hk).1
 have u0:=Int.mul_nonneg (o_m (f 0)).1 (show (0:Int)≤2^ks by omega)
 rw[e,e',a,b,z]
 generalize o_a (f 0)*2^ks=X at*
 generalize o_a (f 1)*2^ks=Y at*
 omega
theorem o_h4 (hs:sh.toInt=ks)(h1:1≤ks)(hk:ks≤31)(h:o_a (f 0)*2^ks<4294967296):o_n (o_a5 sh f 3) 4=o_n f 3*2^ks:=by
 have a:o_a (o_ad sh f 0)=_:=o_aX (x:=f 0) (y:=f 1) hs h1 hk
 have a':o_a (o_ad sh f 1)=_:=o_aX (x:=f 1) (y:=f 2) hs h1 hk
 have b:o_a (f 2<<<(sh&&&31))=_:=o_a' hs hk
 have z:o_a (0:Int32)=0:=rfl
 have e:o_n (o_a5 sh f 3) 4=(((0*4294967296+o_a 0)*4294967296+o_a (o_ad sh f 0))*4294967296+o_a (o_ad sh f 1))*4294967296+o_a (f 2<<<(sh&&&31)):=rfl
 have e':o_n f 3*2^ks=(o_a (f 0)*2^ks*4294967296+o_a (f 1)*2^ks)*4294967296+o_a (f 2)*2^ks:=by show (((0*4294967296+o_a (f 0))*4294967296+o_a (f 1))*4294967296+o_a (f 2))*2^ks=_;grind
 have p:=(o_ap hk).1
 have u0:=Int.mul_nonneg (o_m (f 0)).1 (show (0:Int)≤2^ks by omega)
 rw[e,e',a,a',b,z]
 generalize o_a (f 0)*2^ks=X at*
 generalize o_a (f 1)*2^ks=Y at*
 generalize o_a (f 2)*2^ks=W at*
 omega
theorem o_h5 (hs:sh.toInt=ks)(h1:1≤ks)(hk:ks≤31)(h:o_a (f 0)*2^ks<4294967296):o_n (o_a5 sh f 4) 5=o_n f 4*2^ks:=by
 have a:o_a (o_ad sh f 0)=_:=o_aX (x:=f 0) (y:=f 1) hs h1 hk
 have a':o_a (o_ad sh f 1)=_:=o_aX (x:=f 1) (y:=f 2) hs h1 hk
 have a2:o_a (o_ad sh f 2)=_:=o_aX (x:=f 2) (y:=f 3) hs h1 hk
 have b:o_a (f 3<<<(sh&&&31))=_:=o_a' hs hk
 have z:o_a (0:Int32)=0:=rfl
 have e:o_n (o_a5 sh f 4) 5=((((0*4294967296+o_a 0)*4294967296+o_a (o_ad sh f 0))*4294967296+o_a (o_ad sh f 1))*4294967296+o_a (o_ad sh f 2))*4294967296+o_a (f 3<<<(sh&&&31)):=rfl
 have e':o_n f 4*2^ks=((o_a (f 0)*2^ks*4294967296+o_a (f 1)*2^ks)*4294967296+o_a (f 2)*2^ks)*4294967296+o_a (f 3)*2^ks:=by show ((((0*4294967296+o_a (f 0))*4294967296+o_a (f 1))*4294967296+o_a (f 2))*4294967296+o_a (f 3))*2^ks=_;grind
 have p:=(o_ap hk).1
 have u0:=Int.mul_nonneg (o_m (f 0)).1 (show (0:Int)≤2^ks by omega)
 rw[e,e',a,a',a2,b,z]
 generalize o_a (f 0)*2^ks=X at*
 generalize o_a (f 1)*2^ks=Y at*
 generalize o_a (f 2)*2^ks=W at*
 generalize o_a (f 3)*2^ks=V at*
 omega
theorem o_h6 (hs:sh.toInt=ks)(h1:1≤ks)(hk:ks≤31)(h:o_a (f 0)*2^ks<4294967296)(h':2147483648≤o_a (f 0)*2^ks):o_a (o_ad sh f 0)*4294967296+o_a (f 1<<<(sh&&&31))=o_n f 2*2^ks∧2147483648≤o_a (o_ad sh f 0):=by
 have a:o_a (o_ad sh f 0)=_:=o_aX (x:=f 0) (y:=f 1) hs h1 hk
 have b:o_a (f 1<<<(sh&&&31))=_:=o_a' hs hk
 have e':o_n f 2*2^ks=o_a (f 0)*2^ks*4294967296+o_a (f 1)*2^ks:=by show ((0*4294967296+o_a (f 0))*4294967296+o_a (f 1))*2^ks=_;grind
 have p:=(o_ap hk).1
 have u1:=Int.mul_nonneg (o_m (f 1)).1 (show (0:Int)≤2^ks by omega)
 rw[e',a,b]
 generalize o_a (f 0)*2^ks=X at*
 generalize o_a (f 1)*2^ks=Y at*
 constructor<;>omega
theorem o_h7 {A D Q R P:Int}(hP:0<P)(hD:0<D)(h:A*P=Q*(D*P)+R)(h0:0≤R)(h1:R<D*P):Q=A/D∧(R=0↔A%D=0)∧R=A%D*P:=by
 have e:R=(A-Q*D)*P:=by
  have:(A-Q*D)*P=A*P-Q*(D*P):=by grind
  omega
 have l0:0≤A-Q*D:=Classical.byContradiction fun q=>by
  have:=Int.mul_lt_mul_of_pos_right (show A-Q*D<0 by omega) hP
  omega
 have l1:A-Q*D<D:=Classical.byContradiction fun q=>by
  have:=Int.mul_le_mul_of_nonneg_right (show D≤A-Q*D by omega) (show 0≤P by omega)
  omega
 have a:A=(A-Q*D)+D*Q:=by grind
 have d1:A/D=Q:=by rw[a,Int.add_mul_ediv_left _ _ (by omega),Int.ediv_eq_zero_of_lt l0 l1];omega
 have d2:A%D=A-Q*D:=by
  have:((A-Q*D)+D*Q)%D=A-Q*D:=by rw[Int.add_mul_emod_self_left,Int.emod_eq_of_lt l0 l1]
  rw[←a] at this;exact this
 refine ⟨d1.symm,?_,by rw[d2];exact e⟩
 rw[d2,e]
 constructor
 ·intro q;rcases Int.mul_eq_zero.mp q with q|q
  ·exact q
  ·omega
 ·intro q;rw[q];omega
theorem o_h8 {F:Nat→Int32}{k:Nat}(hs:sh.toInt=ks)(h1:1≤ks)(hk:ks≤31)(hz: ∀i,i≤k→F i=0){M:Int}(hR:o_a (F (k+1))*4294967296+o_a (F (k+2))=M*2^ks):(∀i,i<k+2→o_ad ((32:Int32)-sh) F i=0)↔o_a (F (k+1))*4294967296+o_a (F (k+2))=0:=by
 have e:((32:Int32)-sh).toInt=((32-ks:Nat):Int):=o_aV (i:=32) rfl hs (by omega)
 have sv: ∀i,o_a (o_ad ((32:Int32)-sh) F i)=o_a (F i)*2^(32-ks)%4294967296+o_a (F (i+1))*2^(32-ks)/4294967296:=fun i=>o_aX (x:=F i) (y:=F (i+1)) e (by omega) (by omega)
 have pc:=o_du (s:=ks) (by omega)
 have p1:=o_ap (s:=ks) hk
 have p2:=o_ap (s:=32-ks) (by omega)
 constructor
 ·intro h
  have a:=sv k;have b:=sv (k+1)
  rw[h k (by omega),hz k (by omega)] at a
  rw[h (k+1) (by omega)] at b
  have z:o_a (0:Int32)=0:=rfl
  rw[z] at a b
  have w:=o_m (F (k+1));have B:=o_m (F (k+2))
  clear sv h hz
  generalize o_a (F (k+1))=x at*
  generalize o_a (F (k+2))=y at*
  have nx:=Int.mul_nonneg w.1 (show (0:Int)≤2^(32-ks) by omega)
  have ny:=Int.mul_nonneg B.1 (show (0:Int)≤2^(32-ks) by omega)
  rw[Int.zero_mul] at a
  have X0:x*2^(32-ks)=0:=by omega
  have Y0:y*2^(32-ks)<4294967296:=by omega
  have x0:x=0:=by
   rcases Int.mul_eq_zero.mp X0 with q|q
   ·exact q
   ·omega
  have y1:y<2^ks:=Classical.byContradiction fun q=>by
   have:=Int.mul_le_mul_of_nonneg_left (show (2:Int)^ks≤y by omega) (show (0:Int)≤2^(32-ks) by omega)
   rw[pc,Int.mul_comm] at this;omega
  have M0:M=0:=by
   rcases Int.lt_trichotomy M 0 with q|q|q
   ·have:=Int.mul_le_mul_of_nonneg_right (show M≤ -1 by omega) (show (0:Int)≤2^ks by omega);omega
   ·exact q
   ·have:=Int.mul_le_mul_of_nonneg_right (show 1≤M by omega) (show (0:Int)≤2^ks by omega);omega
  rw[M0] at hR;omega
 ·intro h i hi
  have w:=o_m (F (k+1));have B:=o_m (F (k+2))
  have zx:o_a (F (k+1))=0:=by omega
  have zy:o_a (F (k+2))=0:=by omega
  have G: ∀j,j≤k+2→o_a (F j)=0:=fun j hj=>by
   by_cases q:j≤k
   ·rw[hz j q];rfl
   ·by_cases r:j=k+1
    ·rw[r];exact zx
    ·have:j=k+2:=by omega
     rw[this];exact zy
  apply o_cA;rw[sv i,G i (by omega),G (i+1) (by omega)];omega
theorem o_h9 {oo lr:Int32}{il:Nat}{f2:Nat→Int32}(H:o_a4 oo lr il f2):lr=0↔ ∀i,i<il→f2 i=0:=by
 obtain ⟨z,h1,h2,h3,h4,-,-⟩:=H
 constructor
 ·intro q i hi
  rw[q] at h4
  have o:(0:Int32).toInt=0:=rfl
  exact h2 i (by omega)
 ·intro q
  apply o_cS
  have: ¬z<il:=fun r=>h3 r (q z r)
  rw[h4];omega
theorem o_h_ {Z:State}{h:Heap}{da:Addr}{kd:ClassId}{sh dh dl:Int32}{ft:Nat→Int32}(V:o_x Z h da kd 2 (o_T (o_aU sh ft (fun _=>0) 0 (2-1)) (0+(2-1)) (ft (2-1)<<<(sh&&&31))))(e1:dh=o_ad sh ft 0)(e2:dl=ft 1<<<(sh&&&31)):Arv Z h da kd .int 2 [.int dh,.int dl] (.int (0:Int32)):=by subst e1 e2;exact V
theorem o_dL {x dh dl:Int32}(h:2147483648≤o_a dh):o_a (0:Int32)*4294967296+o_a x<o_a dh*4294967296+o_a dl:=by
 have z:o_a (0:Int32)=0:=rfl
 have:=o_m x;have:=o_m dl;omega
theorem o_h' {V D q R x0 x1 x2:Int}(S:((0*4294967296+x0)*4294967296+x1)*4294967296+x2=V)(a:q*D+R=(x0*4294967296+x1)*4294967296+x2):V=(0*4294967296+q)*D+R:=by
 have e:(0*4294967296+q)*D=q*D:=by grind
 rw[e];omega
theorem o_ia {V D q0 q1 R r x0 x1 x2 x3:Int}(S:(((0*4294967296+x0)*4294967296+x1)*4294967296+x2)*4294967296+x3=V)(a:q0*D+r=(x0*4294967296+x1)*4294967296+x2)(b:q1*D+R=r*4294967296+x3):V=((0*4294967296+q0)*4294967296+q1)*D+R:=by
 have e:((0*4294967296+q0)*4294967296+q1)*D=q0*D*4294967296+q1*D:=by grind
 rw[e];omega
theorem o_ib {V D q0 q1 q2 R r r' x0 x1 x2 x3 x4:Int}(S:((((0*4294967296+x0)*4294967296+x1)*4294967296+x2)*4294967296+x3)*4294967296+x4=V)(a:q0*D+r=(x0*4294967296+x1)*4294967296+x2)(b:q1*D+r'=r*4294967296+x3)(c:q2*D+R=r'*4294967296+x4):V=(((0*4294967296+q0)*4294967296+q1)*4294967296+q2)*D+R:=by
 have e:(((0*4294967296+q0)*4294967296+q1)*4294967296+q2)*D=(q0*D*4294967296+q1*D)*4294967296+q2*D:=by grind
 rw[e];omega
theorem o_ic {A D Q:Int}{F:Nat→Int32}{k:Nat}{oo lr sh dh dl:Int32}{ks:Nat}{F2:Nat→Int32}(hs:sh.toInt=ks)(h1:1≤ks)(hk:ks≤31)(hz: ∀i,i≤k→F i=0)(hD:0<D)(e:A*2^ks=Q*(o_a dh*4294967296+o_a dl)+(o_a (F (k+1))*4294967296+o_a (F (k+2))))(l:o_a (F (k+1))*4294967296+o_a (F (k+2))<o_a dh*4294967296+o_a dl)(ed:o_a dh*4294967296+o_a dl=D*2^ks)
  (N:o_a4 oo lr (k+2) F2) (hF: ∀i,i<k+2→F2 i=o_ad ((32:Int32)-sh) F i):Q=A/D∧(lr=0↔A%D=0):=by
 have p:=(o_ap hk).1
 have u1:=o_m (F (k+1));have u2:=o_m (F (k+2))
 rw[ed] at e l
 obtain ⟨d1,d2,d3⟩:=o_h7 (show (0:Int)<2^ks by omega) hD e (by omega) l
 refine ⟨d1,?_⟩
 rw[o_h9 N,←d2,←o_h8 hs h1 hk hz d3]
 constructor
 ·intro q i hi;rw[←hF i hi];exact q i hi
 ·intro q i hi;rw[hF i hi];exact q i hi
theorem o_id {sh:Int32}{F:Nat→Int32}{k:Nat}{y:Int32}: ∀i,i<k+2→o_T (o_aI ((32:Int32)-sh) F (k+3-1)) (k+3-1) y i=o_ad ((32:Int32)-sh) F i:=fun i hi=>by
 rw[o_bI (by omega),o_hO (by omega)]
theorem o_e_ (f:Nat→Int32): ∀n,o_n (o_bd f) (n+1)=o_n f n
 |0=>rfl
 |n+1=>by
  show o_n (o_bd f) (n+1)*4294967296+o_a (o_bd f (n+1))=_
  rw[o_e_ f n,o_e9];rfl
variable {p:Program}{l:Launch}{e':Env}{R:Room}{s:State}{m:MethodId}{args:Array Value}{below:List Frame}{meth:Method}{cd:Code}{T:State}{locs:List Loc}{cells slots:Nat}{Fn:Outcome→State→Prop}{pc:Nat}{st:List Value}{b c:Slot}{v:Int64}{a:Addr}
theorem o_ie (q k:Nat){L:Array Slot}(L':Array Slot)(X:Stand p l e' R s m args below meth cd T locs cells slots)(hx:p.tables.exec=Jvm.exec)(hd:decode cd.code pc= .ok (.astore k,2))(hb:L[k]? =some b)(hc:o_9 b)(hl:L.setIfInBounds k (.val (.ref a))=L')(hq:pc+2=q)(w:o_f p e' below Fn T (mkF m q L' st)):o_f p e' below Fn T (mkF m pc L (.ref a::st)):=by
 refine o_gs q L' X hx hd rfl ?_ hq w
 rw[←hl]
 refine storeLocals_cat1 hb rfl ?_
 cases b with
 |unset=>trivial
 |second=>cases hc.1
 |val w=>have q:=hc.2;cases w<;>first|rfl|cases q
theorem o_if (q k:Nat){L:Array Slot}(L':Array Slot)(X:Stand p l e' R s m args below meth cd T locs cells slots)(hx:p.tables.exec=Jvm.exec)(hd:decode cd.code pc= .ok (.lstore k,2))(hb:L[k]? =some b)(hc:L[k+1]? =some c)(h1:o_9 b)(h2:o_9 c)(hl:(L.setIfInBounds k (.val (.long v))).setIfInBounds (k+1) .second=L')(hq:pc+2=q)(w:o_f p e' below Fn T (mkF m q L' st)):o_f p e' below Fn T (mkF m pc L (.long v::st)):=by
 refine o_aO q L' X hx hd ?_ hq w
 rw[o_bu hb hc h1.1 (h2.1.trans h1.2.symm) (fun q=>by rw[h2.2] at q;cases q),h2.2,←hl];rfl
theorem o_ig {f:Nat→Int32}(h:0<o_a (f 0)):0<o_n f 2:=by
 show 0<(0*4294967296+o_a (f 0))*4294967296+o_a (f 1)
 have:=o_m (f 1);omega
theorem o_ih {fa ft:Nat→Int32}{n:Nat}{s2 sh:Int32}(h:s2<sh)(h1:o_aR (o_a (fa 0)) s2)(h2:o_aR (o_a (ft 0)) sh)(ha:0<o_a (fa 0))(ht:0<o_a (ft 0))(hle:o_n fa n≤4503599627370496*o_n ft 2)(hn:n≤4):n≤3:=by
 have l:=o_h2 h1 h2 ha ht h
 rcases Nat.lt_or_ge n 4 with q|q
 ·omega
 ·have:n=4:=by omega
  subst this
  have e:o_n fa 4=(((0*4294967296+o_a (fa 0))*4294967296+o_a (fa 1))*4294967296+o_a (fa 2))*4294967296+o_a (fa 3):=rfl
  have e':o_n ft 2=(0*4294967296+o_a (ft 0))*4294967296+o_a (ft 1):=rfl
  have a1:=o_m (fa 1);have a2:=o_m (fa 2);have a3:=o_m (fa 3);have b1:=o_m (ft 1)
  rw[e,e'] at hle;omega
theorem o_ii {qa qx w:Addr}{S:Nat}(h:qa=w∨S≤qa):qa∈ [qx,w]∨S≤qa:=h.imp (fun q=>by rw[q];simp) id
theorem o_e' {P:Nat→Prop}(a:P 0): ∀i,i≤0→P i:=fun i h=>by
 have:i=0:=by omega
 subst this;exact a
theorem o_fa {P:Nat→Prop}(a:P 0)(b:P 1): ∀i,i≤1→P i:=fun i h=>by
 rcases Nat.lt_or_ge i 1 with q|q
 ·exact o_e' a i (by omega)
 ·have:i=1:=by omega
  subst this;exact b
theorem o_ij {P:Nat→Prop}(a:P 0)(b:P 1)(c:P 2): ∀i,i≤2→P i:=fun i h=>by
 rcases Nat.lt_or_ge i 2 with q|q
 ·exact o_fa a b i (by omega)
 ·have:i=2:=by omega
  subst this;exact c
end OwnDm
section OwnDo
def o_cU (a b:Slot):Prop:=o_0 a=false∧o_0 b=o_L a∧o_L b=false
variable {p:Program}{l:Launch}{e':Env}{R:Room}{s:State}{m:MethodId}{args:Array Value}{below:List Frame}{meth:Method}{cd:Code}{T:State}{locs:List Loc}{cells slots:Nat}{Fn:Outcome→State→Prop}{pc:Nat}{st:List Value}{b c:Slot}{v:Int64}
theorem o_fb (q k:Nat){L:Array Slot}(L':Array Slot)(X:Stand p l e' R s m args below meth cd T locs cells slots)(hx:p.tables.exec=Jvm.exec)(hd:decode cd.code pc= .ok (.lstore k,2))(hb:L[k]? =some b)(hc:L[k+1]? =some c)(h:o_cU b c)(hl:(L.setIfInBounds k (.val (.long v))).setIfInBounds (k+1) .second=L')(hq:pc+2=q)(w:o_f p e' below Fn T (mkF m q L' st)):o_f p e' below Fn T (mkF m pc L (.long v::st)):=by
 refine o_aO q L' X hx hd ?_ hq w
 rw[o_bu hb hc h.1 h.2.1 (fun q=>by rw[h.2.2] at q;cases q),h.2.2,←hl];rfl
variable {nC dl:Int64}{U d:Int}
theorem o_dM (hU:o_s nC=U)(hl:dl.toInt=d)(hd:0<d)(hd':d<4294967296)(hlt:U<d*4294967296)(hp: ¬lcmpW nC (0:Int64)<0):o_a (nC/dl).toInt32=U/d∧o_a (nC-((nC/dl).toInt32.toInt64*dl)).toInt32=U%d:=by
 have p:=o_a9 hp
 have o:(0:Int64).toInt=0:=rfl
 have rn:=rng64 nC
 have eU:nC.toInt=U:=by rw[←hU];unfold o_s;omega
 have dv:=(c_ldiv nC dl d hl (fun q=>by rw[q] at hl;have:(-1:Int64).toInt= -1:=rfl;omega)).1 (by omega)
 rw[eU] at dv
 have lt:=o_eM hd hlt
 have ge:0≤U/d:=Int.ediv_nonneg (by omega) (by omega)
 have hq:o_a (nC/dl).toInt32=U/d:=by rw[o_ae,dv];omega
 refine ⟨hq,?_⟩
 have e:=Int.mul_ediv_add_emod U d
 have lt':=Int.emod_lt_of_pos U hd
 have w:=Int.emod_nonneg U (show d≠0 by omega)
 rw[o_ae]
 have s:=c_lsub nC ((nC/dl).toInt32.toInt64*dl)
 have mu:=c_lmul (nC/dl).toInt32.toInt64 dl
 rw[hl,c_i2l] at mu
 have z: ∃t:Int,(nC/dl).toInt32.toInt=U/d+t*4294967296:=by
  refine ⟨((nC/dl).toInt32.toInt-U/d)/4294967296,?_⟩
  unfold o_a at hq;omega
 obtain ⟨t,ht⟩:=z
 have ex:(nC/dl).toInt32.toInt*d=d*(U/d)+(t*d)*4294967296:=by rw[ht];grind
 rw[ex] at mu
 rw[eU] at s
 generalize d*(U/d)=P at*
 generalize U%d=Rm at*
 generalize t*d=Y at*
 generalize (nC-((nC/dl).toInt32.toInt64*dl)).toInt=S at*
 generalize ((nC/dl).toInt32.toInt64*dl).toInt=M at*
 omega
def o_bS (U d q r:Int):Prop:=U=q*d+r∧0≤r∧r<d
theorem o_cV {q r:Int}(hd:0<d)(h1:q=U/d)(h2:r=U%d):o_bS U d q r:=by
 have e:=Int.mul_ediv_add_emod U d
 refine ⟨?_,?_,?_⟩
 ·rw[h1,h2,Int.mul_comm];omega
 ·rw[h2];exact Int.emod_nonneg U (by omega)
 ·rw[h2];exact Int.emod_lt_of_pos U hd
theorem o_ik {A B d q r a q' r':Int}(h:A=q*d+r)(h':o_bS (r*4294967296+a) d q' r'):A*4294967296+a=(q*4294967296+q')*d+r':=by
 have e:(q*4294967296+q')*d=q*d*4294967296+q'*d:=by grind
 rw[e];have:=h'.1;omega
variable {t rw_ ai:Int32}
theorem o_il {n:Int64}(hn:lcmpW n (0:Int64)<0)(h:o_s n<o_a t*4294967296):2147483648≤o_a t:=by
 have l:=o_aJ hn
 have o:(0:Int64).toInt=0:=rfl
 have r:=rng64 n
 unfold o_s at h;omega
theorem o_im (h:o_a rw_<o_a t):o_s (((rw_.toInt64&&&(4294967295:Int64))<<<((32:Int32)&&&0x3f).toInt64)|||(ai.toInt64&&&(4294967295:Int64)))<o_a t*4294967296:=by
 rw[o_bH];have:=o_m ai;omega
theorem o_fc {x:Int64}(h:0≤x.toInt∧x.toInt<4294967296):o_s x=x.toInt:=by unfold o_s;omega
theorem o_in {sh:Int32}(hn:o_aR (o_a t) sh)(h0:0<o_a t)(hp:0<sh)(hr:o_a rw_<o_a t):rw_%t=rw_:=by
 obtain ⟨k,e,q⟩:=hn
 have k1:1≤k:=by rw[Int32.lt_iff_toInt_lt] at hp;have o:(0:Int32).toInt=0:=rfl;omega
 have ut:o_a t<2147483648:=by
  rcases q with ⟨q,-⟩|⟨q1,q2,q3⟩
  ·omega
  ·have:(2:Int)≤2^k:=by
    have:=Nat.pow_le_pow_right (show 0<2 by omega) k1
    have a:=o_aP k;omega
   have:=Int.mul_le_mul_of_nonneg_left this (show 0≤o_a t by omega)
   omega
 have r1:=rng32 t;have r2:=rng32 rw_;have u1:=o_m rw_
 have et:t.toInt=o_a t:=by unfold o_a at ut⊢;omega
 have er:rw_.toInt=o_a rw_:=by unfold o_a at hr u1 ut⊢;omega
 have c:=(c_irem rw_ t (o_a t) et).1 (by omega)
 rw[←Int32.toInt_inj,c,er];exact Int.emod_eq_of_lt u1.1 hr
theorem o_fd {A D Q:Int}{rw_:Int32}(hD:0<D)(e:A=Q*D+o_a rw_)(h:o_a rw_<D):Q=A/D∧(rw_=0↔A%D=0):=by
 have u:=o_m rw_
 have a:A=o_a rw_+D*Q:=by rw[e,Int.mul_comm];omega
 have d1:A/D=Q:=by rw[a,Int.add_mul_ediv_left _ _ (by omega),Int.ediv_eq_zero_of_lt u.1 h];omega
 have d2:A%D=o_a rw_:=by rw[a,Int.add_mul_emod_self_left,Int.emod_eq_of_lt u.1 h]
 refine ⟨d1.symm,?_⟩
 rw[d2]
 exact ⟨o_bE,o_cA⟩
theorem o_fe {q:Int32}(h: ¬q=0):o_a4 0 1 1 (o_T (fun _=>0) 0 q):=⟨0,by omega,fun i r=>absurd r (by omega),fun _=>h,rfl,fun _=>rfl,fun r=>absurd r (by omega)⟩
theorem o_io {U d q:Int}{qd:Int32}(hd:0<d)(h:o_a qd=U/d)(hl:d≤U): ¬qd=0:=fun r=>by
 rw[r] at h
 have:1≤U/d:=by
  have:=Int.ediv_le_ediv hd hl
  rw[Int.ediv_self (by omega)] at this;exact this
 have z:o_a (0:Int32)=0:=rfl
 omega
theorem o_ff {x:Int64}{y:Int32}(h:x.toInt=o_a y): ¬lcmpW x (0:Int64)<0:=fun q=>by
 have l:=o_aJ q;have o:(0:Int64).toInt=0:=rfl;have:=o_m y;omega
theorem o_ip {a b:Int32}{i j:Nat}(ha:a.toInt=i)(hb:b.toInt=j)(h:i≠j): ¬a=b:=fun q=>by rw[q] at ha;omega
theorem o_iq {a:Int32}{i:Nat}(ha:a.toInt=i)(h:i≤0): ¬(0:Int32)<a:=fun q=>by rw[Int32.lt_iff_toInt_lt] at q;have o:(0:Int32).toInt=0:=rfl;omega
theorem o_ir {r:Int64}{V:Int}(h:o_a r.toInt32=V):o_a (r&&&(4294967295:Int64)).toInt32=V:=by rw[←h,o_ae,o_ae,o_cs];omega
theorem o_is {r:Int64}{V:Int}(h:o_s r/4294967296=V):o_a ((r.toUInt64>>>((32:Int32)&&&0x3f).toInt64.toUInt64).toInt64).toInt32=V:=by
 rw[←h,o_ae,o_bg];have:=o_b8 r;unfold o_s at*;omega
theorem o_fg (G:Nat→Int32)(x:Int32): ∀i k,i≤k→o_n (o_T G k x) i=o_n G i
 |0,_,_=>rfl
 |i+1,k,h=>by
  show o_n (o_T G k x) i*4294967296+o_a (o_T G k x i)=o_n G i*4294967296+o_a (G i)
  rw[o_fg G x i k (by omega),o_bI (by omega)]
theorem o_it {fa G:Nat→Int32}{i:Nat}{t qd rn:Int32}{r:Int}(h:o_n fa i=o_n G i*o_a t+r)(D:o_bS (r*4294967296+o_a (fa i)) (o_a t) (o_a qd) (o_a rn)):o_n fa (i+1)=o_n (o_T G i qd) (i+1)*o_a t+o_a rn:=by
 show o_n fa i*4294967296+o_a (fa i)=(o_n (o_T G i qd) i*4294967296+o_a (o_T G i qd i))*o_a t+o_a rn
 rw[o_fg G qd i i (Nat.le_refl _),o_eZ]
 exact o_ik (B:=0) h D
theorem o_iu {fa:Nat→Int32}{t q0 w:Int32}(D:o_bS (o_a (fa 0)) (o_a t) (o_a q0) (o_a w)):o_n fa 1=o_n (o_T (fun _=>0) 0 q0) 1*o_a t+o_a w:=by
 show 0*4294967296+o_a (fa 0)=(0*4294967296+o_a q0)*o_a t+o_a w
 rw[Int.zero_mul,Int.zero_add,Int.zero_add];exact D.1
end OwnDo
section OwnDk
theorem o_a6 (f:Nat→Int32):o_n f 1=o_a (f 0):=by show 0*4294967296+o_a (f 0)=_;omega
theorem o_bv (f:Nat→Int32):o_n f 2=o_a (f 0)*4294967296+o_a (f 1):=by show (0*4294967296+o_a (f 0))*4294967296+o_a (f 1)=_;omega
theorem o_b' {f:Nat→Int32}: ∀{n:Nat},1≤n→0<o_a (f 0)→0<o_n f n
 |0,h,_=>absurd h (by omega)
 |1,_,h0=>by rw[o_a6];exact h0
 |n+2,_,h0=>by
  have:=o_b' (n:=n+1) (by omega) h0
  have u:=o_m (f (n+1))
  show 0<o_n f (n+1)*4294967296+o_a (f (n+1));omega
theorem o_a7 {a b:Int32}{n:Nat}(h:a.toInt=n)(hb:b.toInt=n):a=b:=by rw[←Int32.toInt_inj];omega
variable {A D:Int}{r:Int32}
theorem o_iv (h:o_bs A D r)(hr:r<0):A<D:=by
 rcases h with ⟨-,h⟩|⟨rfl,-⟩|⟨rfl,-⟩
 ·exact h
 ·exact absurd hr (by decide)
 ·exact absurd hr (by decide)
theorem o_iw (h:o_bs A D r)(hr:r=0):A=D:=by
 rcases h with ⟨rfl,h⟩|⟨-,h⟩|⟨rfl,h⟩
 ·exact absurd hr (by decide)
 ·exact h
 ·exact absurd hr (by decide)
theorem o_ix (h:o_bs A D r)(h1: ¬r<0)(h2: ¬r=0):D<A:=by
 rcases h with ⟨rfl,h⟩|⟨rfl,h⟩|⟨-,h⟩
 ·exact absurd (by decide) h1
 ·exact absurd rfl h2
 ·exact h
theorem o_ca:o_a4 0 0 1 (fun _=>0):=⟨1,by omega,fun _ _=>rfl,fun r=>absurd r (by omega),rfl,fun r=>absurd r (by omega),fun _=>rfl⟩
theorem o_dN {x:Int32}(h: ¬x=0):o_a4 0 1 1 (o_bb [x]):=⟨0,by omega,fun i q=>absurd q (by omega),fun _=>h,rfl,fun _=>rfl,fun q=>absurd q (by omega)⟩
theorem o_iy {x y:Int32}(h: ¬x=0):o_a4 0 2 2 (o_bb [x,y]):=⟨0,by omega,fun i q=>absurd q (by omega),fun _=>h,rfl,fun _=>rfl,fun q=>absurd q (by omega)⟩
theorem o_fh (hA:0<A)(h:A<D):o_n (fun _=>0) 1=A/D:=by
 rw[Int.ediv_eq_zero_of_lt (by omega) h];rfl
theorem o_fi {l:Int32}(hA:0<A)(h:A<D)(hl: ¬l=0):l=0↔A%D=0:=by
 rw[Int.emod_eq_of_lt (by omega) h];exact ⟨fun q=>absurd q hl,fun q=>by omega⟩
theorem o_iz (hD:0<D)(h:A=D):o_n (o_T (fun _=>0) 0 1) 1=A/D:=by
 rw[h,Int.ediv_self (by omega)];rfl
theorem o_iA (h:A=D):(0:Int32)=0↔A%D=0:=by rw[h,Int.emod_self];exact ⟨fun _=>rfl,fun _=>rfl⟩
theorem o_dO (h:A%D=0):(0:Int32)=0↔A%D=0:=⟨fun _=>h,fun _=>rfl⟩
theorem o_dP (h: ¬A%D=0):(1:Int32)=0↔A%D=0:=⟨fun q=>absurd q (by decide),fun q=>absurd q h⟩
variable {fa ft:Nat→Int32}{n nd:Nat}
theorem o_iB (h1:1≤n)(h:o_n ft 2<o_n fa n)(ha:0<o_a (fa 0))(ht:0<o_a (ft 0)):2≤n:=by
 rcases Nat.lt_or_ge n 2 with q|q
 ·have:n=1:=by omega
  subst this;rw[o_a6,o_bv] at h
  have:=o_m (fa 0);have:=o_m (ft 1);omega
 ·exact q
theorem o_iC (h1:1≤n)(h:n<nd)(hd:nd≤2)(ht:0<o_a (ft 0)):o_n fa n<o_n ft nd:=by
 have e:n=1:=by omega
 have e':nd=2:=by omega
 subst e e';rw[o_a6,o_bv]
 have:=o_m (fa 0);have:=o_m (ft 1);omega
theorem o_fj (f:Nat→Int32): ∀n,0≤o_n f n
 |0=>Int.le_refl 0
 |n+1=>by
  have:=o_fj f n;have u:=o_m (f n)
  show 0≤o_n f n*4294967296+o_a (f n);omega
theorem o_fk (f:Nat→Int32): ∀n k:Nat,0<o_a (f 0)→1≤n→n≤k→o_n f n*4294967296≤o_n f (k+1):=fun n k h0 h1 hk=>by
 induction k with
 |zero=>omega
 |succ k ih=>
  show _≤o_n f (k+1)*4294967296+o_a (f (k+1))
  have u:=o_m (f (k+1))
  rcases Nat.lt_or_ge k n with q|q
  ·have:n=k+1:=by omega
   subst this;omega
  ·have:=ih q
   have z:=o_fj f n
   omega
theorem o_iD (h1:1≤nd)(h:nd<n)(h4:n≤4)(hd:nd≤2)(ha:0<o_a (fa 0)):o_n ft nd<o_n fa n:=by
 obtain ⟨k,rfl⟩: ∃k,n=k+1:=⟨n-1,by omega⟩
 have b:=o_fk fa nd k ha h1 (by omega)
 have p:=o_b' (f:=fa) h1 ha
 rcases (show nd=1∨nd=2 by omega) with rfl|rfl
 ·rw[o_a6] at b p⊢;have:=o_m (ft 0);omega
 ·rw[o_bv] at b⊢;have:=o_m (ft 0);have:=o_m (ft 1);have:=o_m (fa 1);omega
end OwnDk
section OwnQb
theorem o_dQ {G:Nat→Int32}{z:Nat}(h: ∀i,i<z→G i=0): ∀m,o_n G (z+m)=o_n (fun i=>G (z+i)) m
 |0=>by
  show o_n G z=0
  have: ∀k,k≤z→o_n G k=0:=fun k=>by
   induction k with
   |zero=>intro _;rfl
   |succ k ih=>
    intro hk
    show o_n G k*4294967296+o_a (G k)=0
    rw[ih (by omega),h k (by omega)];rfl
  exact this z (Nat.le_refl _)
 |m+1=>by
  show o_n G (z+m)*4294967296+o_a (G (z+m))=o_n (fun i=>G (z+i)) m*4294967296+o_a (G (z+m))
  rw[o_dQ h m]
variable {Z:State}{h h':Heap}{x b:Addr}{V:Int}
def o_at (Z:State)(h:Heap)(x b:Addr)(V:Int):Prop:=Exa Z h x "java/math/BigInteger"∧((V=0∧b=x∧Fld Z h x "java/math/BigInteger" "signum" "I" (.int (0:Int32)))∨ ∃(k:ClassId) (z:Int32) (g:Nat→Int32) (n:Nat),Fld Z h x "java/math/BigInteger" "signum" "I" (.int (1:Int32))∧Fld Z h x "java/math/BigInteger" "mag" "[I" (.ref b)∧o_x Z h b k z g∧Exa Z h b "[I"∧z.toInt=n∧1≤n∧n≤8∧0<o_a (g 0)∧o_n g n=V)
theorem o_at.lt (S:o_at Z h x b V):x<h.size:=S.1.lt
theorem o_at.ltT (S:o_at Z h x b V):b<h.size:=by
 rcases S.2 with ⟨-,e,-⟩|⟨k,z,g,n,-,-,F,-⟩
 ·rw[e];exact S.1.lt
 ·exact Arv.lt F
theorem o_at.ext (S:o_at Z h x b V)(E:Ext h h'):o_at Z h' x b V:=⟨S.1.ext E,S.2.imp (fun q=>⟨q.1,q.2.1,q.2.2.ext E⟩) (fun ⟨k,z,g,n,a1,a2,a3,a4,r⟩=>⟨k,z,g,n,a1.ext E,a2.ext E,Arv.ext a3 E,a4.ext E,r⟩)⟩
theorem o_at.wr {a:Addr}{sl:Nat}{v:Value}(S:o_at Z h x b V)(W:Wr h h' a sl v)(n1:x≠a)(n2:b≠a):o_at Z h' x b V:=⟨S.1.wr W,S.2.imp (fun q=>⟨q.1,q.2.1,q.2.2.other W (Or.inl n1)⟩) (fun ⟨k,z,g,n,a1,a2,a3,a4,r⟩=>⟨k,z,g,n,a1.other W (Or.inl n1),a2.other W (Or.inl n1),Arv.other a3 W n2,a4.wr W,r⟩)⟩
theorem o_at.keep {us:List Addr}(S:o_at Z h x b V)(K:Keep h h' us)(n1:x∉us)(n2:b∉us):o_at Z h' x b V:=⟨S.1.keep K,S.2.imp (fun q=>⟨q.1,q.2.1,q.2.2.keep K n1⟩) (fun ⟨k,z,g,n,a1,a2,a3,a4,r⟩=>⟨k,z,g,n,a1.keep K n1,a2.keep K n1,Arv.keep a3 K n2,a4.keep K,r⟩)⟩
theorem o_fl {q z:Addr}{S n:Nat}(h:q=z∨S≤q)(hz:n≤z)(hS:n≤S):n≤q:=by
 rcases h with h|h
 ·rw[h];exact hz
 ·omega
theorem o_iE {oo lr:Int32}{il:Nat}{g:Nat→Int32}(H:o_a4 oo lr il g)(h0:lr=0):o_n g il=0:=by
 obtain ⟨z,h1,h2,-,h4,-,-⟩:=H
 rw[h0] at h4
 have o:(0:Int32).toInt=0:=rfl
 have e:z=il:=by omega
 subst e
 exact o_dQ h2 0
theorem o_fm {x:Int32}{sm:Int64}(h:((x.toInt64&&&(4294967295:Int64))+((1:Int32).toInt64&&&(4294967295:Int64)))=sm):sm.toInt=o_a x+1:=by
 have a:=c_ladd (x.toInt64&&&(4294967295:Int64)) ((1:Int32).toInt64&&&(4294967295:Int64))
 rw[o_2,o_2,h] at a
 have o:o_a (1:Int32)=1:=rfl
 have r:=o_m x;have r':=rng64 sm
 omega
theorem o_fn {sm:Int64}{V:Int}(h:sm.toInt=V)(hc:lcmpW ((sm.toUInt64>>>((32:Int32)&&&0x3f).toInt64.toUInt64).toInt64) (0:Int64)=0):o_a sm.toInt32=V:=by
 have e:=o_bo hc
 rw[o_bg] at e
 have o:(0:Int64).toInt=0:=rfl
 rw[o_ae];have r:=rng64 sm;omega
theorem o_fo {sm:Int64}{x:Int32}(h:sm.toInt=o_a x+1)(hc: ¬lcmpW ((sm.toUInt64>>>((32:Int32)&&&0x3f).toInt64.toUInt64).toInt64) (0:Int64)=0):o_a x=4294967295∧o_a sm.toInt32=0:=by
 have e:=o_cq hc
 rw[o_bg] at e
 have o:(0:Int64).toInt=0:=rfl
 rw[o_ae];have r:=rng64 sm;have u:=o_m x;omega
theorem o_fp {w0 w1:Int32}(h:o_a w0*4294967296+o_a w1<9007199254740992): ¬(w0+(1:Int32))=0:=fun q=>by
 have e:=o_cM w0 1;rw[q] at e
 have z:o_a (0:Int32)=0:=rfl
 have o:o_a (1:Int32)=1:=rfl
 have u:=o_m w0;have u1:=o_m w1;omega
theorem o_iF {w0 w1 y:Int32}(h:o_a w0*4294967296+o_a w1<9007199254740992)(hc:o_a w1=4294967295∧o_a y=0):o_a w0*4294967296+o_a w1+1=o_a (w0+(1:Int32))*4294967296+o_a y:=by
 have e:=o_cM w0 1
 have o:o_a (1:Int32)=1:=rfl
 have u:=o_m w0;omega
theorem o_iG {w0 y:Int32}(hc:o_a w0=4294967295∧o_a y=0):o_a w0+1=o_a (1:Int32)*4294967296+o_a y:=by
 have o:o_a (1:Int32)=1:=rfl
 omega
variable {w0 w1 y0 y1:Int32}
theorem o_iH (h: ¬y0=0):o_a w0<o_a y0*4294967296+o_a y1:=by
 have a:=o_a_ h;have b:=o_m w0;have c:=o_m y1;omega
theorem o_fq {x y:Int32}(h: ¬x=y):o_a x≠o_a y:=fun q=>h (by
 rw[←Int32.toInt_inj];have r:=rng32 x;have r':=rng32 y;unfold o_a at q;omega)
theorem o_iI (h:lcmpW (w0.toInt64&&&(4294967295:Int64)) (y0.toInt64&&&(4294967295:Int64))<0):o_a w0*4294967296+o_a w1<o_a y0*4294967296+o_a y1:=by
 have l:=o_aJ h;rw[o_2,o_2] at l;exact o_cH l
theorem o_iJ (e: ¬w0=y0)(h: ¬lcmpW (w0.toInt64&&&(4294967295:Int64)) (y0.toInt64&&&(4294967295:Int64))<0):o_a y0*4294967296+o_a y1<o_a w0*4294967296+o_a w1:=by
 have l:=o_a9 h;rw[o_2,o_2] at l;have n:=o_fq e;exact o_cH (by omega)
theorem o_iK (e:w0=y0)(h:lcmpW (w1.toInt64&&&(4294967295:Int64)) (y1.toInt64&&&(4294967295:Int64))<0):o_a w0*4294967296+o_a w1<o_a y0*4294967296+o_a y1:=by
 have l:=o_aJ h;rw[o_2,o_2] at l;rw[e];omega
theorem o_iL (e:w0=y0)(e1: ¬w1=y1)(h: ¬lcmpW (w1.toInt64&&&(4294967295:Int64)) (y1.toInt64&&&(4294967295:Int64))<0):o_a y0*4294967296+o_a y1<o_a w0*4294967296+o_a w1:=by
 have l:=o_a9 h;rw[o_2,o_2] at l;have n:=o_fq e1;rw[e];omega
end OwnQb
section OwnRf
variable {Z:State}{h h':Heap}{x a:Addr}{k:ClassId}{V:Int}{N:Nat}
theorem o_av.lt (S:o_av Z h x a k V):x<h.size:=by rcases S with ⟨_,B,-⟩|⟨_,_,B,-⟩<;>exact B.lt
theorem o_av.ltT (S:o_av Z h x a k V):a<h.size:=by rcases S with ⟨_,B,-⟩|⟨_,_,B,-⟩<;>exact B.ltT
theorem o_av.ext (S:o_av Z h x a k V)(E:Ext h h'):o_av Z h' x a k V:=S.imp (fun ⟨w,B,r⟩=>⟨w,B.ext E,r⟩) (fun ⟨w,u,B,r⟩=>⟨w,u,B.ext E,r⟩)
theorem o_av.keep {us:List Addr}(S:o_av Z h x a k V)(K:Keep h h' us)(n1:x∉us)(n2:a∉us):o_av Z h' x a k V:=S.imp (fun ⟨w,B,r⟩=>⟨w,B.keep K n1 n2,r⟩) (fun ⟨w,u,B,r⟩=>⟨w,u,B.keep K n1 n2,r⟩)
def o_aj (Z:State)(h:Heap)(x a:Addr)(k:ClassId)(V:Int)(N:Nat):Prop:= ∃(z:Int32) (g:Nat→Int32) (n:Nat),Exa Z h x "java/math/BigInteger"∧Fld Z h x "java/math/BigInteger" "signum" "I" (.int (1:Int32))∧Fld Z h x "java/math/BigInteger" "mag" "[I" (.ref a)∧o_x Z h a k z g∧Exa Z h a "[I"∧z.toInt=n∧1≤n∧n≤N∧0<o_a (g 0)∧o_n g n=V
theorem o_aj.lt (S:o_aj Z h x a k V N):x<h.size:=by obtain ⟨z,g,n,E,-⟩:=S;exact E.lt
theorem o_aj.ltT (S:o_aj Z h x a k V N):a<h.size:=by obtain ⟨z,g,n,-,-,-,F,-⟩:=S;exact Arv.lt F
theorem o_aj.ext (S:o_aj Z h x a k V N)(E:Ext h h'):o_aj Z h' x a k V N:=by
 obtain ⟨z,g,n,a1,a2,a3,a4,a5,r⟩:=S;exact ⟨z,g,n,a1.ext E,a2.ext E,a3.ext E,Arv.ext a4 E,a5.ext E,r⟩
theorem o_aj.keep {us:List Addr}(S:o_aj Z h x a k V N)(K:Keep h h' us)(n1:x∉us)(n2:a∉us):o_aj Z h' x a k V N:=by
 obtain ⟨z,g,n,a1,a2,a3,a4,a5,r⟩:=S;exact ⟨z,g,n,a1.keep K,a2.keep K n1,a3.keep K n1,Arv.keep a4 K n2,a5.keep K,r⟩
theorem o_cb (S:o_bM Z h x a k V)(hN:1≤N):o_aj Z h x a k V N:=by
 obtain ⟨w0,⟨a1,a2,a3,a4,a5⟩,h0,e⟩:=S
 exact ⟨1,o_bb [w0],1,a1,a2,a3,a4,a5,rfl,by omega,hN,o_a_ h0,by rw[e];show 0*4294967296+o_a w0=_;omega⟩
theorem o_bT (S:o_aY Z h x a k V)(hN:2≤N):o_aj Z h x a k V N:=by
 obtain ⟨w0,w1,⟨a1,a2,a3,a4,a5⟩,h0,e⟩:=S
 exact ⟨2,o_bb [w0,w1],2,a1,a2,a3,a4,a5,rfl,by omega,hN,o_a_ h0,by rw[e];show (0*4294967296+o_a w0)*4294967296+o_a w1=_;omega⟩
theorem o_dR (S:o_bq Z h x a k V)(hN:3≤N):o_aj Z h x a k V N:=by
 obtain ⟨w0,w1,w2,⟨a1,a2,a3,a4,a5⟩,h0,e⟩:=S
 exact ⟨3,o_bb [w0,w1,w2],3,a1,a2,a3,a4,a5,rfl,by omega,hN,o_a_ h0,by rw[e];show ((0*4294967296+o_a w0)*4294967296+o_a w1)*4294967296+o_a w2=_;omega⟩
theorem o_iM (S:o_dz Z h x a k V)(hN:4≤N):o_aj Z h x a k V N:=by
 obtain ⟨w0,w1,w2,w3,⟨a1,a2,a3,a4,a5⟩,h0,e⟩:=S
 exact ⟨4,o_bb [w0,w1,w2,w3],4,a1,a2,a3,a4,a5,rfl,by omega,hN,o_a_ h0,by rw[e];show (((0*4294967296+o_a w0)*4294967296+o_a w1)*4294967296+o_a w2)*4294967296+o_a w3=_;omega⟩
theorem o_iN (S:o_av Z h x a k V):o_aj Z h x a k V 2:=by
 rcases S with S|S
 ·exact o_cb S (by omega)
 ·exact o_bT S (by omega)
end OwnRf
section OwnRf2
variable {Z:State}{h h':Heap}{x a b:Addr}{k:ClassId}{V:Int}{N:Nat}
theorem o_a8 {l:Launch}{y:MethodName}{cs:List Jvm.Cond}{R:Room}{A:Array Value}{h0:Heap}{Q Q':Option Value→Heap→List Loc→Prop}(h:o_q l y cs R A Z h0 Q)(i: ∀v h L,Q v h L→Q' v h L):o_q l y cs R A Z h0 Q':=by
 intro p e ha hc hk s m args below hf happ hP hK
 obtain ⟨n,o,h1,h2,h3,v,L,rfl,hQ,hF⟩:=h p e ha hc hk s m args below hf happ hP hK
 exact ⟨n,_,h1,h2,h3,v,L,rfl,i _ _ _ hQ,hF⟩
theorem o_av.exa (S:o_av Z h x a k V):Exa Z h x "java/math/BigInteger":=by rcases S with ⟨_,B,-⟩|⟨_,_,B,-⟩<;>exact B.1
theorem o_av.fs (S:o_av Z h x a k V):Fld Z h x "java/math/BigInteger" "signum" "I" (.int (1:Int32)):=by rcases S with ⟨_,B,-⟩|⟨_,_,B,-⟩<;>exact B.2.1
theorem o_fr (S:o_aj Z h x a k V 2):o_av Z h x a k V:=by
 obtain ⟨z,g,n,a1,a2,a3,a4,a5,hz,h1,h2,h0,e⟩:=S
 rcases (show n=1∨n=2 by omega) with rfl|rfl
 ·obtain rfl:=o_a7 (b:=1) hz rfl
  exact Or.inl ⟨g 0,⟨a1,a2,a3,a4,a5⟩,o_aQ h0,by rw[←e,o_a6]⟩
 ·obtain rfl:=o_a7 (b:=2) hz rfl
  exact Or.inr ⟨g 0,g 1,⟨a1,a2,a3,a4,a5⟩,o_aQ h0,by rw[←e,o_bv]⟩
theorem o_fs (S:o_at Z h x b V)(h0:0<V)(hb:V<9007199254740992): ∃k,o_aj Z h x b k V 2:=by
 obtain ⟨E,S⟩:=S
 rcases S with ⟨e,-⟩|⟨k,z,g,n,a1,a2,a3,a4,hz,h1,h8,hg,e⟩
 ·omega
 ·refine ⟨k,z,g,n,E,a1,a2,a3,a4,hz,h1,?_,hg,e⟩
  rcases Nat.lt_or_ge 2 n with q|q
  ·obtain ⟨j,rfl⟩: ∃j,n=j+1:=⟨n-1,by omega⟩
   have b1:=o_fk g 2 j hg (by omega) (by omega)
   rw[e,o_bv] at b1
   have u:=o_m (g 1);omega
  ·exact q
theorem o_iO {ft:Nat→Int32}{nd:Nat}{T:Int}(hv:o_n ft nd=T)(hT:T<9007199254740992):nd=2→o_a (ft 0)<2147483648:=fun e=>by
 subst e;rw[o_bv] at hv;have:=o_m (ft 1);omega
def o_bU (A D r:Int):Prop:=(r-1)*D<A∧A≤r*D∧1≤r∧r≤4503599627370496
theorem o_iP {A D:Int}(hD:0<D)(hA:0<A)(hle:A≤4503599627370496*D)(h:A%D=0):o_bU A D (A/D):=by
 have e:=Int.mul_ediv_add_emod A D
 rw[h] at e
 have q1:0<A/D:=Classical.byContradiction fun q=>by
  have:=Int.mul_le_mul_of_nonneg_left (show A/D≤0 by omega) (show 0≤D by omega);omega
 have q2:A/D≤4503599627370496:=Classical.byContradiction fun q=>by
  have:=Int.mul_le_mul_of_nonneg_left (show 4503599627370497≤A/D by omega) (show 0≤D by omega);omega
 have x1:(A/D-1)*D=D*(A/D)-D:=by grind
 have x2:A/D*D=D*(A/D):=by grind
 unfold o_bU;rw[x1,x2];omega
theorem o_iQ {A D:Int}(hD:0<D)(hA:0<A)(hle:A≤4503599627370496*D)(h: ¬A%D=0):o_bU A D (A/D+1):=by
 have e:=Int.mul_ediv_add_emod A D
 have l:=Int.emod_lt_of_pos A hD
 have g:=Int.emod_nonneg A (show D≠0 by omega)
 have q1:0≤A/D:=Int.ediv_nonneg (by omega) (by omega)
 have q2:A/D<4503599627370496:=Classical.byContradiction fun q=>by
  have:=Int.mul_le_mul_of_nonneg_left (show 4503599627370496≤A/D by omega) (show 0≤D by omega);omega
 have x1:(A/D+1-1)*D=D*(A/D):=by grind
 have x2:(A/D+1)*D=D*(A/D)+D:=by grind
 unfold o_bU;rw[x1,x2];omega
theorem o_iR {A B:Int}{r:Int32}(h:o_bs A B r)(hl:A≤B): ¬(0:Int32)<r:=by
 rcases h with ⟨rfl,-⟩|⟨rfl,-⟩|⟨-,q⟩
 ·decide
 ·decide
 ·omega
theorem o_iS (S:o_at Z h x b V)(h0:V=0):Fld Z h x "java/math/BigInteger" "signum" "I" (.int (0:Int32)):=by
 obtain ⟨E,S⟩:=S
 rcases S with ⟨-,-,F⟩|⟨k,z,g,n,a1,a2,a3,a4,hz,h1,h8,hg,e⟩
 ·exact F
 ·have:=o_b' h1 hg;omega
theorem o_iT {p:Program}{l:Launch}{e:Env}{R:Room}{s:State}{m:MethodId}{args:Array Value}{below:List Frame}{meth:Method}{c:Code}{T:State}{locs:List Loc}{cells slots k n:Nat}(X:Stand p l e R s m args below meth c T locs cells slots)(hk:cells≤k)(hn:slots≤n):Stand p l e R s m args below meth c T locs k n:={X with same:=X.same.mono hk hn}
end OwnRf2
section OwnLw
theorem o_dS {x:Int64}{q:Int32}(h:0≤x.toInt∧x.toInt<9007199254740992):0≤((x.toUInt64>>>(q&&&0x3f).toInt64.toUInt64).toInt64).toInt∧((x.toUInt64>>>(q&&&0x3f).toInt64.toUInt64).toInt64).toInt<9007199254740992:=by
 have hk:q.toBitVec.toNat%64<64:=Nat.mod_lt _ (by omega)
 by_cases k0:0<q.toBitVec.toNat%64
 ·have c:=c_lushr x q (q.toBitVec.toNat%64) rfl k0
  have e:x.toInt%18446744073709551616=x.toInt:=by omega
  rw[e] at c
  rw[c]
  have p:(1:Int)≤((2^(q.toBitVec.toNat%64):Nat):Int):=by
   have:=Nat.one_le_two_pow (n:=q.toBitVec.toNat%64);omega
  generalize ((2^(q.toBitVec.toNat%64):Nat):Int)=P at*
  refine ⟨Int.ediv_nonneg h.1 (by omega),?_⟩
  have:=Int.ediv_le_self P h.1
  have:=Int.ediv_le_self (b:=P) h.1
  omega
 ·have z:q&&&0x3f=0:=by
   apply Int32.toBitVec_inj.mp
   apply BitVec.eq_of_toNat_eq
   show (q.toBitVec&&&(0x3f:Int32).toBitVec).toNat=0
   rw[BitVec.toNat_and]
   have:(0x3f:Int32).toBitVec.toNat=2^6-1:=rfl
   rw[this,Nat.and_two_pow_sub_one_eq_mod];omega
  rw[z]
  have e:(x.toUInt64>>>(0:Int32).toInt64.toUInt64).toInt64=x:=by
   have:(0:Int32).toInt64.toUInt64=0:=rfl
   rw[this];simp
  rw[e];exact h
theorem o_dT (x:Int64):0≤(x&&&(9007199254740991:Int64)).toInt∧(x&&&(9007199254740991:Int64)).toInt<9007199254740992:=by
 have c:=c_maskL x 9007199254740991 53 (by decide) (by decide)
 have p:((2^53:Nat):Int)=9007199254740992:=rfl
 rw[p] at c;omega
theorem o_dU {b r:Int64}(h:o_co (1:Int64) b r)(hb:0≤b.toInt∧b.toInt<9007199254740992):(0≤r.toInt∧r.toInt<9007199254740992)∧0<r.toInt:=by
 have o:(1:Int64).toInt=1:=rfl
 rcases h with ⟨rfl,q⟩|⟨rfl,q⟩<;>omega
theorem o_iU {a b x y:Int64}{r:Int32}(h:o_cr a b x y r)(hr: ¬(0:Int32)<r):a.toInt*b.toInt≤x.toInt*y.toInt:=by
 rcases h with ⟨-,q⟩|⟨-,q⟩|⟨rfl,q⟩
 ·omega
 ·omega
 ·exact absurd (by decide) hr
theorem o_iV {a b x y:Int64}{r:Int32}(h:o_cr a b x y r)(hr:a.toInt*b.toInt<x.toInt*y.toInt):r<0:=by
 rcases h with ⟨rfl,q⟩|⟨rfl,q⟩|⟨rfl,q⟩
 ·decide
 ·omega
 ·omega
theorem o_iW {a b x y:Int64}{r:Int32}(h:o_cr a b x y r)(hr:a.toInt*b.toInt≤x.toInt*y.toInt): ¬(0:Int32)<r:=by
 rcases h with ⟨rfl,q⟩|⟨rfl,q⟩|⟨rfl,q⟩
 ·decide
 ·decide
 ·omega
theorem o_iX {r:Int64}(h:1≤r.toInt): ¬lcmpW r (1:Int64)<0:=fun q=>by
 have l:=o_aJ q;have o:(1:Int64).toInt=1:=rfl;omega
theorem o_iY {r:Int64}(h:r.toInt≤4503599627370496): ¬(0:Int32)<lcmpW r (4503599627370496:Int64):=fun q=>by
 have l:=o_ds q;have o:(4503599627370496:Int64).toInt=4503599627370496:=rfl;omega
theorem o_iZ {r:Int64}(h:1≤r.toInt)(h':r.toInt≤4503599627370496):(r-(1:Int64)).toInt=r.toInt-1:=by
 have s:=c_lsub r 1;have o:(1:Int64).toInt=1:=rfl;have q:=rng64 (r-1);omega
end OwnLw
section OwnCm
variable {args:Array Value}{s:State}{t u:Term}{a x:Addr}{cl:Cell}{ty:FieldType}{k:Int32}
theorem o_ft (A:Arr s s.heap a cl ty)(et:t.eval args s none [] s=some (.ref a))(h:(Jvm.Cond.eq (Term.length t) (Term.int k)).value args s none s []=some true):cl.slots.size<2^31∧cl.slots.size.toInt32=k:=by
 obtain ⟨x,y,e1,e2,-,k2⟩:=cmp_v (Or.inl h)
 have q:y= .int k:=Option.some.inj (e2.symm.trans (Term.int_eval k))
 subst q
 obtain ⟨z,rfl⟩:=k2
 have q:=gotT (Cond.eq_ints e1 (Term.int_eval k)) h
 subst q
 have hA:s.arrayAt? a=some cl:=A.fin (Vm.Alike.refl _)
 by_cases hl:cl.slots.size<2^31
 ·exact ⟨hl,by have q:=(len_f et hA hl).symm.trans e1;injection q with q;injection q⟩
 ·simp[Term.eval,et,hA,hl] at e1
theorem o_i0 {j:Int32}(A:Arr s s.heap a cl ty)(et:t.eval args s none [] s=some (.ref a))(h:(Jvm.Cond.eq (Term.elem t (Term.int j)) (Term.int k)).value args s none s []=some true):cl.slots[j.toNatClampNeg]? =some (.int k):=by
 obtain ⟨x,y,e1,e2,-,k2⟩:=cmp_v (Or.inl h)
 have q:y= .int k:=Option.some.inj (e2.symm.trans (Term.int_eval k))
 subst q
 obtain ⟨z,rfl⟩:=k2
 have q:=gotT (Cond.eq_ints e1 (Term.int_eval k)) h
 subst q
 exact (elem_in e1 et (Term.int_eval j) A.1).2
theorem o_aB (hf:Fit s)(et:t.eval args s none [] s=some (.ref x))(h1:(Jvm.Cond.exactly t "java/math/BigInteger").value args s none s []=some true)(h2:(Jvm.Cond.eq (Term.field t "java/math/BigInteger" "signum" "I") (Term.int 1)).value args s none s []=some true)(h3:(Jvm.Cond.arrayOf (Term.field t "java/math/BigInteger" "mag" "[I") .int).value args s none s []=some true)
  (h4:(Jvm.Cond.exactly (Term.field t "java/math/BigInteger" "mag" "[I") "[I").value args s none s []=some true) (h5:(Jvm.Cond.eq (Term.length (Term.field t "java/math/BigInteger" "mag" "[I")) (Term.int 1)).value args s none s []=some true) (h6:(Jvm.Cond.eq (Term.elem (Term.field t "java/math/BigInteger" "mag" "[I") (Term.int 0)) (Term.int k)).value args s none s []=some true): ∃a kk,o_U s s.heap x a kk [k]:=by
 obtain ⟨a,ea⟩:=exa_v h4
 obtain ⟨cl,A⟩:=Arr.start ea h3
 obtain ⟨q1,q2⟩:=o_ft A ea h5
 exact ⟨a,cl.cls,Exa.start et h1,o_eb et h2,Fld.start ((fld_at et).symm.trans ea),Arv.start (z:=(1:Int32)) (vs:= [.int k]) hf A q1 q2 (by decide) rfl ⟨o_i0 A ea h6,trivial⟩,Exa.start ea h4⟩
theorem o_i1 {pc:Addr}(hf:Fit s)(A:Arr s s.heap pc cl (.object "java/math/BigInteger"))(et:t.eval args s none [] s=some (.ref pc))(hl:(Jvm.Cond.eq (Term.length t) (Term.int 17)).value args s none s []=some true)
  (H: ∀i:Int32,1≤i.toInt→i.toInt≤16→ ∃x a k,(Term.elem t (Term.int i)).eval args s none [] s=some (.ref x)∧o_U s s.heap x a k [i]):o_ct s pc cl.cls cl.slots.toList .null:=by
 obtain ⟨q1,q2⟩:=o_ft A et hl
 have S:cl.slots.size=(17:Int32).toNatClampNeg:=by rw[←q2];simp only[Int32.toNatClampNeg,len_toInt q1];rfl
 have H':Has cl cl.slots.toList .null:=fun j hj=>by simp[List.getD_eq_getElem?_getD,hj]
 refine ⟨⟨cl,A,rfl,S,by decide,H',fun j hj=> ?_⟩,fun i h1 h2=> ?_⟩
 ·have e1:(Nat.toInt32 j).toNatClampNeg=j:=by simp only[Int32.toNatClampNeg,len_toInt (Nat.lt_trans hj q1)];rfl
  exact elem_fits (j:=Nat.toInt32 j) hf A (idx_in hj q1) (by rw[e1];exact H' j hj)
 ·obtain ⟨x,a,k,e,B⟩:=H i h1 h2
  refine ⟨x,a,k,?_,B⟩
  have q:=(elem_in e et (Term.int_eval i) A.1).2
  rw[List.getD_eq_getElem?_getD,Array.getElem?_toList,q];rfl
theorem o_i2 {P:Int32→Prop}(h:P 1∧P 2∧P 3∧P 4∧P 5∧P 6∧P 7∧P 8∧P 9∧P 10∧P 11∧P 12∧P 13∧P 14∧P 15∧P 16): ∀i:Int32,1≤i.toInt→i.toInt≤16→P i:=fun i h1 h2=>by
 obtain ⟨a1,a2,a3,a4,a5,a6,a7,a8,a9,a10,a11,a12,a13,a14,w,B⟩:=h
 have e: ∀{k:Int32},P k→i.toInt=k.toInt→P i:=fun r q=>by rw[Int32.toInt_inj.mp q];exact r
 rcases (show i.toInt=1∨i.toInt=2∨i.toInt=3∨i.toInt=4∨i.toInt=5∨i.toInt=6∨i.toInt=7∨i.toInt=8∨i.toInt=9∨i.toInt=10∨i.toInt=11∨i.toInt=12∨i.toInt=13∨i.toInt=14∨i.toInt=15∨i.toInt=16 by omega) with q|q|q|q|q|q|q|q|q|q|q|q|q|q|q|q
 ·exact e a1 q
 ·exact e a2 q
 ·exact e a3 q
 ·exact e a4 q
 ·exact e a5 q
 ·exact e a6 q
 ·exact e a7 q
 ·exact e a8 q
 ·exact e a9 q
 ·exact e a10 q
 ·exact e a11 q
 ·exact e a12 q
 ·exact e a13 q
 ·exact e a14 q
 ·exact e w q
 ·exact e B q
end OwnCm
def o_i3:List (Nat×Jvm.ClassFile.Instr×Nat):= [(0,.lload_n 0,1),(1,.lload_n 2,1),(2,.lcmp,1),(3,.ifCond .lt 7,3),(6,.lload_n 0,1),(7,.goto 4,3),(10,.lload_n 2,1),(11,.lreturn,1)]
theorem o_i4: ∀x∈o_i3,decode jdk_29_method_66_code x.1= .ok (x.2.1,x.2.2):=by decide+kernel
def o_i5:List (Nat×Jvm.ClassFile.Instr×Nat):= [(0,.lload_n 0,1),(1,.bipush 26,2),(3,.lushr,1),(4,.lstore 4,2),(6,.lload_n 0,1),(7,.ldc2_w 9,3),(10,.land,1),(11,.lstore 6,2),(13,.lload_n 2,1),(14,.bipush 26,2),(16,.lushr,1),(17,.lstore 8,2),(19,.lload_n 2,1),(20,.ldc2_w 9,3),(23,.land,1),(24,.lstore 10,2),(26,.lload 4,2),(28,.lload 8,2),(30,.lmul,1),(31,.lstore 12,2),(33,.lload 4,2),(35,.lload 10,2),(37,.lmul,1),(38,.lload 6,2),(40,.lload 8,2),(42,.lmul,1),(43,.ladd,1),(44,.lstore 14,2),(46,.lload 6,2),(48,.lload 10,2),(50,.lmul,1),(51,.lstore 16,2),(53,.lload 16,2),(55,.lload 14,2),(57,.ldc2_w 9,3),(60,.land,1),(61,.bipush 26,2),(63,.lshl,1),(64,.ladd,1),(65,.lstore 18,2),(67,.lload 12,2),(69,.lload 14,2),(71,.bipush 26,2),(73,.lushr,1),(74,.ladd,1),(75,.lload 18,2),(77,.bipush 52,2),(79,.lushr,1),(80,.ladd,1),(81,.lreturn,1)]
theorem o_i6: ∀x∈o_i5,decode method_2_code x.1= .ok (x.2.1,x.2.2):=by decide+kernel
def o_i7:List (Nat×Jvm.ClassFile.Instr×Nat):= [(0,.lload_n 0,1),(1,.bipush 26,2),(3,.lushr,1),(4,.lstore 4,2),(6,.lload_n 0,1),(7,.ldc2_w 9,3),(10,.land,1),(11,.lstore 6,2),(13,.lload_n 2,1),(14,.bipush 26,2),(16,.lushr,1),(17,.lstore 8,2),(19,.lload_n 2,1),(20,.ldc2_w 9,3),(23,.land,1),(24,.lstore 10,2),(26,.lload 4,2),(28,.lload 10,2),(30,.lmul,1),(31,.lload 6,2),(33,.lload 8,2),(35,.lmul,1),(36,.ladd,1),(37,.lstore 12,2),(39,.lload 6,2),(41,.lload 10,2),(43,.lmul,1),(44,.lstore 14,2),(46,.lload 14,2),(48,.lload 12,2),(50,.ldc2_w 9,3),(53,.land,1),(54,.bipush 26,2),(56,.lshl,1),(57,.ladd,1),(58,.lstore 16,2),(60,.lload 16,2),(62,.ldc2_w 11,3),(65,.land,1),(66,.lreturn,1)]
theorem o_i8: ∀x∈o_i7,decode method_3_code x.1= .ok (x.2.1,x.2.2):=by decide+kernel
def o_i9:List (Nat×Jvm.ClassFile.Instr×Nat):= [(0,.lload_n 0,1),(1,.lload_n 2,1),(2,.invokestatic 13,3),(5,.lstore 8,2),(7,.lload 4,2),(9,.lload 6,2),(11,.invokestatic 13,3),(14,.lstore 10,2),(16,.lload 8,2),(18,.lload 10,2),(20,.lcmp,1),(21,.ifCond .eq 17,3),(24,.lload 8,2),(26,.lload 10,2),(28,.lcmp,1),(29,.ifCond .ge 7,3),(32,.iconst (-1),1),(33,.goto 4,3),(36,.iconst 1,1),(37,.ireturn,1),(38,.lload_n 0,1),(39,.lload_n 2,1),(40,.invokestatic 17,3),(43,.lstore 12,2),(45,.lload 4,2),(47,.lload 6,2),(49,.invokestatic 17,3),(52,.lstore 14,2),(54,.lload 12,2),(56,.lload 14,2),(58,.lcmp,1),(59,.ifCond .eq 17,3),(62,.lload 12,2),(64,.lload 14,2),(66,.lcmp,1),(67,.ifCond .ge 7,3),(70,.iconst (-1),1),(71,.goto 4,3),(74,.iconst 1,1),(75,.ireturn,1),(76,.iconst 0,1),(77,.ireturn,1)]
theorem o_i_: ∀x∈o_i9,decode method_4_code x.1= .ok (x.2.1,x.2.2):=by decide+kernel
def o_i':List (Nat×Jvm.ClassFile.Instr×Nat):= [(0,.aload_n 0,1),(1,.invokespecial 1,3),(4,.return_,1)]
theorem o_fu: ∀x∈o_i',decode jdk_18_method_1_code x.1= .ok (x.2.1,x.2.2):=by decide+kernel
def o_ja:List (Nat×Jvm.ClassFile.Instr×Nat):= [(0,.aload_n 0,1),(1,.invokespecial 3,3),(4,.lload_n 1,1),(5,.lconst 0,1),(6,.lcmp,1),(7,.ifCond .ge 14,3),(10,.lload_n 1,1),(11,.lneg,1),(12,.lstore_n 1,1),(13,.aload_n 0,1),(14,.iconst (-1),1),(15,.putfield 32,3),(18,.goto 8,3),(21,.aload_n 0,1),(22,.iconst 1,1),(23,.putfield 32,3),(26,.lload_n 1,1),(27,.bipush 32,2),(29,.lushr,1),(30,.l2i,1),(31,.istore_n 3,1),(32,.iload_n 3,1),(33,.ifCond .ne 21,3),(36,.aload_n 0,1),(37,.iconst 1,1),(38,.newarray .int,2),(40,.putfield 28,3),(43,.aload_n 0,1),(44,.getfield 28,3),(47,.iconst 0,1),(48,.lload_n 1,1),(49,.l2i,1),(50,.iastore,1),(51,.goto 25,3),(54,.aload_n 0,1),(55,.iconst 2,1),(56,.newarray .int,2),(58,.putfield 28,3),(61,.aload_n 0,1),(62,.getfield 28,3),(65,.iconst 0,1),(66,.iload_n 3,1),(67,.iastore,1),(68,.aload_n 0,1),(69,.getfield 28,3),(72,.iconst 1,1),(73,.lload_n 1,1),(74,.l2i,1),(75,.iastore,1),(76,.return_,1)]
theorem o_fv: ∀x∈o_ja,decode jdk_2097_method_30_code x.1= .ok (x.2.1,x.2.2):=by decide+kernel
def o_jb:List (Nat×Jvm.ClassFile.Instr×Nat):= [(0,.lload_n 0,1),(1,.lconst 0,1),(2,.lcmp,1),(3,.ifCond .ne 7,3),(6,.getstatic 22,3),(9,.areturn,1),(10,.lload_n 0,1),(11,.lconst 0,1),(12,.lcmp,1),(13,.ifCond .le 18,3),(16,.lload_n 0,1),(17,.ldc2_w 345,3),(20,.lcmp,1),(21,.ifCond .gt 10,3),(24,.getstatic 347,3),(27,.lload_n 0,1),(28,.l2i,1),(29,.aaload,1),(30,.areturn,1),(31,.lload_n 0,1),(32,.lconst 0,1),(33,.lcmp,1),(34,.ifCond .ge 19,3),(37,.lload_n 0,1),(38,.ldc2_w 351,3),(41,.lcmp,1),(42,.ifCond .lt 11,3),(45,.getstatic 353,3),(48,.lload_n 0,1),(49,.lneg,1),(50,.l2i,1),(51,.aaload,1),(52,.areturn,1),(53,.new 23,3),(56,.dup,1),(57,.lload_n 0,1),(58,.invokespecial 356,3),(61,.areturn,1)]
theorem o_fw: ∀x∈o_jb,decode jdk_2097_method_29_code x.1= .ok (x.2.1,x.2.2):=by decide+kernel
def o_jc:List (Nat×Jvm.ClassFile.Instr×Nat):= [(0,.iload_n 0,1),(1,.iload_n 0,1),(2,.iconst 1,1),(3,.iushr,1),(4,.ldc_w 265,3),(7,.iand,1),(8,.isub,1),(9,.istore_n 0,1),(10,.iload_n 0,1),(11,.ldc_w 266,3),(14,.iand,1),(15,.iload_n 0,1),(16,.iconst 2,1),(17,.iushr,1),(18,.ldc_w 266,3),(21,.iand,1),(22,.iadd,1),(23,.istore_n 0,1),(24,.iload_n 0,1),(25,.iload_n 0,1),(26,.iconst 4,1),(27,.iushr,1),(28,.iadd,1),(29,.ldc_w 267,3),(32,.iand,1),(33,.istore_n 0,1),(34,.iload_n 0,1),(35,.iload_n 0,1),(36,.bipush 8,2),(38,.iushr,1),(39,.iadd,1),(40,.istore_n 0,1),(41,.iload_n 0,1),(42,.iload_n 0,1),(43,.bipush 16,2),(45,.iushr,1),(46,.iadd,1),(47,.istore_n 0,1),(48,.iload_n 0,1),(49,.bipush 63,2),(51,.iand,1),(52,.ireturn,1)]
theorem o_jd: ∀x∈o_jc,decode jdk_33_method_49_code x.1= .ok (x.2.1,x.2.2):=by decide+kernel
def o_je:List (Nat×Jvm.ClassFile.Instr×Nat):= [(0,.iload_n 0,1),(1,.iconst (-1),1),(2,.ixor,1),(3,.iload_n 0,1),(4,.iconst 1,1),(5,.isub,1),(6,.iand,1),(7,.istore_n 0,1),(8,.iload_n 0,1),(9,.ifCond .gt 8,3),(12,.iload_n 0,1),(13,.bipush 32,2),(15,.iand,1),(16,.ireturn,1),(17,.iconst 1,1),(18,.istore_n 1,1),(19,.iload_n 0,1),(20,.ldc_w 264,3),(23,.if_icmp .le 11,3),(26,.iinc 1 16,3),(29,.iload_n 0,1),(30,.bipush 16,2),(32,.iushr,1),(33,.istore_n 0,1),(34,.iload_n 0,1),(35,.sipush 256,3),(38,.if_icmp .le 11,3),(41,.iinc 1 8,3),(44,.iload_n 0,1),(45,.bipush 8,2),(47,.iushr,1),(48,.istore_n 0,1),(49,.iload_n 0,1),(50,.bipush 16,2),(52,.if_icmp .le 10,3),(55,.iinc 1 4,3),(58,.iload_n 0,1),(59,.iconst 4,1),(60,.iushr,1),(61,.istore_n 0,1),(62,.iload_n 0,1),(63,.iconst 4,1),(64,.if_icmp .le 10,3),(67,.iinc 1 2,3),(70,.iload_n 0,1),(71,.iconst 2,1),(72,.iushr,1),(73,.istore_n 0,1),(74,.iload_n 1,1),(75,.iload_n 0,1),(76,.iconst 1,1),(77,.iushr,1),(78,.iadd,1),(79,.ireturn,1)]
theorem o_jf: ∀x∈o_je,decode jdk_33_method_48_code x.1= .ok (x.2.1,x.2.2):=by decide+kernel
def o_jg:List (Nat×Jvm.ClassFile.Instr×Nat):= [(0,.iload_n 1,1),(1,.iload_n 0,1),(2,.if_icmp .ge 35,3),(5,.new 43,3),(8,.dup,1),(9,.new 45,3),(12,.dup,1),(13,.invokespecial 47,3),(16,.iload_n 0,1),(17,.invokevirtual 54,3),(20,.ldc_w 337,3),(23,.invokevirtual 50,3),(26,.iload_n 1,1),(27,.invokevirtual 54,3),(30,.invokevirtual 61,3),(33,.invokespecial 65,3),(36,.athrow,1),(37,.return_,1)]
theorem o_jh: ∀x∈o_jg,decode jdk_65_method_131_code x.1= .ok (x.2.1,x.2.2):=by decide+kernel
def o_ji:List (Nat×Jvm.ClassFile.Instr×Nat):= [(0,.iload_n 0,1),(1,.iload_n 1,1),(2,.if_icmp .gt 7,3),(5,.iload_n 0,1),(6,.goto 4,3),(9,.iload_n 1,1),(10,.ireturn,1)]
theorem o_jj: ∀x∈o_ji,decode jdk_29_method_69_code x.1= .ok (x.2.1,x.2.2):=by decide+kernel
def o_jk:List (Nat×Jvm.ClassFile.Instr×Nat):= [(0,.iload_n 0,1),(1,.ifCond .lt 13,3),(4,.iload_n 0,1),(5,.iload_n 1,1),(6,.if_icmp .gt 8,3),(9,.iload_n 1,1),(10,.iload_n 2,1),(11,.if_icmp .le 11,3),(14,.aload_n 3,1),(15,.iload_n 0,1),(16,.iload_n 1,1),(17,.iload_n 2,1),(18,.invokestatic 99,3),(21,.athrow,1),(22,.iload_n 0,1),(23,.ireturn,1)]
theorem o_jl: ∀x∈o_jk,decode jdk_41_method_12_code x.1= .ok (x.2.1,x.2.2):=by decide+kernel
def o_jm:List (Nat×Jvm.ClassFile.Instr×Nat):= [(0,.iload_n 0,1),(1,.iload_n 1,1),(2,.iload_n 2,1),(3,.aconst_null,1),(4,.invokestatic 111,3),(7,.ireturn,1)]
theorem o_jn: ∀x∈o_jm,decode jdk_31_method_18_code x.1= .ok (x.2.1,x.2.2):=by decide+kernel
def o_jo:List (Nat×Jvm.ClassFile.Instr×Nat):= [(0,.iload_n 1,1),(1,.iload_n 2,1),(2,.invokestatic 343,3),(5,.iload_n 2,1),(6,.iload_n 1,1),(7,.isub,1),(8,.istore_n 3,1),(9,.iload_n 3,1),(10,.newarray .int,2),(12,.astore 4,2),(14,.aload_n 0,1),(15,.iload_n 1,1),(16,.aload 4,2),(18,.iconst 0,1),(19,.aload_n 0,1),(20,.arraylength,1),(21,.iload_n 1,1),(22,.isub,1),(23,.iload_n 3,1),(24,.invokestatic 304,3),(27,.invokestatic 150,3),(30,.aload 4,2),(32,.areturn,1)]
theorem o_bw: ∀x∈o_jo,decode jdk_65_method_137_code x.1= .ok (x.2.1,x.2.2):=by decide+kernel
def o_jp:List (Nat×Jvm.ClassFile.Instr×Nat):= [(0,.iload_n 1,1),(1,.ifCond .ne 9,3),(4,.iload_n 2,1),(5,.aload_n 0,1),(6,.arraylength,1),(7,.if_icmp .eq 10,3),(10,.aload_n 0,1),(11,.iload_n 1,1),(12,.iload_n 2,1),(13,.invokestatic 351,3),(16,.areturn,1),(17,.aload_n 0,1),(18,.invokevirtual 316,3),(21,.checkcast 317,3),(24,.areturn,1)]
theorem o_bx: ∀x∈o_jp,decode jdk_65_method_136_code x.1= .ok (x.2.1,x.2.2):=by decide+kernel
def o_jq:List (Nat×Jvm.ClassFile.Instr×Nat):= [(0,.aload_n 0,1),(1,.invokespecial 3,3),(4,.aload_n 0,1),(5,.aload_n 1,1),(6,.arraylength,1),(7,.ifCond .ne 7,3),(10,.iconst 0,1),(11,.goto 4,3),(14,.iload_n 2,1),(15,.putfield 32,3),(18,.aload_n 0,1),(19,.aload_n 1,1),(20,.putfield 28,3),(23,.aload_n 0,1),(24,.getfield 28,3),(27,.arraylength,1),(28,.ldc 43,2),(30,.if_icmp .lt 7,3),(33,.aload_n 0,1),(34,.invokevirtual 44,3),(37,.return_,1)]
theorem o_jr: ∀x∈o_jq,decode jdk_2097_method_25_code x.1= .ok (x.2.1,x.2.2):=by decide+kernel
def o_js:List (Nat×Jvm.ClassFile.Instr×Nat):= [(0,.bipush 32,2),(2,.iload_n 3,1),(3,.isub,1),(4,.istore 5,2),(6,.iconst 0,1),(7,.istore 6,2),(9,.iload 6,2),(11,.iload 4,2),(13,.if_icmp .ge 29,3),(16,.aload_n 0,1),(17,.iload_n 2,1),(18,.iinc 2 1,3),(21,.aload_n 1,1),(22,.iload 6,2),(24,.iinc 6 1,3),(27,.iaload,1),(28,.iload_n 3,1),(29,.ishl,1),(30,.aload_n 1,1),(31,.iload 6,2),(33,.iaload,1),(34,.iload 5,2),(36,.iushr,1),(37,.ior,1),(38,.iastore,1),(39,.goto (-30),3),(42,.return_,1)]
theorem o_cW: ∀x∈o_js,decode jdk_2097_method_103_code x.1= .ok (x.2.1,x.2.2):=by decide+kernel
def o_cX:List (Nat×Jvm.ClassFile.Instr×Nat):= [(0,.iload_n 1,1),(1,.iconst 5,1),(2,.iushr,1),(3,.istore_n 2,1),(4,.iload_n 1,1),(5,.bipush 31,2),(7,.iand,1),(8,.istore_n 3,1),(9,.aload_n 0,1),(10,.arraylength,1),(11,.istore 4,2),(13,.aconst_null,1),(14,.astore 5,2),(16,.iload_n 3,1),(17,.ifCond .ne 24,3),(20,.iload 4,2),(22,.iload_n 2,1),(23,.iadd,1),(24,.newarray .int,2),(26,.astore 5,2),(28,.aload_n 0,1),(29,.iconst 0,1),(30,.aload 5,2),(32,.iconst 0,1),(33,.iload 4,2),(35,.invokestatic 388,3),(38,.goto 114,3),(41,.iconst 0,1),(42,.istore 6,2),(44,.bipush 32,2),(46,.iload_n 3,1),(47,.isub,1),(48,.istore 7,2),(50,.aload_n 0,1),(51,.iconst 0,1),(52,.iaload,1),(53,.iload 7,2),(55,.iushr,1),(56,.istore 8,2),(58,.iload 8,2),(60,.ifCond .eq 26,3),(63,.iload 4,2),(65,.iload_n 2,1),(66,.iadd,1),(67,.iconst 1,1),(68,.iadd,1),(69,.newarray .int,2),(71,.astore 5,2),(73,.aload 5,2),(75,.iload 6,2),(77,.iinc 6 1,3),(80,.iload 8,2),(82,.iastore,1),(83,.goto 11,3),(86,.iload 4,2),(88,.iload_n 2,1),(89,.iadd,1),(90,.newarray .int,2),(92,.astore 5,2),(94,.iload 4,2),(96,.iconst 1,1),(97,.isub,1),(98,.istore 9,2),(100,.iconst 0,1),(101,.iload 9,2),(103,.iconst 1,1),(104,.iadd,1),(105,.aload_n 0,1),(106,.arraylength,1),(107,.invokestatic 611,3),(110,.pop,1),(111,.iload 6,2),(113,.iload 9,2),(115,.iload 6,2),(117,.iadd,1),(118,.iconst 1,1),(119,.iadd,1),(120,.aload 5,2),(122,.arraylength,1),(123,.invokestatic 611,3),(126,.pop,1),(127,.aload 5,2),(129,.aload_n 0,1),(130,.iload 6,2),(132,.iload_n 3,1),(133,.iload 9,2),(135,.invokestatic 618,3),(138,.aload 5,2),(140,.iload 9,2),(142,.iload 6,2),(144,.iadd,1),(145,.aload_n 0,1),(146,.iload 9,2),(148,.iaload,1),(149,.iload_n 3,1),(150,.ishl,1),(151,.iastore,1),(152,.aload 5,2),(154,.areturn,1)]
theorem o_jt: ∀x∈(o_cX).take 40,decode jdk_2097_method_102_code x.1= .ok (x.2.1,x.2.2):=by decide+kernel
theorem o_ju: ∀x∈((o_cX).drop 40).take 40,decode jdk_2097_method_102_code x.1= .ok (x.2.1,x.2.2):=by decide+kernel
theorem o_jv: ∀x∈((o_cX).drop 40).drop 40,decode jdk_2097_method_102_code x.1= .ok (x.2.1,x.2.2):=by decide+kernel
theorem o_cY: ∀x∈o_cX,decode jdk_2097_method_102_code x.1= .ok (x.2.1,x.2.2):=(o_Z 40 o_jt (o_Z 40 o_ju o_jv))
def o_cZ:List (Nat×Jvm.ClassFile.Instr×Nat):= [(0,.iload_n 1,1),(1,.invokestatic 423,3),(4,.iconst 1,1),(5,.if_icmp .ne 20,3),(8,.new 23,3),(11,.dup,1),(12,.aload_n 0,1),(13,.iload_n 1,1),(14,.invokestatic 426,3),(17,.invokestatic 429,3),(20,.iload_n 2,1),(21,.invokespecial 175,3),(24,.areturn,1),(25,.aload_n 0,1),(26,.arraylength,1),(27,.istore_n 3,1),(28,.iload_n 3,1),(29,.iconst 1,1),(30,.iadd,1),(31,.newarray .int,2),(33,.astore 4,2),(35,.lconst 0,1),(36,.lstore 5,2),(38,.iload_n 1,1),(39,.i2l,1),(40,.ldc2_w 130,3),(43,.land,1),(44,.lstore 7,2),(46,.aload 4,2),(48,.arraylength,1),(49,.iconst 1,1),(50,.isub,1),(51,.istore 9,2),(53,.iload_n 3,1),(54,.iconst 1,1),(55,.isub,1),(56,.istore 10,2),(58,.iload 10,2),(60,.ifCond .lt 44,3),(63,.aload_n 0,1),(64,.iload 10,2),(66,.iaload,1),(67,.i2l,1),(68,.ldc2_w 130,3),(71,.land,1),(72,.lload 7,2),(74,.lmul,1),(75,.lload 5,2),(77,.ladd,1),(78,.lstore 11,2),(80,.aload 4,2),(82,.iload 9,2),(84,.iinc 9 (-1),3),(87,.lload 11,2),(89,.l2i,1),(90,.iastore,1),(91,.lload 11,2),(93,.bipush 32,2),(95,.lushr,1),(96,.lstore 5,2),(98,.iinc 10 (-1),3),(101,.goto (-43),3),(104,.lload 5,2),(106,.lconst 0,1),(107,.lcmp,1),(108,.ifCond .ne 17,3),(111,.aload 4,2),(113,.iconst 1,1),(114,.aload 4,2),(116,.arraylength,1),(117,.invokestatic 433,3),(120,.astore 4,2),(122,.goto 11,3),(125,.aload 4,2),(127,.iload 9,2),(129,.lload 5,2),(131,.l2i,1),(132,.iastore,1),(133,.new 23,3),(136,.dup,1),(137,.aload 4,2),(139,.iload_n 2,1),(140,.invokespecial 175,3),(143,.areturn,1)]
theorem o_jw: ∀x∈(o_cZ).take 40,decode jdk_2097_method_43_code x.1= .ok (x.2.1,x.2.2):=by decide+kernel
theorem o_jx: ∀x∈((o_cZ).drop 40).take 40,decode jdk_2097_method_43_code x.1= .ok (x.2.1,x.2.2):=by decide+kernel
theorem o_jy: ∀x∈((o_cZ).drop 40).drop 40,decode jdk_2097_method_43_code x.1= .ok (x.2.1,x.2.2):=by decide+kernel
theorem o_c0: ∀x∈o_cZ,decode jdk_2097_method_43_code x.1= .ok (x.2.1,x.2.2):=(o_Z 40 o_jw (o_Z 40 o_jx o_jy))
def o_jz:List (Nat×Jvm.ClassFile.Instr×Nat):= [(0,.aload_n 0,1),(1,.ifnonnull 11,3),(4,.new 84,3),(7,.dup,1),(8,.invokespecial 86,3),(11,.athrow,1),(12,.aload_n 0,1),(13,.areturn,1)]
theorem o_fx: ∀x∈o_jz,decode jdk_31_method_10_code x.1= .ok (x.2.1,x.2.2):=by decide+kernel
def o_jA:List (Nat×Jvm.ClassFile.Instr×Nat):= [(0,.iload_n 1,1),(1,.ifCond .gt 4,3),(4,.return_,1),(5,.aload_n 0,1),(6,.invokestatic 447,3),(9,.pop,1),(10,.iload_n 1,1),(11,.aload_n 0,1),(12,.arraylength,1),(13,.if_icmp .le 14,3),(16,.new 451,3),(19,.dup,1),(20,.iload_n 1,1),(21,.iconst 1,1),(22,.isub,1),(23,.invokespecial 453,3),(26,.athrow,1),(27,.return_,1)]
theorem o_jB: ∀x∈o_jA,decode jdk_2097_method_47_code x.1= .ok (x.2.1,x.2.2):=by decide+kernel
def o_cd:List (Nat×Jvm.ClassFile.Instr×Nat):= [(0,.iload_n 1,1),(1,.iconst 1,1),(2,.isub,1),(3,.istore 5,2),(5,.iload_n 3,1),(6,.iconst 1,1),(7,.isub,1),(8,.istore 6,2),(10,.aload 4,2),(12,.ifnull 12,3),(15,.aload 4,2),(17,.arraylength,1),(18,.iload_n 1,1),(19,.iload_n 3,1),(20,.iadd,1),(21,.if_icmp .ge 10,3),(24,.iload_n 1,1),(25,.iload_n 3,1),(26,.iadd,1),(27,.newarray .int,2),(29,.astore 4,2),(31,.lconst 0,1),(32,.lstore 7,2),(34,.iload 6,2),(36,.istore 9,2),(38,.iload 6,2),(40,.iconst 1,1),(41,.iadd,1),(42,.iload 5,2),(44,.iadd,1),(45,.istore 10,2),(47,.iload 9,2),(49,.ifCond .lt 51,3),(52,.aload_n 2,1),(53,.iload 9,2),(55,.iaload,1),(56,.i2l,1),(57,.ldc2_w 130,3),(60,.land,1),(61,.aload_n 0,1),(62,.iload 5,2),(64,.iaload,1),(65,.i2l,1),(66,.ldc2_w 130,3),(69,.land,1),(70,.lmul,1),(71,.lload 7,2),(73,.ladd,1),(74,.lstore 11,2),(76,.aload 4,2),(78,.iload 10,2),(80,.lload 11,2),(82,.l2i,1),(83,.iastore,1),(84,.lload 11,2),(86,.bipush 32,2),(88,.lushr,1),(89,.lstore 7,2),(91,.iinc 9 (-1),3),(94,.iinc 10 (-1),3),(97,.goto (-50),3),(100,.aload 4,2),(102,.iload 5,2),(104,.lload 7,2),(106,.l2i,1),(107,.iastore,1),(108,.iload 5,2),(110,.iconst 1,1),(111,.isub,1),(112,.istore 9,2),(114,.iload 9,2),(116,.ifCond .lt 97,3),(119,.lconst 0,1),(120,.lstore 7,2),(122,.iload 6,2),(124,.istore 10,2),(126,.iload 6,2),(128,.iconst 1,1),(129,.iadd,1),(130,.iload 9,2),(132,.iadd,1),(133,.istore 11,2),(135,.iload 10,2),(137,.ifCond .lt 62,3),(140,.aload_n 2,1),(141,.iload 10,2),(143,.iaload,1),(144,.i2l,1),(145,.ldc2_w 130,3),(148,.land,1),(149,.aload_n 0,1),(150,.iload 9,2),(152,.iaload,1),(153,.i2l,1),(154,.ldc2_w 130,3),(157,.land,1),(158,.lmul,1),(159,.aload 4,2),(161,.iload 11,2),(163,.iaload,1),(164,.i2l,1),(165,.ldc2_w 130,3),(168,.land,1),(169,.ladd,1),(170,.lload 7,2),(172,.ladd,1),(173,.lstore 12,2),(175,.aload 4,2),(177,.iload 11,2),(179,.lload 12,2),(181,.l2i,1),(182,.iastore,1),(183,.lload 12,2),(185,.bipush 32,2),(187,.lushr,1),(188,.lstore 7,2),(190,.iinc 10 (-1),3),(193,.iinc 11 (-1),3),(196,.goto (-61),3),(199,.aload 4,2),(201,.iload 9,2),(203,.lload 7,2),(205,.l2i,1),(206,.iastore,1),(207,.iinc 9 (-1),3),(210,.goto (-96),3),(213,.aload 4,2),(215,.areturn,1)]
theorem o_jC: ∀x∈(o_cd).take 40,decode jdk_2097_method_46_code x.1= .ok (x.2.1,x.2.2):=by decide+kernel
theorem o_jD: ∀x∈((o_cd).drop 40).take 40,decode jdk_2097_method_46_code x.1= .ok (x.2.1,x.2.2):=by decide+kernel
theorem o_jE: ∀x∈(((o_cd).drop 40).drop 40).take 40,decode jdk_2097_method_46_code x.1= .ok (x.2.1,x.2.2):=by decide+kernel
theorem o_jF: ∀x∈(((o_cd).drop 40).drop 40).drop 40,decode jdk_2097_method_46_code x.1= .ok (x.2.1,x.2.2):=by decide+kernel
theorem o_fy: ∀x∈o_cd,decode jdk_2097_method_46_code x.1= .ok (x.2.1,x.2.2):=(o_Z 40 o_jC (o_Z 40 o_jD (o_Z 40 o_jE o_jF)))
def o_jG:List (Nat×Jvm.ClassFile.Instr×Nat):= [(0,.aload_n 0,1),(1,.iload_n 1,1),(2,.invokestatic 441,3),(5,.aload_n 2,1),(6,.iload_n 3,1),(7,.invokestatic 441,3),(10,.aload_n 0,1),(11,.iload_n 1,1),(12,.aload_n 2,1),(13,.iload_n 3,1),(14,.aload 4,2),(16,.invokestatic 444,3),(19,.areturn,1)]
theorem o_jH: ∀x∈o_jG,decode jdk_2097_method_45_code x.1= .ok (x.2.1,x.2.2):=by decide+kernel
def o_jI:List (Nat×Jvm.ClassFile.Instr×Nat):= [(0,.aload_n 0,1),(1,.arraylength,1),(2,.istore_n 1,1),(3,.iconst 0,1),(4,.istore_n 2,1),(5,.iload_n 2,1),(6,.iload_n 1,1),(7,.if_icmp .ge 15,3),(10,.aload_n 0,1),(11,.iload_n 2,1),(12,.iaload,1),(13,.ifCond .ne 9,3),(16,.iinc 2 1,3),(19,.goto (-14),3),(22,.iload_n 2,1),(23,.ifCond .ne 7,3),(26,.aload_n 0,1),(27,.goto 9,3),(30,.aload_n 0,1),(31,.iload_n 2,1),(32,.iload_n 1,1),(33,.invokestatic 433,3),(36,.areturn,1)]
theorem o_fz: ∀x∈o_jI,decode jdk_2097_method_140_code x.1= .ok (x.2.1,x.2.2):=by decide+kernel
def o_ce:List (Nat×Jvm.ClassFile.Instr×Nat):= [(0,.aload_n 1,1),(1,.getfield 32,3),(4,.ifCond .eq 10,3),(7,.aload_n 0,1),(8,.getfield 32,3),(11,.ifCond .ne 7,3),(14,.getstatic 22,3),(17,.areturn,1),(18,.aload_n 0,1),(19,.getfield 28,3),(22,.arraylength,1),(23,.istore 5,2),(25,.aload_n 1,1),(26,.aload_n 0,1),(27,.if_acmp .ne 19,3),(30,.iload 5,2),(32,.bipush 20,2),(34,.if_icmp .le 12,3),(37,.aload_n 0,1),(38,.iconst 1,1),(39,.iload_n 3,1),(40,.iload 4,2),(42,.invokevirtual 400,3),(45,.areturn,1),(46,.aload_n 1,1),(47,.getfield 28,3),(50,.arraylength,1),(51,.istore 6,2),(53,.iload 5,2),(55,.bipush 80,2),(57,.if_icmp .lt 10,3),(60,.iload 6,2),(62,.bipush 80,2),(64,.if_icmp .ge 108,3),(67,.aload_n 0,1),(68,.getfield 32,3),(71,.aload_n 1,1),(72,.getfield 32,3),(75,.if_icmp .ne 7,3),(78,.iconst 1,1),(79,.goto 4,3),(82,.iconst (-1),1),(83,.istore 7,2),(85,.aload_n 1,1),(86,.getfield 28,3),(89,.arraylength,1),(90,.iconst 1,1),(91,.if_icmp .ne 19,3),(94,.aload_n 0,1),(95,.getfield 28,3),(98,.aload_n 1,1),(99,.getfield 28,3),(102,.iconst 0,1),(103,.iaload,1),(104,.iload 7,2),(106,.invokestatic 403,3),(109,.areturn,1),(110,.aload_n 0,1),(111,.getfield 28,3),(114,.arraylength,1),(115,.iconst 1,1),(116,.if_icmp .ne 19,3),(119,.aload_n 1,1),(120,.getfield 28,3),(123,.aload_n 0,1),(124,.getfield 28,3),(127,.iconst 0,1),(128,.iaload,1),(129,.iload 7,2),(131,.invokestatic 403,3),(134,.areturn,1),(135,.aload_n 0,1),(136,.getfield 28,3),(139,.iload 5,2),(141,.aload_n 1,1),(142,.getfield 28,3),(145,.iload 6,2),(147,.aconst_null,1),(148,.invokestatic 407,3),(151,.astore 8,2),(153,.aload 8,2),(155,.invokestatic 53,3),(158,.astore 8,2),(160,.new 23,3),(163,.dup,1),(164,.aload 8,2),(166,.iload 7,2),(168,.invokespecial 175,3),(171,.areturn,1),(172,.iload 5,2),(174,.sipush 240,3),(177,.if_icmp .ge 17,3),(180,.iload 6,2),(182,.sipush 240,3),(185,.if_icmp .ge 9,3),(188,.aload_n 0,1),(189,.aload_n 1,1),(190,.invokestatic 411,3),(193,.areturn,1),(194,.iload_n 2,1),(195,.ifCond .ne 40,3),(198,.aload_n 0,1),(199,.getfield 28,3),(202,.aload_n 0,1),(203,.getfield 28,3),(206,.arraylength,1),(207,.invokestatic 414,3),(210,.i2l,1),(211,.aload_n 1,1),(212,.getfield 28,3),(215,.aload_n 1,1),(216,.getfield 28,3),(219,.arraylength,1),(220,.invokestatic 414,3),(223,.i2l,1),(224,.ladd,1),(225,.ldc2_w 417,3),(228,.lcmp,1),(229,.ifCond .le 6,3),(232,.invokestatic 101,3),(235,.aload_n 0,1),(236,.aload_n 1,1),(237,.iload_n 3,1),(238,.iload 4,2),(240,.invokestatic 419,3),(243,.areturn,1)]
theorem o_jJ: ∀x∈(o_ce).take 40,decode jdk_2097_method_42_code x.1= .ok (x.2.1,x.2.2):=by decide+kernel
theorem o_jK: ∀x∈((o_ce).drop 40).take 40,decode jdk_2097_method_42_code x.1= .ok (x.2.1,x.2.2):=by decide+kernel
theorem o_jL: ∀x∈(((o_ce).drop 40).drop 40).take 40,decode jdk_2097_method_42_code x.1= .ok (x.2.1,x.2.2):=by decide+kernel
theorem o_jM: ∀x∈(((o_ce).drop 40).drop 40).drop 40,decode jdk_2097_method_42_code x.1= .ok (x.2.1,x.2.2):=by decide+kernel
theorem o_by: ∀x∈o_ce,decode jdk_2097_method_42_code x.1= .ok (x.2.1,x.2.2):=(o_Z 40 o_jJ (o_Z 40 o_jK (o_Z 40 o_jL o_jM)))
def o_jN:List (Nat×Jvm.ClassFile.Instr×Nat):= [(0,.aload_n 0,1),(1,.aload_n 1,1),(2,.iconst 0,1),(3,.iconst 0,1),(4,.iconst 0,1),(5,.invokevirtual 397,3),(8,.areturn,1)]
theorem o_jO: ∀x∈o_jN,decode jdk_2097_method_40_code x.1= .ok (x.2.1,x.2.2):=by decide+kernel
def o_jP:List (Nat×Jvm.ClassFile.Instr×Nat):= [(0,.iload_n 0,1),(1,.ifCond .gt 14,3),(4,.iload_n 0,1),(5,.ifCond .ne 8,3),(8,.bipush 32,2),(10,.goto 4,3),(13,.iconst 0,1),(14,.ireturn,1),(15,.bipush 31,2),(17,.istore_n 1,1),(18,.iload_n 0,1),(19,.ldc_w 264,3),(22,.if_icmp .lt 11,3),(25,.iinc 1 (-16),3),(28,.iload_n 0,1),(29,.bipush 16,2),(31,.iushr,1),(32,.istore_n 0,1),(33,.iload_n 0,1),(34,.sipush 256,3),(37,.if_icmp .lt 11,3),(40,.iinc 1 (-8),3),(43,.iload_n 0,1),(44,.bipush 8,2),(46,.iushr,1),(47,.istore_n 0,1),(48,.iload_n 0,1),(49,.bipush 16,2),(51,.if_icmp .lt 10,3),(54,.iinc 1 (-4),3),(57,.iload_n 0,1),(58,.iconst 4,1),(59,.iushr,1),(60,.istore_n 0,1),(61,.iload_n 0,1),(62,.iconst 4,1),(63,.if_icmp .lt 10,3),(66,.iinc 1 (-2),3),(69,.iload_n 0,1),(70,.iconst 2,1),(71,.iushr,1),(72,.istore_n 0,1),(73,.iload_n 1,1),(74,.iload_n 0,1),(75,.iconst 1,1),(76,.iushr,1),(77,.isub,1),(78,.ireturn,1)]
theorem o_jQ: ∀x∈o_jP,decode jdk_33_method_47_code x.1= .ok (x.2.1,x.2.2):=by decide+kernel
def o_jR:List (Nat×Jvm.ClassFile.Instr×Nat):= [(0,.lload_n 1,1),(1,.ldc2_w 79,3),(4,.ladd,1),(5,.lload_n 3,1),(6,.ldc2_w 79,3),(9,.ladd,1),(10,.lcmp,1),(11,.ifCond .le 7,3),(14,.iconst 1,1),(15,.goto 4,3),(18,.iconst 0,1),(19,.ireturn,1)]
theorem o_fA: ∀x∈o_jR,decode jdk_2101_method_69_code x.1= .ok (x.2.1,x.2.2):=by decide+kernel
def o_jS:List (Nat×Jvm.ClassFile.Instr×Nat):= [(0,.iload_n 2,1),(1,.i2l,1),(2,.ldc2_w 52,3),(5,.land,1),(6,.lstore_n 3,1),(7,.lload_n 3,1),(8,.lconst 1,1),(9,.lcmp,1),(10,.ifCond .ne 24,3),(13,.lload_n 0,1),(14,.l2i,1),(15,.i2l,1),(16,.lstore 7,2),(18,.lconst 0,1),(19,.lstore 5,2),(21,.lload 5,2),(23,.bipush 32,2),(25,.lshl,1),(26,.lload 7,2),(28,.ldc2_w 52,3),(31,.land,1),(32,.lor,1),(33,.lreturn,1),(34,.lload_n 0,1),(35,.iconst 1,1),(36,.lushr,1),(37,.lload_n 3,1),(38,.iconst 1,1),(39,.lushr,1),(40,.ldiv,1),(41,.lstore 7,2),(43,.lload_n 0,1),(44,.lload 7,2),(46,.lload_n 3,1),(47,.lmul,1),(48,.lsub,1),(49,.lstore 5,2),(51,.lload 5,2),(53,.lconst 0,1),(54,.lcmp,1),(55,.ifCond .ge 18,3),(58,.lload 5,2),(60,.lload_n 3,1),(61,.ladd,1),(62,.lstore 5,2),(64,.lload 7,2),(66,.lconst 1,1),(67,.lsub,1),(68,.lstore 7,2),(70,.goto (-19),3),(73,.lload 5,2),(75,.lload_n 3,1),(76,.lcmp,1),(77,.ifCond .lt 18,3),(80,.lload 5,2),(82,.lload_n 3,1),(83,.lsub,1),(84,.lstore 5,2),(86,.lload 7,2),(88,.lconst 1,1),(89,.ladd,1),(90,.lstore 7,2),(92,.goto (-19),3),(95,.lload 5,2),(97,.bipush 32,2),(99,.lshl,1),(100,.lload 7,2),(102,.ldc2_w 52,3),(105,.land,1),(106,.lor,1),(107,.lreturn,1)]
theorem o_fB: ∀x∈o_jS,decode jdk_2101_method_70_code x.1= .ok (x.2.1,x.2.2):=by decide+kernel
def o_jT:List (Nat×Jvm.ClassFile.Instr×Nat):= [(0,.aload_n 0,1),(1,.invokespecial 5,3),(4,.aload_n 0,1),(5,.iconst 0,1),(6,.putfield 11,3),(9,.aload_n 0,1),(10,.iconst 1,1),(11,.newarray .int,2),(13,.putfield 17,3),(16,.aload_n 0,1),(17,.iconst 0,1),(18,.putfield 21,3),(21,.return_,1)]
theorem o_fC: ∀x∈o_jT,decode jdk_2101_method_1_code x.1= .ok (x.2.1,x.2.2):=by decide+kernel
def o_jU:List (Nat×Jvm.ClassFile.Instr×Nat):= [(0,.aload_n 0,1),(1,.invokespecial 5,3),(4,.aload_n 0,1),(5,.iconst 0,1),(6,.putfield 11,3),(9,.aload_n 0,1),(10,.aload_n 1,1),(11,.putfield 17,3),(14,.aload_n 0,1),(15,.aload_n 1,1),(16,.arraylength,1),(17,.putfield 21,3),(20,.return_,1)]
theorem o_fD: ∀x∈o_jU,decode jdk_2101_method_3_code x.1= .ok (x.2.1,x.2.2):=by decide+kernel
def o_jV:List (Nat×Jvm.ClassFile.Instr×Nat):= [(0,.aload_n 0,1),(1,.invokespecial 5,3),(4,.aload_n 0,1),(5,.iconst 0,1),(6,.putfield 11,3),(9,.aload_n 0,1),(10,.iconst 1,1),(11,.newarray .int,2),(13,.putfield 17,3),(16,.aload_n 0,1),(17,.iconst 1,1),(18,.putfield 21,3),(21,.aload_n 0,1),(22,.getfield 17,3),(25,.iconst 0,1),(26,.iload_n 1,1),(27,.iastore,1),(28,.return_,1)]
theorem o_fE: ∀x∈o_jV,decode jdk_2101_method_2_code x.1= .ok (x.2.1,x.2.2):=by decide+kernel
def o_jW:List (Nat×Jvm.ClassFile.Instr×Nat):= [(0,.aload_n 0,1),(1,.invokespecial 5,3),(4,.aload_n 0,1),(5,.iconst 0,1),(6,.putfield 11,3),(9,.aload_n 0,1),(10,.aload_n 1,1),(11,.getfield 21,3),(14,.putfield 21,3),(17,.aload_n 0,1),(18,.aload_n 1,1),(19,.getfield 17,3),(22,.aload_n 1,1),(23,.getfield 11,3),(26,.aload_n 1,1),(27,.getfield 11,3),(30,.aload_n 0,1),(31,.getfield 21,3),(34,.iadd,1),(35,.invokestatic 33,3),(38,.putfield 17,3),(41,.return_,1)]
theorem o_c1: ∀x∈o_jW,decode jdk_2101_method_5_code x.1= .ok (x.2.1,x.2.2):=by decide+kernel
def o_jX:List (Nat×Jvm.ClassFile.Instr×Nat):= [(0,.aload_n 1,1),(1,.getfield 21,3),(4,.istore_n 2,1),(5,.aload_n 0,1),(6,.getfield 21,3),(9,.iload_n 2,1),(10,.if_icmp .ge 5,3),(13,.iconst (-1),1),(14,.ireturn,1),(15,.aload_n 0,1),(16,.getfield 21,3),(19,.iload_n 2,1),(20,.if_icmp .le 5,3),(23,.iconst 1,1),(24,.ireturn,1),(25,.aload_n 1,1),(26,.getfield 17,3),(29,.astore_n 3,1),(30,.aload_n 0,1),(31,.getfield 11,3),(34,.istore 4,2),(36,.aload_n 1,1),(37,.getfield 11,3),(40,.istore 5,2),(42,.iload 4,2),(44,.aload_n 0,1),(45,.getfield 21,3),(48,.aload_n 0,1),(49,.getfield 11,3),(52,.iadd,1),(53,.if_icmp .ge 51,3),(56,.aload_n 0,1),(57,.getfield 17,3),(60,.iload 4,2),(62,.iaload,1),(63,.ldc 88,2),(65,.iadd,1),(66,.istore 6,2),(68,.aload_n 3,1),(69,.iload 5,2),(71,.iaload,1),(72,.ldc 88,2),(74,.iadd,1),(75,.istore 7,2),(77,.iload 6,2),(79,.iload 7,2),(81,.if_icmp .ge 5,3),(84,.iconst (-1),1),(85,.ireturn,1),(86,.iload 6,2),(88,.iload 7,2),(90,.if_icmp .le 5,3),(93,.iconst 1,1),(94,.ireturn,1),(95,.iinc 4 1,3),(98,.iinc 5 1,3),(101,.goto (-59),3),(104,.iconst 0,1),(105,.ireturn,1)]
theorem o_c2: ∀x∈o_jX,decode jdk_2101_method_15_code x.1= .ok (x.2.1,x.2.2):=by decide+kernel
def o_jY:List (Nat×Jvm.ClassFile.Instr×Nat):= [(0,.aload_n 0,1),(1,.getfield 32,3),(4,.ireturn,1)]
theorem o_jZ: ∀x∈o_jY,decode jdk_2097_method_81_code x.1= .ok (x.2.1,x.2.2):=by decide+kernel
def o_j0:List (Nat×Jvm.ClassFile.Instr×Nat):= [(0,.aload_n 0,1),(1,.getfield 32,3),(4,.ifCond .ge 7,3),(7,.iconst (-1),1),(8,.goto 4,3),(11,.iconst 0,1),(12,.ireturn,1)]
theorem o_j1: ∀x∈o_j0,decode jdk_2097_method_147_code x.1= .ok (x.2.1,x.2.2):=by decide+kernel
def o_j2:List (Nat×Jvm.ClassFile.Instr×Nat):= [(0,.iload_n 1,1),(1,.ifCond .ge 5,3),(4,.iconst 0,1),(5,.ireturn,1),(6,.iload_n 1,1),(7,.aload_n 0,1),(8,.getfield 28,3),(11,.arraylength,1),(12,.if_icmp .lt 8,3),(15,.aload_n 0,1),(16,.invokevirtual 860,3),(19,.ireturn,1),(20,.aload_n 0,1),(21,.getfield 28,3),(24,.aload_n 0,1),(25,.getfield 28,3),(28,.arraylength,1),(29,.iload_n 1,1),(30,.isub,1),(31,.iconst 1,1),(32,.isub,1),(33,.iaload,1),(34,.istore_n 2,1),(35,.aload_n 0,1),(36,.getfield 32,3),(39,.ifCond .lt 7,3),(42,.iload_n 2,1),(43,.goto 19,3),(46,.iload_n 1,1),(47,.aload_n 0,1),(48,.invokevirtual 863,3),(51,.if_icmp .gt 8,3),(54,.iload_n 2,1),(55,.ineg,1),(56,.goto 6,3),(59,.iload_n 2,1),(60,.iconst (-1),1),(61,.ixor,1),(62,.ireturn,1)]
theorem o_c3: ∀x∈o_j2,decode jdk_2097_method_148_code x.1= .ok (x.2.1,x.2.2):=by decide+kernel
def o_j3:List (Nat×Jvm.ClassFile.Instr×Nat):= [(0,.lconst 0,1),(1,.lstore_n 1,1),(2,.iconst 1,1),(3,.istore_n 3,1),(4,.iload_n 3,1),(5,.ifCond .lt 25,3),(8,.lload_n 1,1),(9,.bipush 32,2),(11,.lshl,1),(12,.aload_n 0,1),(13,.iload_n 3,1),(14,.invokevirtual 736,3),(17,.i2l,1),(18,.ldc2_w 130,3),(21,.land,1),(22,.ladd,1),(23,.lstore_n 1,1),(24,.iinc 3 (-1),3),(27,.goto (-23),3),(30,.lload_n 1,1),(31,.lreturn,1)]
theorem o_fF: ∀x∈o_j3,decode jdk_2097_method_136_code x.1= .ok (x.2.1,x.2.2):=by decide+kernel
def o_j4:List (Nat×Jvm.ClassFile.Instr×Nat):= [(0,.aload_n 0,1),(1,.aload_n 0,1),(2,.iconst 0,1),(3,.dup_x1,1),(4,.putfield 21,3),(7,.putfield 11,3),(10,.iconst 0,1),(11,.istore_n 1,1),(12,.aload_n 0,1),(13,.getfield 17,3),(16,.arraylength,1),(17,.istore_n 2,1),(18,.iload_n 1,1),(19,.iload_n 2,1),(20,.if_icmp .ge 16,3),(23,.aload_n 0,1),(24,.getfield 17,3),(27,.iload_n 1,1),(28,.iconst 0,1),(29,.iastore,1),(30,.iinc 1 1,3),(33,.goto (-15),3),(36,.return_,1)]
theorem o_fG: ∀x∈o_j4,decode jdk_2101_method_13_code x.1= .ok (x.2.1,x.2.2):=by decide+kernel
def o_au:List (Nat×Jvm.ClassFile.Instr×Nat):= [(0,.aload_n 1,1),(1,.getfield 17,3),(4,.aload_n 1,1),(5,.getfield 11,3),(8,.iaload,1),(9,.invokestatic 152,3),(12,.istore 4,2),(14,.aload_n 1,1),(15,.getfield 21,3),(18,.istore 5,2),(20,.iload 4,2),(22,.ifCond .le 226,3),(25,.iload 5,2),(27,.newarray .int,2),(29,.astore 6,2),(31,.aload_n 1,1),(32,.getfield 17,3),(35,.aload_n 1,1),(36,.getfield 11,3),(39,.iload 5,2),(41,.aload 6,2),(43,.iconst 0,1),(44,.iload 4,2),(46,.invokestatic 269,3),(49,.aload_n 0,1),(50,.getfield 17,3),(53,.aload_n 0,1),(54,.getfield 11,3),(57,.iaload,1),(58,.invokestatic 152,3),(61,.iload 4,2),(63,.if_icmp .lt 62,3),(66,.aload_n 0,1),(67,.getfield 21,3),(70,.iconst 1,1),(71,.iadd,1),(72,.newarray .int,2),(74,.astore 8,2),(76,.new 12,3),(79,.dup,1),(80,.aload 8,2),(82,.invokespecial 259,3),(85,.astore 7,2),(87,.aload 7,2),(89,.aload_n 0,1),(90,.getfield 21,3),(93,.putfield 21,3),(96,.aload 7,2),(98,.iconst 1,1),(99,.putfield 11,3),(102,.aload_n 0,1),(103,.getfield 17,3),(106,.aload_n 0,1),(107,.getfield 11,3),(110,.aload_n 0,1),(111,.getfield 21,3),(114,.aload 8,2),(116,.iconst 1,1),(117,.iload 4,2),(119,.invokestatic 269,3),(122,.goto 201,3),(125,.aload_n 0,1),(126,.getfield 21,3),(129,.iconst 2,1),(130,.iadd,1),(131,.newarray .int,2),(133,.astore 8,2),(135,.new 12,3),(138,.dup,1),(139,.aload 8,2),(141,.invokespecial 259,3),(144,.astore 7,2),(146,.aload 7,2),(148,.aload_n 0,1),(149,.getfield 21,3),(152,.iconst 1,1),(153,.iadd,1),(154,.putfield 21,3),(157,.aload 7,2),(159,.iconst 1,1),(160,.putfield 11,3),(163,.aload_n 0,1),(164,.getfield 11,3),(167,.istore 9,2),(169,.iconst 0,1),(170,.istore 10,2),(172,.bipush 32,2),(174,.iload 4,2),(176,.isub,1),(177,.istore 11,2),(179,.iconst 1,1),(180,.istore 12,2),(182,.iload 12,2),(184,.aload_n 0,1),(185,.getfield 21,3),(188,.iconst 1,1),(189,.iadd,1),(190,.if_icmp .ge 41,3),(193,.iload 10,2),(195,.istore 13,2),(197,.aload_n 0,1),(198,.getfield 17,3),(201,.iload 9,2),(203,.iaload,1),(204,.istore 10,2),(206,.aload 8,2),(208,.iload 12,2),(210,.iload 13,2),(212,.iload 4,2),(214,.ishl,1),(215,.iload 10,2),(217,.iload 11,2),(219,.iushr,1),(220,.ior,1),(221,.iastore,1),(222,.iinc 12 1,3),(225,.iinc 9 1,3),(228,.goto (-46),3),(231,.aload 8,2),(233,.aload_n 0,1),(234,.getfield 21,3),(237,.iconst 1,1),(238,.iadd,1),(239,.iload 10,2),(241,.iload 4,2),(243,.ishl,1),(244,.iastore,1),(245,.goto 78,3),(248,.aload_n 1,1),(249,.getfield 17,3),(252,.aload_n 1,1),(253,.getfield 11,3),(256,.aload_n 1,1),(257,.getfield 11,3),(260,.aload_n 1,1),(261,.getfield 21,3),(264,.iadd,1),(265,.invokestatic 33,3),(268,.astore 6,2),(270,.new 12,3),(273,.dup,1),(274,.aload_n 0,1),(275,.getfield 21,3),(278,.iconst 1,1),(279,.iadd,1),(280,.newarray .int,2),(282,.invokespecial 259,3),(285,.astore 7,2),(287,.aload_n 0,1),(288,.getfield 17,3),(291,.aload_n 0,1),(292,.getfield 11,3),(295,.aload 7,2),(297,.getfield 17,3),(300,.iconst 1,1),(301,.aload_n 0,1),(302,.getfield 21,3),(305,.invokestatic 95,3),(308,.aload 7,2),(310,.aload_n 0,1),(311,.getfield 21,3),(314,.putfield 21,3),(317,.aload 7,2),(319,.iconst 1,1),(320,.putfield 11,3),(323,.aload 7,2),(325,.getfield 21,3),(328,.istore 8,2),(330,.iload 8,2),(332,.iload 5,2),(334,.isub,1),(335,.iconst 1,1),(336,.iadd,1),(337,.istore 9,2),(339,.aload_n 2,1),(340,.getfield 17,3),(343,.arraylength,1),(344,.iload 9,2),(346,.if_icmp .ge 16,3),(349,.aload_n 2,1),(350,.iload 9,2),(352,.newarray .int,2),(354,.putfield 17,3),(357,.aload_n 2,1),(358,.iconst 0,1),(359,.putfield 11,3),(362,.aload_n 2,1),(363,.iload 9,2),(365,.putfield 21,3),(368,.aload_n 2,1),(369,.getfield 17,3),(372,.astore 10,2),(374,.aload 7,2),(376,.iconst 0,1),(377,.putfield 11,3),(380,.aload 7,2),(382,.getfield 17,3),(385,.iconst 0,1),(386,.iconst 0,1),(387,.iastore,1),(388,.aload 7,2),(390,.dup,1),(391,.getfield 21,3),(394,.iconst 1,1),(395,.iadd,1),(396,.putfield 21,3),(399,.aload 6,2),(401,.iconst 0,1),(402,.iaload,1),(403,.istore 11,2),(405,.iload 11,2),(407,.i2l,1),(408,.ldc2_w 52,3),(411,.land,1),(412,.lstore 12,2),(414,.aload 6,2),(416,.iconst 1,1),(417,.iaload,1),(418,.istore 14,2),(420,.iconst 0,1),(421,.istore 15,2),(423,.iload 15,2),(425,.iload 9,2),(427,.iconst 1,1),(428,.isub,1),(429,.if_icmp .ge 399,3),(432,.iconst 0,1),(433,.istore 16,2),(435,.iconst 0,1),(436,.istore 17,2),(438,.iconst 0,1),(439,.istore 18,2),(441,.aload 7,2),(443,.getfield 17,3),(446,.iload 15,2),(448,.aload 7,2),(450,.getfield 11,3),(453,.iadd,1),(454,.iaload,1),(455,.istore 19,2),(457,.iload 19,2),(459,.ldc 88,2),(461,.iadd,1),(462,.istore 20,2),(464,.aload 7,2),(466,.getfield 17,3),(469,.iload 15,2),(471,.iconst 1,1),(472,.iadd,1),(473,.aload 7,2),(475,.getfield 11,3),(478,.iadd,1),(479,.iaload,1),(480,.istore 21,2),(482,.iload 19,2),(484,.iload 11,2),(486,.if_icmp .ne 33,3),(489,.iconst (-1),1),(490,.istore 16,2),(492,.iload 19,2),(494,.iload 21,2),(496,.iadd,1),(497,.istore 17,2),(499,.iload 17,2),(501,.ldc 88,2),(503,.iadd,1),(504,.iload 20,2),(506,.if_icmp .ge 7,3),(509,.iconst 1,1),(510,.goto 4,3),(513,.iconst 0,1),(514,.istore 18,2),(516,.goto 75,3),(519,.iload 19,2),(521,.i2l,1),(522,.bipush 32,2),(524,.lshl,1),(525,.iload 21,2),(527,.i2l,1),(528,.ldc2_w 52,3),(531,.land,1),(532,.lor,1),(533,.lstore 22,2),(535,.lload 22,2),(537,.lconst 0,1),(538,.lcmp,1),(539,.ifCond .lt 26,3),(542,.lload 22,2),(544,.lload 12,2),(546,.ldiv,1),(547,.l2i,1),(548,.istore 16,2),(550,.lload 22,2),(552,.iload 16,2),(554,.i2l,1),(555,.lload 12,2),(557,.lmul,1),(558,.lsub,1),(559,.l2i,1),(560,.istore 17,2),(562,.goto 29,3),(565,.lload 22,2),(567,.iload 11,2),(569,.invokestatic 155,3),(572,.lstore 24,2),(574,.lload 24,2),(576,.ldc2_w 52,3),(579,.land,1),(580,.l2i,1),(581,.istore 16,2),(583,.lload 24,2),(585,.bipush 32,2),(587,.lushr,1),(588,.l2i,1),(589,.istore 17,2),(591,.iload 16,2),(593,.ifCond .ne 6,3),(596,.goto 226,3),(599,.iload 18,2),(601,.ifCond .ne 139,3),(604,.aload 7,2),(606,.getfield 17,3),(609,.iload 15,2),(611,.iconst 2,1),(612,.iadd,1),(613,.aload 7,2),(615,.getfield 11,3),(618,.iadd,1),(619,.iaload,1),(620,.i2l,1),(621,.ldc2_w 52,3),(624,.land,1),(625,.lstore 22,2),(627,.iload 17,2),(629,.i2l,1),(630,.ldc2_w 52,3),(633,.land,1),(634,.bipush 32,2),(636,.lshl,1),(637,.lload 22,2),(639,.lor,1),(640,.lstore 24,2),(642,.iload 14,2),(644,.i2l,1),(645,.ldc2_w 52,3),(648,.land,1),(649,.iload 16,2),(651,.i2l,1),(652,.ldc2_w 52,3),(655,.land,1),(656,.lmul,1),(657,.lstore 26,2),(659,.aload_n 0,1),(660,.lload 26,2),(662,.lload 24,2),(664,.invokevirtual 273,3),(667,.ifCond .eq 73,3),(670,.iinc 16 (-1),3),(673,.iload 17,2),(675,.i2l,1),(676,.ldc2_w 52,3),(679,.land,1),(680,.lload 12,2),(682,.ladd,1),(683,.l2i,1),(684,.istore 17,2),(686,.iload 17,2),(688,.i2l,1),(689,.ldc2_w 52,3),(692,.land,1),(693,.lload 12,2),(695,.lcmp,1),(696,.ifCond .lt 44,3),(699,.lload 26,2),(701,.iload 14,2),(703,.i2l,1),(704,.ldc2_w 52,3),(707,.land,1),(708,.lsub,1),(709,.lstore 26,2),(711,.iload 17,2),(713,.i2l,1),(714,.ldc2_w 52,3),(717,.land,1),(718,.bipush 32,2),(720,.lshl,1),(721,.lload 22,2),(723,.lor,1),(724,.lstore 24,2),(726,.aload_n 0,1),(727,.lload 26,2),(729,.lload 24,2),(731,.invokevirtual 273,3),(734,.ifCond .eq 6,3),(737,.iinc 16 (-1),3),(740,.aload 7,2),(742,.getfield 17,3),(745,.iload 15,2),(747,.aload 7,2),(749,.getfield 11,3),(752,.iadd,1),(753,.iconst 0,1),(754,.iastore,1),(755,.aload_n 0,1),(756,.aload 7,2),(758,.getfield 17,3),(761,.aload 6,2),(763,.iload 16,2),(765,.iload 5,2),(767,.iload 15,2),(769,.aload 7,2),(771,.getfield 11,3),(774,.iadd,1),(775,.invokevirtual 277,3),(778,.istore 22,2),(780,.iload 22,2),(782,.ldc 88,2),(784,.iadd,1),(785,.iload 20,2),(787,.if_icmp .le 28,3),(790,.aload_n 0,1),(791,.aload 6,2),(793,.aload 7,2),(795,.getfield 17,3),(798,.iload 15,2),(800,.iconst 1,1),(801,.iadd,1),(802,.aload 7,2),(804,.getfield 11,3),(807,.iadd,1),(808,.invokevirtual 281,3),(811,.pop,1),(812,.iinc 16 (-1),3),(815,.aload 10,2),(817,.iload 15,2),(819,.iload 16,2),(821,.iastore,1),(822,.iinc 15 1,3),(825,.goto (-402),3),(828,.iconst 0,1),(829,.istore 15,2),(831,.iconst 0,1),(832,.istore 16,2),(834,.iconst 0,1),(835,.istore 17,2),(837,.aload 7,2),(839,.getfield 17,3),(842,.iload 9,2),(844,.iconst 1,1),(845,.isub,1),(846,.aload 7,2),(848,.getfield 11,3),(851,.iadd,1),(852,.iaload,1),(853,.istore 18,2),(855,.iload 18,2),(857,.ldc 88,2),(859,.iadd,1),(860,.istore 19,2),(862,.aload 7,2),(864,.getfield 17,3),(867,.iload 9,2),(869,.aload 7,2),(871,.getfield 11,3),(874,.iadd,1),(875,.iaload,1),(876,.istore 20,2),(878,.iload 18,2),(880,.iload 11,2),(882,.if_icmp .ne 33,3),(885,.iconst (-1),1),(886,.istore 15,2),(888,.iload 18,2),(890,.iload 20,2),(892,.iadd,1),(893,.istore 16,2),(895,.iload 16,2),(897,.ldc 88,2),(899,.iadd,1),(900,.iload 19,2),(902,.if_icmp .ge 7,3),(905,.iconst 1,1),(906,.goto 4,3),(909,.iconst 0,1),(910,.istore 17,2),(912,.goto 75,3),(915,.iload 18,2),(917,.i2l,1),(918,.bipush 32,2),(920,.lshl,1),(921,.iload 20,2),(923,.i2l,1),(924,.ldc2_w 52,3),(927,.land,1),(928,.lor,1),(929,.lstore 21,2),(931,.lload 21,2),(933,.lconst 0,1),(934,.lcmp,1),(935,.ifCond .lt 26,3),(938,.lload 21,2),(940,.lload 12,2),(942,.ldiv,1),(943,.l2i,1),(944,.istore 15,2),(946,.lload 21,2),(948,.iload 15,2),(950,.i2l,1),(951,.lload 12,2),(953,.lmul,1),(954,.lsub,1),(955,.l2i,1),(956,.istore 16,2),(958,.goto 29,3),(961,.lload 21,2),(963,.iload 11,2),(965,.invokestatic 155,3),(968,.lstore 23,2),(970,.lload 23,2),(972,.ldc2_w 52,3),(975,.land,1),(976,.l2i,1),(977,.istore 15,2),(979,.lload 23,2),(981,.bipush 32,2),(983,.lushr,1),(984,.l2i,1),(985,.istore 16,2),(987,.iload 15,2),(989,.ifCond .eq 272,3),(992,.iload 17,2),(994,.ifCond .ne 139,3),(997,.aload 7,2),(999,.getfield 17,3),(1002,.iload 9,2),(1004,.iconst 1,1),(1005,.iadd,1),(1006,.aload 7,2),(1008,.getfield 11,3),(1011,.iadd,1),(1012,.iaload,1),(1013,.i2l,1),(1014,.ldc2_w 52,3),(1017,.land,1),(1018,.lstore 21,2),(1020,.iload 16,2),(1022,.i2l,1),(1023,.ldc2_w 52,3),(1026,.land,1),(1027,.bipush 32,2),(1029,.lshl,1),(1030,.lload 21,2),(1032,.lor,1),(1033,.lstore 23,2),(1035,.iload 14,2),(1037,.i2l,1),(1038,.ldc2_w 52,3),(1041,.land,1),(1042,.iload 15,2),(1044,.i2l,1),(1045,.ldc2_w 52,3),(1048,.land,1),(1049,.lmul,1),(1050,.lstore 25,2),(1052,.aload_n 0,1),(1053,.lload 25,2),(1055,.lload 23,2),(1057,.invokevirtual 273,3),(1060,.ifCond .eq 73,3),(1063,.iinc 15 (-1),3),(1066,.iload 16,2),(1068,.i2l,1),(1069,.ldc2_w 52,3),(1072,.land,1),(1073,.lload 12,2),(1075,.ladd,1),(1076,.l2i,1),(1077,.istore 16,2),(1079,.iload 16,2),(1081,.i2l,1),(1082,.ldc2_w 52,3),(1085,.land,1),(1086,.lload 12,2),(1088,.lcmp,1),(1089,.ifCond .lt 44,3),(1092,.lload 25,2),(1094,.iload 14,2),(1096,.i2l,1),(1097,.ldc2_w 52,3),(1100,.land,1),(1101,.lsub,1),(1102,.lstore 25,2),(1104,.iload 16,2),(1106,.i2l,1),(1107,.ldc2_w 52,3),(1110,.land,1),(1111,.bipush 32,2),(1113,.lshl,1),(1114,.lload 21,2),(1116,.lor,1),(1117,.lstore 23,2),(1119,.aload_n 0,1),(1120,.lload 25,2),(1122,.lload 23,2),(1124,.invokevirtual 273,3),(1127,.ifCond .eq 6,3),(1130,.iinc 15 (-1),3),(1133,.aload 7,2),(1135,.getfield 17,3),(1138,.iload 9,2),(1140,.iconst 1,1),(1141,.isub,1),(1142,.aload 7,2),(1144,.getfield 11,3),(1147,.iadd,1),(1148,.iconst 0,1),(1149,.iastore,1),(1150,.iload_n 3,1),(1151,.ifCond .eq 33,3),(1154,.aload_n 0,1),(1155,.aload 7,2),(1157,.getfield 17,3),(1160,.aload 6,2),(1162,.iload 15,2),(1164,.iload 5,2),(1166,.iload 9,2),(1168,.iconst 1,1),(1169,.isub,1),(1170,.aload 7,2),(1172,.getfield 11,3),(1175,.iadd,1),(1176,.invokevirtual 277,3),(1179,.istore 21,2),(1181,.goto 30,3),(1184,.aload_n 0,1),(1185,.aload 7,2),(1187,.getfield 17,3),(1190,.aload 6,2),(1192,.iload 15,2),(1194,.iload 5,2),(1196,.iload 9,2),(1198,.iconst 1,1),(1199,.isub,1),(1200,.aload 7,2),(1202,.getfield 11,3),(1205,.iadd,1),(1206,.invokevirtual 285,3),(1209,.istore 21,2),(1211,.iload 21,2),(1213,.ldc 88,2),(1215,.iadd,1),(1216,.iload 19,2),(1218,.if_icmp .le 34,3),(1221,.iload_n 3,1),(1222,.ifCond .eq 27,3),(1225,.aload_n 0,1),(1226,.aload 6,2),(1228,.aload 7,2),(1230,.getfield 17,3),(1233,.iload 9,2),(1235,.iconst 1,1),(1236,.isub,1),(1237,.iconst 1,1),(1238,.iadd,1),(1239,.aload 7,2),(1241,.getfield 11,3),(1244,.iadd,1),(1245,.invokevirtual 281,3),(1248,.pop,1),(1249,.iinc 15 (-1),3),(1252,.aload 10,2),(1254,.iload 9,2),(1256,.iconst 1,1),(1257,.isub,1),(1258,.iload 15,2),(1260,.iastore,1),(1261,.iload_n 3,1),(1262,.ifCond .eq 20,3),(1265,.iload 4,2),(1267,.ifCond .le 10,3),(1270,.aload 7,2),(1272,.iload 4,2),(1274,.invokevirtual 108,3),(1277,.aload 7,2),(1279,.invokevirtual 64,3),(1282,.aload_n 2,1),(1283,.invokevirtual 64,3),(1286,.iload_n 3,1),(1287,.ifCond .eq 8,3),(1290,.aload 7,2),(1292,.goto 4,3),(1295,.aconst_null,1),(1296,.areturn,1)]
theorem o_j5: ∀x∈(o_au).take 40,decode jdk_2101_method_65_code x.1= .ok (x.2.1,x.2.2):=by decide+kernel
theorem o_j6: ∀x∈((o_au).drop 40).take 40,decode jdk_2101_method_65_code x.1= .ok (x.2.1,x.2.2):=by decide+kernel
theorem o_j7: ∀x∈(((o_au).drop 40).drop 40).take 40,decode jdk_2101_method_65_code x.1= .ok (x.2.1,x.2.2):=by decide+kernel
theorem o_j8: ∀x∈((((o_au).drop 40).drop 40).drop 40).take 40,decode jdk_2101_method_65_code x.1= .ok (x.2.1,x.2.2):=by decide+kernel
theorem o_j9: ∀x∈(((((o_au).drop 40).drop 40).drop 40).drop 40).take 40,decode jdk_2101_method_65_code x.1= .ok (x.2.1,x.2.2):=by decide+kernel
theorem o_j_: ∀x∈((((((o_au).drop 40).drop 40).drop 40).drop 40).drop 40).take 40,decode jdk_2101_method_65_code x.1= .ok (x.2.1,x.2.2):=by decide+kernel
theorem o_j': ∀x∈(((((((o_au).drop 40).drop 40).drop 40).drop 40).drop 40).drop 40).take 40,decode jdk_2101_method_65_code x.1= .ok (x.2.1,x.2.2):=by decide+kernel
theorem o_ka: ∀x∈((((((((o_au).drop 40).drop 40).drop 40).drop 40).drop 40).drop 40).drop 40).take 40,decode jdk_2101_method_65_code x.1= .ok (x.2.1,x.2.2):=by decide+kernel
theorem o_kb: ∀x∈(((((((((o_au).drop 40).drop 40).drop 40).drop 40).drop 40).drop 40).drop 40).drop 40).take 40,decode jdk_2101_method_65_code x.1= .ok (x.2.1,x.2.2):=by decide+kernel
theorem o_kc: ∀x∈((((((((((o_au).drop 40).drop 40).drop 40).drop 40).drop 40).drop 40).drop 40).drop 40).drop 40).take 40,decode jdk_2101_method_65_code x.1= .ok (x.2.1,x.2.2):=by decide+kernel
theorem o_kd: ∀x∈(((((((((((o_au).drop 40).drop 40).drop 40).drop 40).drop 40).drop 40).drop 40).drop 40).drop 40).drop 40).take 40,decode jdk_2101_method_65_code x.1= .ok (x.2.1,x.2.2):=by decide+kernel
theorem o_ke: ∀x∈((((((((((((o_au).drop 40).drop 40).drop 40).drop 40).drop 40).drop 40).drop 40).drop 40).drop 40).drop 40).drop 40).take 40,decode jdk_2101_method_65_code x.1= .ok (x.2.1,x.2.2):=by decide+kernel
theorem o_kf: ∀x∈(((((((((((((o_au).drop 40).drop 40).drop 40).drop 40).drop 40).drop 40).drop 40).drop 40).drop 40).drop 40).drop 40).drop 40).take 40,decode jdk_2101_method_65_code x.1= .ok (x.2.1,x.2.2):=by decide+kernel
theorem o_kg: ∀x∈((((((((((((((o_au).drop 40).drop 40).drop 40).drop 40).drop 40).drop 40).drop 40).drop 40).drop 40).drop 40).drop 40).drop 40).drop 40).take 40,decode jdk_2101_method_65_code x.1= .ok (x.2.1,x.2.2):=by decide+kernel
theorem o_kh: ∀x∈(((((((((((((((o_au).drop 40).drop 40).drop 40).drop 40).drop 40).drop 40).drop 40).drop 40).drop 40).drop 40).drop 40).drop 40).drop 40).drop 40).take 40,decode jdk_2101_method_65_code x.1= .ok (x.2.1,x.2.2):=by decide+kernel
theorem o_ki: ∀x∈((((((((((((((((o_au).drop 40).drop 40).drop 40).drop 40).drop 40).drop 40).drop 40).drop 40).drop 40).drop 40).drop 40).drop 40).drop 40).drop 40).drop 40).take 40,decode jdk_2101_method_65_code x.1= .ok (x.2.1,x.2.2):=by decide+kernel
theorem o_kj: ∀x∈(((((((((((((((((o_au).drop 40).drop 40).drop 40).drop 40).drop 40).drop 40).drop 40).drop 40).drop 40).drop 40).drop 40).drop 40).drop 40).drop 40).drop 40).drop 40).take 40,decode jdk_2101_method_65_code x.1= .ok (x.2.1,x.2.2):=by decide+kernel
theorem o_kk: ∀x∈(((((((((((((((((o_au).drop 40).drop 40).drop 40).drop 40).drop 40).drop 40).drop 40).drop 40).drop 40).drop 40).drop 40).drop 40).drop 40).drop 40).drop 40).drop 40).drop 40,decode jdk_2101_method_65_code x.1= .ok (x.2.1,x.2.2):=by decide+kernel
theorem o_bV: ∀x∈o_au,decode jdk_2101_method_65_code x.1= .ok (x.2.1,x.2.2):=(o_Z 40 o_j5 (o_Z 40 o_j6 (o_Z 40 o_j7 (o_Z 40 o_j8 (o_Z 40 o_j9 (o_Z 40 o_j_ (o_Z 40 o_j' (o_Z 40 o_ka (o_Z 40 o_kb (o_Z 40 o_kc (o_Z 40 o_kd (o_Z 40 o_ke (o_Z 40 o_kf (o_Z 40 o_kg (o_Z 40 o_kh (o_Z 40 o_ki (o_Z 40 o_kj o_kk)))))))))))))))))
def o_kl:List (Nat×Jvm.ClassFile.Instr×Nat):= [(0,.iload_n 3,1),(1,.i2l,1),(2,.ldc2_w 52,3),(5,.land,1),(6,.lstore 6,2),(8,.lconst 0,1),(9,.lstore 8,2),(11,.iload 5,2),(13,.iload 4,2),(15,.iadd,1),(16,.istore 5,2),(18,.iload 4,2),(20,.iconst 1,1),(21,.isub,1),(22,.istore 10,2),(24,.iload 10,2),(26,.ifCond .lt 80,3),(29,.aload_n 2,1),(30,.iload 10,2),(32,.iaload,1),(33,.i2l,1),(34,.ldc2_w 52,3),(37,.land,1),(38,.lload 6,2),(40,.lmul,1),(41,.lload 8,2),(43,.ladd,1),(44,.lstore 11,2),(46,.aload_n 1,1),(47,.iload 5,2),(49,.iaload,1),(50,.i2l,1),(51,.lload 11,2),(53,.lsub,1),(54,.lstore 13,2),(56,.aload_n 1,1),(57,.iload 5,2),(59,.iinc 5 (-1),3),(62,.lload 13,2),(64,.l2i,1),(65,.iastore,1),(66,.lload 11,2),(68,.bipush 32,2),(70,.lushr,1),(71,.lload 13,2),(73,.ldc2_w 52,3),(76,.land,1),(77,.lload 11,2),(79,.l2i,1),(80,.iconst (-1),1),(81,.ixor,1),(82,.i2l,1),(83,.ldc2_w 52,3),(86,.land,1),(87,.lcmp,1),(88,.ifCond .le 7,3),(91,.iconst 1,1),(92,.goto 4,3),(95,.iconst 0,1),(96,.i2l,1),(97,.ladd,1),(98,.lstore 8,2),(100,.iinc 10 (-1),3),(103,.goto (-79),3),(106,.lload 8,2),(108,.l2i,1),(109,.ireturn,1)]
theorem o_fH: ∀x∈o_kl,decode jdk_2101_method_39_code x.1= .ok (x.2.1,x.2.2):=by decide+kernel
def o_km:List (Nat×Jvm.ClassFile.Instr×Nat):= [(0,.bipush 32,2),(2,.iload_n 0,1),(3,.invokestatic 602,3),(6,.isub,1),(7,.ireturn,1)]
theorem o_kn: ∀x∈o_km,decode jdk_2097_method_74_code x.1= .ok (x.2.1,x.2.2):=by decide+kernel
def o_ko:List (Nat×Jvm.ClassFile.Instr×Nat):= [(0,.aload_n 0,1),(1,.getfield 17,3),(4,.astore_n 2,1),(5,.bipush 32,2),(7,.iload_n 1,1),(8,.isub,1),(9,.istore_n 3,1),(10,.aload_n 0,1),(11,.getfield 11,3),(14,.istore 4,2),(16,.aload_n 2,1),(17,.iload 4,2),(19,.iaload,1),(20,.istore 5,2),(22,.iload 4,2),(24,.aload_n 0,1),(25,.getfield 21,3),(28,.iadd,1),(29,.iconst 1,1),(30,.isub,1),(31,.istore 6,2),(33,.iload 4,2),(35,.iload 6,2),(37,.if_icmp .ge 34,3),(40,.iload 5,2),(42,.istore 7,2),(44,.aload_n 2,1),(45,.iload 4,2),(47,.iconst 1,1),(48,.iadd,1),(49,.iaload,1),(50,.istore 5,2),(52,.aload_n 2,1),(53,.iload 4,2),(55,.iload 7,2),(57,.iload_n 1,1),(58,.ishl,1),(59,.iload 5,2),(61,.iload_n 3,1),(62,.iushr,1),(63,.ior,1),(64,.iastore,1),(65,.iinc 4 1,3),(68,.goto (-35),3),(71,.aload_n 2,1),(72,.aload_n 0,1),(73,.getfield 11,3),(76,.aload_n 0,1),(77,.getfield 21,3),(80,.iadd,1),(81,.iconst 1,1),(82,.isub,1),(83,.dup2,1),(84,.iaload,1),(85,.iload_n 1,1),(86,.ishl,1),(87,.iastore,1),(88,.return_,1)]
theorem o_fI: ∀x∈o_ko,decode jdk_2101_method_42_code x.1= .ok (x.2.1,x.2.2):=by decide+kernel
def o_kp:List (Nat×Jvm.ClassFile.Instr×Nat):= [(0,.aload_n 0,1),(1,.getfield 21,3),(4,.ifCond .ne 4,3),(7,.return_,1),(8,.iload_n 1,1),(9,.iconst 5,1),(10,.iushr,1),(11,.istore_n 2,1),(12,.iload_n 1,1),(13,.bipush 31,2),(15,.iand,1),(16,.istore_n 3,1),(17,.aload_n 0,1),(18,.dup,1),(19,.getfield 21,3),(22,.iload_n 2,1),(23,.isub,1),(24,.putfield 21,3),(27,.iload_n 3,1),(28,.ifCond .ne 4,3),(31,.return_,1),(32,.aload_n 0,1),(33,.getfield 17,3),(36,.aload_n 0,1),(37,.getfield 11,3),(40,.iaload,1),(41,.invokestatic 112,3),(44,.istore 4,2),(46,.iload_n 3,1),(47,.iload 4,2),(49,.if_icmp .lt 24,3),(52,.aload_n 0,1),(53,.bipush 32,2),(55,.iload_n 3,1),(56,.isub,1),(57,.invokevirtual 115,3),(60,.aload_n 0,1),(61,.dup,1),(62,.getfield 21,3),(65,.iconst 1,1),(66,.isub,1),(67,.putfield 21,3),(70,.goto 8,3),(73,.aload_n 0,1),(74,.iload_n 3,1),(75,.invokevirtual 118,3),(78,.return_,1)]
theorem o_fJ: ∀x∈o_kp,decode jdk_2101_method_35_code x.1= .ok (x.2.1,x.2.2):=by decide+kernel
def o_kq:List (Nat×Jvm.ClassFile.Instr×Nat):= [(0,.aload_n 0,1),(1,.getfield 21,3),(4,.ifCond .ne 9,3),(7,.aload_n 0,1),(8,.iconst 0,1),(9,.putfield 11,3),(12,.return_,1),(13,.aload_n 0,1),(14,.getfield 11,3),(17,.istore_n 1,1),(18,.aload_n 0,1),(19,.getfield 17,3),(22,.iload_n 1,1),(23,.iaload,1),(24,.ifCond .eq 4,3),(27,.return_,1),(28,.iload_n 1,1),(29,.aload_n 0,1),(30,.getfield 21,3),(33,.iadd,1),(34,.istore_n 2,1),(35,.iinc 1 1,3),(38,.iload_n 1,1),(39,.iload_n 2,1),(40,.if_icmp .ge 12,3),(43,.aload_n 0,1),(44,.getfield 17,3),(47,.iload_n 1,1),(48,.iaload,1),(49,.ifCond .eq (-14),3),(52,.iload_n 1,1),(53,.aload_n 0,1),(54,.getfield 11,3),(57,.isub,1),(58,.istore_n 3,1),(59,.aload_n 0,1),(60,.dup,1),(61,.getfield 21,3),(64,.iload_n 3,1),(65,.isub,1),(66,.putfield 21,3),(69,.aload_n 0,1),(70,.aload_n 0,1),(71,.getfield 21,3),(74,.ifCond .ne 7,3),(77,.iconst 0,1),(78,.goto 9,3),(81,.aload_n 0,1),(82,.getfield 11,3),(85,.iload_n 3,1),(86,.iadd,1),(87,.putfield 11,3),(90,.return_,1)]
theorem o_fK: ∀x∈o_kq,decode jdk_2101_method_21_code x.1= .ok (x.2.1,x.2.2):=by decide+kernel
def o_kr:List (Nat×Jvm.ClassFile.Instr×Nat):= [(0,.bipush 32,2),(2,.iload 5,2),(4,.isub,1),(5,.istore 6,2),(7,.aload_n 0,1),(8,.iload_n 1,1),(9,.iaload,1),(10,.istore 7,2),(12,.iconst 0,1),(13,.istore 8,2),(15,.iload 8,2),(17,.iload_n 2,1),(18,.iconst 1,1),(19,.isub,1),(20,.if_icmp .ge 39,3),(23,.iload 7,2),(25,.istore 9,2),(27,.aload_n 0,1),(28,.iinc 1 1,3),(31,.iload_n 1,1),(32,.iaload,1),(33,.istore 7,2),(35,.aload_n 3,1),(36,.iload 4,2),(38,.iload 8,2),(40,.iadd,1),(41,.iload 9,2),(43,.iload 5,2),(45,.ishl,1),(46,.iload 7,2),(48,.iload 6,2),(50,.iushr,1),(51,.ior,1),(52,.iastore,1),(53,.iinc 8 1,3),(56,.goto (-41),3),(59,.aload_n 3,1),(60,.iload 4,2),(62,.iload_n 2,1),(63,.iadd,1),(64,.iconst 1,1),(65,.isub,1),(66,.iload 7,2),(68,.iload 5,2),(70,.ishl,1),(71,.iastore,1),(72,.return_,1)]
theorem o_fL: ∀x∈o_kr,decode jdk_2101_method_64_code x.1= .ok (x.2.1,x.2.2):=by decide+kernel
def o_ks:List (Nat×Jvm.ClassFile.Instr×Nat):= [(0,.iconst 0,1),(1,.istore_n 2,1),(2,.aload_n 0,1),(3,.arraylength,1),(4,.istore_n 3,1),(5,.iload_n 2,1),(6,.iload_n 3,1),(7,.if_icmp .ge 13,3),(10,.aload_n 0,1),(11,.iload_n 2,1),(12,.iload_n 1,1),(13,.iastore,1),(14,.iinc 2 1,3),(17,.goto (-12),3),(20,.return_,1)]
theorem o_fM: ∀x∈o_ks,decode jdk_65_method_103_code x.1= .ok (x.2.1,x.2.2):=by decide+kernel
def o_kt:List (Nat×Jvm.ClassFile.Instr×Nat):= [(0,.aload_n 0,1),(1,.getfield 11,3),(4,.ifCond .gt 15,3),(7,.aload_n 0,1),(8,.getfield 17,3),(11,.arraylength,1),(12,.aload_n 0,1),(13,.getfield 21,3),(16,.if_icmp .eq 48,3),(19,.aload_n 0,1),(20,.getfield 17,3),(23,.aload_n 0,1),(24,.getfield 11,3),(27,.aload_n 0,1),(28,.getfield 11,3),(31,.aload_n 0,1),(32,.getfield 21,3),(35,.iadd,1),(36,.invokestatic 33,3),(39,.astore_n 1,1),(40,.aload_n 0,1),(41,.getfield 17,3),(44,.iconst 0,1),(45,.invokestatic 37,3),(48,.aload_n 0,1),(49,.iconst 0,1),(50,.putfield 11,3),(53,.aload_n 0,1),(54,.aload_n 1,1),(55,.arraylength,1),(56,.putfield 21,3),(59,.aload_n 0,1),(60,.aload_n 1,1),(61,.putfield 17,3),(64,.aload_n 0,1),(65,.getfield 17,3),(68,.areturn,1)]
theorem o_ku: ∀x∈o_kt,decode jdk_2101_method_7_code x.1= .ok (x.2.1,x.2.2):=by decide+kernel
def o_kv:List (Nat×Jvm.ClassFile.Instr×Nat):= [(0,.aload_n 0,1),(1,.getfield 21,3),(4,.ifCond .eq 7,3),(7,.iload_n 1,1),(8,.ifCond .ne 7,3),(11,.getstatic 54,3),(14,.areturn,1),(15,.new 1,3),(18,.dup,1),(19,.aload_n 0,1),(20,.invokevirtual 58,3),(23,.iload_n 1,1),(24,.invokespecial 62,3),(27,.areturn,1)]
theorem o_c4: ∀x∈o_kv,decode jdk_2101_method_9_code x.1= .ok (x.2.1,x.2.2):=by decide+kernel
def o_bW:List (Nat×Jvm.ClassFile.Instr×Nat):= [(0,.iload_n 1,1),(1,.i2l,1),(2,.ldc2_w 52,3),(5,.land,1),(6,.lstore_n 3,1),(7,.aload_n 0,1),(8,.getfield 21,3),(11,.iconst 1,1),(12,.if_icmp .ne 67,3),(15,.aload_n 0,1),(16,.getfield 17,3),(19,.aload_n 0,1),(20,.getfield 11,3),(23,.iaload,1),(24,.i2l,1),(25,.ldc2_w 52,3),(28,.land,1),(29,.lstore 5,2),(31,.lload 5,2),(33,.lload_n 3,1),(34,.ldiv,1),(35,.l2i,1),(36,.istore 7,2),(38,.lload 5,2),(40,.iload 7,2),(42,.i2l,1),(43,.lload_n 3,1),(44,.lmul,1),(45,.lsub,1),(46,.l2i,1),(47,.istore 8,2),(49,.aload_n 2,1),(50,.getfield 17,3),(53,.iconst 0,1),(54,.iload 7,2),(56,.iastore,1),(57,.aload_n 2,1),(58,.iload 7,2),(60,.ifCond .ne 7,3),(63,.iconst 0,1),(64,.goto 4,3),(67,.iconst 1,1),(68,.putfield 21,3),(71,.aload_n 2,1),(72,.iconst 0,1),(73,.putfield 11,3),(76,.iload 8,2),(78,.ireturn,1),(79,.aload_n 2,1),(80,.getfield 17,3),(83,.arraylength,1),(84,.aload_n 0,1),(85,.getfield 21,3),(88,.if_icmp .ge 13,3),(91,.aload_n 2,1),(92,.aload_n 0,1),(93,.getfield 21,3),(96,.newarray .int,2),(98,.putfield 17,3),(101,.aload_n 2,1),(102,.iconst 0,1),(103,.putfield 11,3),(106,.aload_n 2,1),(107,.aload_n 0,1),(108,.getfield 21,3),(111,.putfield 21,3),(114,.iload_n 1,1),(115,.invokestatic 152,3),(118,.istore 5,2),(120,.aload_n 0,1),(121,.getfield 17,3),(124,.aload_n 0,1),(125,.getfield 11,3),(128,.iaload,1),(129,.istore 6,2),(131,.iload 6,2),(133,.i2l,1),(134,.ldc2_w 52,3),(137,.land,1),(138,.lstore 7,2),(140,.lload 7,2),(142,.lload_n 3,1),(143,.lcmp,1),(144,.ifCond .ge 13,3),(147,.aload_n 2,1),(148,.getfield 17,3),(151,.iconst 0,1),(152,.iconst 0,1),(153,.iastore,1),(154,.goto 38,3),(157,.aload_n 2,1),(158,.getfield 17,3),(161,.iconst 0,1),(162,.lload 7,2),(164,.lload_n 3,1),(165,.ldiv,1),(166,.l2i,1),(167,.iastore,1),(168,.lload 7,2),(170,.aload_n 2,1),(171,.getfield 17,3),(174,.iconst 0,1),(175,.iaload,1),(176,.i2l,1),(177,.lload_n 3,1),(178,.lmul,1),(179,.lsub,1),(180,.l2i,1),(181,.istore 6,2),(183,.iload 6,2),(185,.i2l,1),(186,.ldc2_w 52,3),(189,.land,1),(190,.lstore 7,2),(192,.aload_n 0,1),(193,.getfield 21,3),(196,.istore 9,2),(198,.iinc 9 (-1),3),(201,.iload 9,2),(203,.ifCond .le 112,3),(206,.lload 7,2),(208,.bipush 32,2),(210,.lshl,1),(211,.aload_n 0,1),(212,.getfield 17,3),(215,.aload_n 0,1),(216,.getfield 11,3),(219,.aload_n 0,1),(220,.getfield 21,3),(223,.iadd,1),(224,.iload 9,2),(226,.isub,1),(227,.iaload,1),(228,.i2l,1),(229,.ldc2_w 52,3),(232,.land,1),(233,.lor,1),(234,.lstore 10,2),(236,.lload 10,2),(238,.lconst 0,1),(239,.lcmp,1),(240,.ifCond .lt 24,3),(243,.lload 10,2),(245,.lload_n 3,1),(246,.ldiv,1),(247,.l2i,1),(248,.istore 12,2),(250,.lload 10,2),(252,.iload 12,2),(254,.i2l,1),(255,.lload_n 3,1),(256,.lmul,1),(257,.lsub,1),(258,.l2i,1),(259,.istore 6,2),(261,.goto 28,3),(264,.lload 10,2),(266,.iload_n 1,1),(267,.invokestatic 155,3),(270,.lstore 13,2),(272,.lload 13,2),(274,.ldc2_w 52,3),(277,.land,1),(278,.l2i,1),(279,.istore 12,2),(281,.lload 13,2),(283,.bipush 32,2),(285,.lushr,1),(286,.l2i,1),(287,.istore 6,2),(289,.aload_n 2,1),(290,.getfield 17,3),(293,.aload_n 0,1),(294,.getfield 21,3),(297,.iload 9,2),(299,.isub,1),(300,.iload 12,2),(302,.iastore,1),(303,.iload 6,2),(305,.i2l,1),(306,.ldc2_w 52,3),(309,.land,1),(310,.lstore 7,2),(312,.goto (-114),3),(315,.aload_n 2,1),(316,.invokevirtual 64,3),(319,.iload 5,2),(321,.ifCond .le 8,3),(324,.iload 6,2),(326,.iload_n 1,1),(327,.irem,1),(328,.ireturn,1),(329,.iload 6,2),(331,.ireturn,1)]
theorem o_kw: ∀x∈(o_bW).take 40,decode jdk_2101_method_53_code x.1= .ok (x.2.1,x.2.2):=by decide+kernel
theorem o_kx: ∀x∈((o_bW).drop 40).take 40,decode jdk_2101_method_53_code x.1= .ok (x.2.1,x.2.2):=by decide+kernel
theorem o_ky: ∀x∈(((o_bW).drop 40).drop 40).take 40,decode jdk_2101_method_53_code x.1= .ok (x.2.1,x.2.2):=by decide+kernel
theorem o_kz: ∀x∈((((o_bW).drop 40).drop 40).drop 40).take 40,decode jdk_2101_method_53_code x.1= .ok (x.2.1,x.2.2):=by decide+kernel
theorem o_kA: ∀x∈((((o_bW).drop 40).drop 40).drop 40).drop 40,decode jdk_2101_method_53_code x.1= .ok (x.2.1,x.2.2):=by decide+kernel
theorem o_c5: ∀x∈o_bW,decode jdk_2101_method_53_code x.1= .ok (x.2.1,x.2.2):=(o_Z 40 o_kw (o_Z 40 o_kx (o_Z 40 o_ky (o_Z 40 o_kz o_kA))))
def o_cf:List (Nat×Jvm.ClassFile.Instr×Nat):= [(0,.aload_n 1,1),(1,.getfield 21,3),(4,.ifCond .ne 13,3),(7,.new 170,3),(10,.dup,1),(11,.ldc 172,2),(13,.invokespecial 174,3),(16,.athrow,1),(17,.aload_n 0,1),(18,.getfield 21,3),(21,.ifCond .ne 29,3),(24,.aload_n 2,1),(25,.aload_n 2,1),(26,.iconst 0,1),(27,.dup_x1,1),(28,.putfield 11,3),(31,.putfield 21,3),(34,.iload_n 3,1),(35,.ifCond .eq 13,3),(38,.new 12,3),(41,.dup,1),(42,.invokespecial 177,3),(45,.goto 4,3),(48,.aconst_null,1),(49,.areturn,1),(50,.aload_n 0,1),(51,.aload_n 1,1),(52,.invokevirtual 142,3),(55,.istore 4,2),(57,.iload 4,2),(59,.ifCond .ge 30,3),(62,.aload_n 2,1),(63,.aload_n 2,1),(64,.iconst 0,1),(65,.dup_x1,1),(66,.putfield 11,3),(69,.putfield 21,3),(72,.iload_n 3,1),(73,.ifCond .eq 14,3),(76,.new 12,3),(79,.dup,1),(80,.aload_n 0,1),(81,.invokespecial 136,3),(84,.goto 4,3),(87,.aconst_null,1),(88,.areturn,1),(89,.iload 4,2),(91,.ifCond .ne 36,3),(94,.aload_n 2,1),(95,.getfield 17,3),(98,.iconst 0,1),(99,.aload_n 2,1),(100,.iconst 1,1),(101,.dup_x1,1),(102,.putfield 21,3),(105,.iastore,1),(106,.aload_n 2,1),(107,.iconst 0,1),(108,.putfield 11,3),(111,.iload_n 3,1),(112,.ifCond .eq 13,3),(115,.new 12,3),(118,.dup,1),(119,.invokespecial 177,3),(122,.goto 4,3),(125,.aconst_null,1),(126,.areturn,1),(127,.aload_n 2,1),(128,.invokevirtual 149,3),(131,.aload_n 1,1),(132,.getfield 21,3),(135,.iconst 1,1),(136,.if_icmp .ne 48,3),(139,.aload_n 0,1),(140,.aload_n 1,1),(141,.getfield 17,3),(144,.aload_n 1,1),(145,.getfield 11,3),(148,.iaload,1),(149,.aload_n 2,1),(150,.invokevirtual 178,3),(153,.istore 5,2),(155,.iload_n 3,1),(156,.ifCond .eq 26,3),(159,.iload 5,2),(161,.ifCond .ne 11,3),(164,.new 12,3),(167,.dup,1),(168,.invokespecial 177,3),(171,.areturn,1),(172,.new 12,3),(175,.dup,1),(176,.iload 5,2),(178,.invokespecial 182,3),(181,.areturn,1),(182,.aconst_null,1),(183,.areturn,1),(184,.aload_n 0,1),(185,.getfield 21,3),(188,.bipush 6,2),(190,.if_icmp .lt 74,3),(193,.aload_n 0,1),(194,.invokevirtual 184,3),(197,.aload_n 1,1),(198,.invokevirtual 184,3),(201,.invokestatic 130,3),(204,.istore 5,2),(206,.iload 5,2),(208,.bipush 96,2),(210,.if_icmp .lt 54,3),(213,.new 12,3),(216,.dup,1),(217,.aload_n 0,1),(218,.invokespecial 136,3),(221,.astore 6,2),(223,.new 12,3),(226,.dup,1),(227,.aload_n 1,1),(228,.invokespecial 136,3),(231,.astore_n 1,1),(232,.aload 6,2),(234,.iload 5,2),(236,.invokevirtual 108,3),(239,.aload_n 1,1),(240,.iload 5,2),(242,.invokevirtual 108,3),(245,.aload 6,2),(247,.aload_n 1,1),(248,.aload_n 2,1),(249,.invokevirtual 188,3),(252,.astore 7,2),(254,.aload 7,2),(256,.iload 5,2),(258,.invokevirtual 121,3),(261,.aload 7,2),(263,.areturn,1),(264,.aload_n 0,1),(265,.aload_n 1,1),(266,.aload_n 2,1),(267,.iload_n 3,1),(268,.invokevirtual 190,3),(271,.areturn,1)]
theorem o_kB: ∀x∈(o_cf).take 40,decode jdk_2101_method_57_code x.1= .ok (x.2.1,x.2.2):=by decide+kernel
theorem o_kC: ∀x∈((o_cf).drop 40).take 40,decode jdk_2101_method_57_code x.1= .ok (x.2.1,x.2.2):=by decide+kernel
theorem o_kD: ∀x∈(((o_cf).drop 40).drop 40).take 40,decode jdk_2101_method_57_code x.1= .ok (x.2.1,x.2.2):=by decide+kernel
theorem o_kE: ∀x∈(((o_cf).drop 40).drop 40).drop 40,decode jdk_2101_method_57_code x.1= .ok (x.2.1,x.2.2):=by decide+kernel
theorem o_fN: ∀x∈o_cf,decode jdk_2101_method_57_code x.1= .ok (x.2.1,x.2.2):=(o_Z 40 o_kB (o_Z 40 o_kC (o_Z 40 o_kD o_kE)))
def o_kF:List (Nat×Jvm.ClassFile.Instr×Nat):= [(0,.aload_n 0,1),(1,.aload_n 1,1),(2,.aload_n 2,1),(3,.iconst 1,1),(4,.invokevirtual 163,3),(7,.areturn,1)]
theorem o_kG: ∀x∈o_kF,decode jdk_2101_method_56_code x.1= .ok (x.2.1,x.2.2):=by decide+kernel
def o_kH:List (Nat×Jvm.ClassFile.Instr×Nat):= [(0,.iconst 2,1),(1,.anewarray 23,3),(4,.astore_n 2,1),(5,.new 541,3),(8,.dup,1),(9,.invokespecial 543,3),(12,.astore_n 3,1),(13,.new 541,3),(16,.dup,1),(17,.aload_n 0,1),(18,.getfield 28,3),(21,.invokespecial 544,3),(24,.astore 4,2),(26,.new 541,3),(29,.dup,1),(30,.aload_n 1,1),(31,.getfield 28,3),(34,.invokespecial 544,3),(37,.astore 5,2),(39,.aload 4,2),(41,.aload 5,2),(43,.aload_n 3,1),(44,.invokevirtual 558,3),(47,.astore 6,2),(49,.aload_n 2,1),(50,.iconst 0,1),(51,.aload_n 3,1),(52,.aload_n 0,1),(53,.getfield 32,3),(56,.aload_n 1,1),(57,.getfield 32,3),(60,.if_icmp .ne 7,3),(63,.iconst 1,1),(64,.goto 4,3),(67,.iconst (-1),1),(68,.invokevirtual 548,3),(71,.aastore,1),(72,.aload_n 2,1),(73,.iconst 1,1),(74,.aload 6,2),(76,.aload_n 0,1),(77,.getfield 32,3),(80,.invokevirtual 548,3),(83,.aastore,1),(84,.aload_n 2,1),(85,.areturn,1)]
theorem o_fO: ∀x∈o_kH,decode jdk_2097_method_64_code x.1= .ok (x.2.1,x.2.2):=by decide+kernel
def o_kI:List (Nat×Jvm.ClassFile.Instr×Nat):= [(0,.aload_n 1,1),(1,.getfield 28,3),(4,.arraylength,1),(5,.bipush 80,2),(7,.if_icmp .lt 19,3),(10,.aload_n 0,1),(11,.getfield 28,3),(14,.arraylength,1),(15,.aload_n 1,1),(16,.getfield 28,3),(19,.arraylength,1),(20,.isub,1),(21,.bipush 40,2),(23,.if_icmp .ge 9,3),(26,.aload_n 0,1),(27,.aload_n 1,1),(28,.invokevirtual 551,3),(31,.areturn,1),(32,.aload_n 0,1),(33,.aload_n 1,1),(34,.invokevirtual 555,3),(37,.areturn,1)]
theorem o_kJ: ∀x∈o_kI,decode jdk_2097_method_63_code x.1= .ok (x.2.1,x.2.2):=by decide+kernel
def o_cg:List (Nat×Jvm.ClassFile.Instr×Nat):= [(0,.aload_n 0,1),(1,.arraylength,1),(2,.aload_n 1,1),(3,.arraylength,1),(4,.if_icmp .ge 9,3),(7,.aload_n 0,1),(8,.astore_n 2,1),(9,.aload_n 1,1),(10,.astore_n 0,1),(11,.aload_n 2,1),(12,.astore_n 1,1),(13,.aload_n 0,1),(14,.arraylength,1),(15,.istore_n 2,1),(16,.aload_n 1,1),(17,.arraylength,1),(18,.istore_n 3,1),(19,.iload_n 2,1),(20,.newarray .int,2),(22,.astore 4,2),(24,.lconst 0,1),(25,.lstore 5,2),(27,.iload_n 3,1),(28,.iconst 1,1),(29,.if_icmp .ne 35,3),(32,.aload_n 0,1),(33,.iinc 2 (-1),3),(36,.iload_n 2,1),(37,.iaload,1),(38,.i2l,1),(39,.ldc2_w 130,3),(42,.land,1),(43,.aload_n 1,1),(44,.iconst 0,1),(45,.iaload,1),(46,.i2l,1),(47,.ldc2_w 130,3),(50,.land,1),(51,.ladd,1),(52,.lstore 5,2),(54,.aload 4,2),(56,.iload_n 2,1),(57,.lload 5,2),(59,.l2i,1),(60,.iastore,1),(61,.goto 48,3),(64,.iload_n 3,1),(65,.ifCond .le 44,3),(68,.aload_n 0,1),(69,.iinc 2 (-1),3),(72,.iload_n 2,1),(73,.iaload,1),(74,.i2l,1),(75,.ldc2_w 130,3),(78,.land,1),(79,.aload_n 1,1),(80,.iinc 3 (-1),3),(83,.iload_n 3,1),(84,.iaload,1),(85,.i2l,1),(86,.ldc2_w 130,3),(89,.land,1),(90,.ladd,1),(91,.lload 5,2),(93,.bipush 32,2),(95,.lushr,1),(96,.ladd,1),(97,.lstore 5,2),(99,.aload 4,2),(101,.iload_n 2,1),(102,.lload 5,2),(104,.l2i,1),(105,.iastore,1),(106,.goto (-42),3),(109,.lload 5,2),(111,.bipush 32,2),(113,.lushr,1),(114,.lconst 0,1),(115,.lcmp,1),(116,.ifCond .eq 7,3),(119,.iconst 1,1),(120,.goto 4,3),(123,.iconst 0,1),(124,.istore 7,2),(126,.iload_n 2,1),(127,.ifCond .le 34,3),(130,.iload 7,2),(132,.ifCond .eq 29,3),(135,.aload 4,2),(137,.iinc 2 (-1),3),(140,.iload_n 2,1),(141,.aload_n 0,1),(142,.iload_n 2,1),(143,.iaload,1),(144,.iconst 1,1),(145,.iadd,1),(146,.dup_x2,1),(147,.iastore,1),(148,.ifCond .ne 7,3),(151,.iconst 1,1),(152,.goto 4,3),(155,.iconst 0,1),(156,.istore 7,2),(158,.goto (-32),3),(161,.iload_n 2,1),(162,.ifCond .le 16,3),(165,.aload 4,2),(167,.iinc 2 (-1),3),(170,.iload_n 2,1),(171,.aload_n 0,1),(172,.iload_n 2,1),(173,.iaload,1),(174,.iastore,1),(175,.goto (-14),3),(178,.iload 7,2),(180,.ifCond .eq 32,3),(183,.aload 4,2),(185,.arraylength,1),(186,.iconst 1,1),(187,.iadd,1),(188,.newarray .int,2),(190,.astore 8,2),(192,.aload 4,2),(194,.iconst 0,1),(195,.aload 8,2),(197,.iconst 1,1),(198,.aload 4,2),(200,.arraylength,1),(201,.invokestatic 388,3),(204,.aload 8,2),(206,.iconst 0,1),(207,.iconst 1,1),(208,.iastore,1),(209,.aload 8,2),(211,.areturn,1),(212,.aload 4,2),(214,.areturn,1)]
theorem o_kK: ∀x∈(o_cg).take 40,decode jdk_2097_method_35_code x.1= .ok (x.2.1,x.2.2):=by decide+kernel
theorem o_kL: ∀x∈((o_cg).drop 40).take 40,decode jdk_2097_method_35_code x.1= .ok (x.2.1,x.2.2):=by decide+kernel
theorem o_kM: ∀x∈(((o_cg).drop 40).drop 40).take 40,decode jdk_2097_method_35_code x.1= .ok (x.2.1,x.2.2):=by decide+kernel
theorem o_kN: ∀x∈(((o_cg).drop 40).drop 40).drop 40,decode jdk_2097_method_35_code x.1= .ok (x.2.1,x.2.2):=by decide+kernel
theorem o_c6: ∀x∈o_cg,decode jdk_2097_method_35_code x.1= .ok (x.2.1,x.2.2):=(o_Z 40 o_kK (o_Z 40 o_kL (o_Z 40 o_kM o_kN)))
def o_kO:List (Nat×Jvm.ClassFile.Instr×Nat):= [(0,.aload_n 1,1),(1,.getfield 32,3),(4,.ifCond .ne 5,3),(7,.aload_n 0,1),(8,.areturn,1),(9,.aload_n 0,1),(10,.getfield 32,3),(13,.ifCond .ne 5,3),(16,.aload_n 1,1),(17,.areturn,1),(18,.aload_n 1,1),(19,.getfield 32,3),(22,.aload_n 0,1),(23,.getfield 32,3),(26,.if_icmp .ne 26,3),(29,.new 23,3),(32,.dup,1),(33,.aload_n 0,1),(34,.getfield 28,3),(37,.aload_n 1,1),(38,.getfield 28,3),(41,.invokestatic 362,3),(44,.aload_n 0,1),(45,.getfield 32,3),(48,.invokespecial 175,3),(51,.areturn,1),(52,.aload_n 0,1),(53,.aload_n 1,1),(54,.invokevirtual 365,3),(57,.istore_n 2,1),(58,.iload_n 2,1),(59,.ifCond .ne 7,3),(62,.getstatic 22,3),(65,.areturn,1),(66,.iload_n 2,1),(67,.ifCond .le 17,3),(70,.aload_n 0,1),(71,.getfield 28,3),(74,.aload_n 1,1),(75,.getfield 28,3),(78,.invokestatic 368,3),(81,.goto 14,3),(84,.aload_n 1,1),(85,.getfield 28,3),(88,.aload_n 0,1),(89,.getfield 28,3),(92,.invokestatic 368,3),(95,.astore_n 3,1),(96,.aload_n 3,1),(97,.invokestatic 53,3),(100,.astore_n 3,1),(101,.new 23,3),(104,.dup,1),(105,.aload_n 3,1),(106,.iload_n 2,1),(107,.aload_n 0,1),(108,.getfield 32,3),(111,.if_icmp .ne 7,3),(114,.iconst 1,1),(115,.goto 4,3),(118,.iconst (-1),1),(119,.invokespecial 175,3),(122,.areturn,1)]
theorem o_ch: ∀x∈o_kO,decode jdk_2097_method_32_code x.1= .ok (x.2.1,x.2.2):=by decide+kernel
def o_kP:List (Nat×Jvm.ClassFile.Instr×Nat):= [(0,.aload_n 0,1),(1,.getfield 28,3),(4,.astore_n 2,1),(5,.aload_n 2,1),(6,.arraylength,1),(7,.istore_n 3,1),(8,.aload_n 1,1),(9,.getfield 28,3),(12,.astore 4,2),(14,.aload 4,2),(16,.arraylength,1),(17,.istore 5,2),(19,.iload_n 3,1),(20,.iload 5,2),(22,.if_icmp .ge 5,3),(25,.iconst (-1),1),(26,.ireturn,1),(27,.iload_n 3,1),(28,.iload 5,2),(30,.if_icmp .le 5,3),(33,.iconst 1,1),(34,.ireturn,1),(35,.iconst 0,1),(36,.istore 6,2),(38,.iload 6,2),(40,.iload_n 3,1),(41,.if_icmp .ge 53,3),(44,.aload_n 2,1),(45,.iload 6,2),(47,.iaload,1),(48,.istore 7,2),(50,.aload 4,2),(52,.iload 6,2),(54,.iaload,1),(55,.istore 8,2),(57,.iload 7,2),(59,.iload 8,2),(61,.if_icmp .eq 27,3),(64,.iload 7,2),(66,.i2l,1),(67,.ldc2_w 130,3),(70,.land,1),(71,.iload 8,2),(73,.i2l,1),(74,.ldc2_w 130,3),(77,.land,1),(78,.lcmp,1),(79,.ifCond .ge 7,3),(82,.iconst (-1),1),(83,.goto 4,3),(86,.iconst 1,1),(87,.ireturn,1),(88,.iinc 6 1,3),(91,.goto (-53),3),(94,.iconst 0,1),(95,.ireturn,1)]
theorem o_fP: ∀x∈o_kP,decode jdk_2097_method_122_code x.1= .ok (x.2.1,x.2.2):=by decide+kernel
def o_kQ:List (Nat×Jvm.ClassFile.Instr×Nat):= [(0,.aload_n 0,1),(1,.getfield 32,3),(4,.aload_n 1,1),(5,.getfield 32,3),(8,.if_icmp .ne 50,3),(11,.aload_n 0,1),(12,.getfield 32,3),(40,.aload_n 0,1),(41,.aload_n 1,1),(42,.invokevirtual 365,3),(45,.goto 12,3),(48,.aload_n 1,1),(49,.aload_n 0,1),(50,.invokevirtual 365,3),(53,.goto 4,3),(56,.iconst 0,1),(57,.ireturn,1),(58,.aload_n 0,1),(59,.getfield 32,3),(62,.aload_n 1,1),(63,.getfield 32,3),(66,.if_icmp .le 7,3),(69,.iconst 1,1),(70,.goto 4,3),(73,.iconst (-1),1),(74,.ireturn,1),(15,.lookupswitch 41 #[(-1,33),(1,25)],25)]
theorem o_fQ: ∀x∈o_kQ,decode jdk_2097_method_121_code x.1= .ok (x.2.1,x.2.2):=by decide+kernel
def o_kR:List (Nat×Jvm.ClassFile.Instr×Nat):= [(0,.lload_n 0,1),(1,.invokestatic 35,3),(4,.lload 4,2),(6,.invokestatic 35,3),(9,.invokevirtual 41,3),(12,.lload_n 2,1),(13,.invokestatic 35,3),(16,.invokevirtual 45,3),(19,.astore 6,2),(21,.aload 6,2),(23,.iconst 1,1),(24,.aaload,1),(25,.invokevirtual 49,3),(28,.ifCond .ne 10,3),(31,.aload 6,2),(33,.iconst 0,1),(34,.aaload,1),(35,.goto 13,3),(38,.aload 6,2),(40,.iconst 0,1),(41,.aaload,1),(42,.getstatic 53,3),(45,.invokevirtual 57,3),(48,.astore 7,2),(50,.aload 7,2),(52,.ldc2_w 60,3),(55,.invokestatic 35,3),(58,.invokevirtual 62,3),(61,.ifCond .le 20,3),(64,.new 19,3),(67,.dup,1),(68,.lload_n 0,1),(69,.lload_n 2,1),(70,.lload 4,2),(77,.invokespecial 25,3),(80,.athrow,1),(81,.aload 7,2),(83,.invokevirtual 69,3),(86,.lreturn,1)]
theorem o_fR: ∀x∈o_kR,decode prog_1_method_4_code x.1= .ok (x.2.1,x.2.2):=by decide+kernel
theorem o_bK:parseMethodDescriptor "(JJ)J"=some ⟨[.long,.long],some .long⟩:=by decide+kernel
theorem o_be:parseMethodDescriptor "()V"=some ⟨[],none⟩:=by decide+kernel
theorem o_kS:parseMethodDescriptor "(J)V"=some ⟨[.long],none⟩:=by decide+kernel
theorem o_kT:parseMethodDescriptor "(IIILjava/util/function/BiFunction;)I"=some ⟨[.int,.int,.int,(.object "java/util/function/BiFunction")],some .int⟩:=by decide+kernel
theorem o_c7:parseMethodDescriptor "(II)V"=some ⟨[.int,.int],none⟩:=by decide+kernel
theorem o_c8:parseMethodDescriptor "(II)I"=some ⟨[.int,.int],some .int⟩:=by decide+kernel
theorem o_bf:parseMethodDescriptor "([III)[I"=some ⟨[(.array .int),.int,.int],some (.array .int)⟩:=by decide+kernel
theorem o_bz:parseMethodDescriptor "(III)I"=some ⟨[.int,.int,.int],some .int⟩:=by decide+kernel
theorem o_c9:parseMethodDescriptor "([I[IIII)V"=some ⟨[(.array .int),(.array .int),.int,.int,.int],none⟩:=by decide+kernel
theorem o_aN:parseMethodDescriptor "(I)I"=some ⟨[.int],some .int⟩:=by decide+kernel
theorem o_fS:parseMethodDescriptor "([II)[I"=some ⟨[(.array .int),.int],some (.array .int)⟩:=by decide+kernel
theorem o_aw:parseMethodDescriptor "([II)V"=some ⟨[(.array .int),.int],none⟩:=by decide+kernel
theorem o_kU:parseMethodDescriptor "(Ljava/lang/Object;)Ljava/lang/Object;"=some ⟨[(.object "java/lang/Object")],some (.object "java/lang/Object")⟩:=by decide+kernel
theorem o_fT:parseMethodDescriptor "([II[II[I)[I"=some ⟨[(.array .int),.int,(.array .int),.int,(.array .int)],some (.array .int)⟩:=by decide+kernel
theorem o_dV:parseMethodDescriptor "([III)Ljava/math/BigInteger;"=some ⟨[(.array .int),.int,.int],some (.object "java/math/BigInteger")⟩:=by decide+kernel
theorem o_fU:parseMethodDescriptor "([I)[I"=some ⟨[(.array .int)],some (.array .int)⟩:=by decide+kernel
theorem o_kV:parseMethodDescriptor "(Ljava/math/BigInteger;ZZI)Ljava/math/BigInteger;"=some ⟨[(.object "java/math/BigInteger"),.boolean,.boolean,.int],some (.object "java/math/BigInteger")⟩:=by decide+kernel
theorem o_fV:parseMethodDescriptor "()I"=some ⟨[],some .int⟩:=by decide+kernel
theorem o_dW:parseMethodDescriptor "(JI)J"=some ⟨[.long,.int],some .long⟩:=by decide+kernel
theorem o_c_:parseMethodDescriptor "(JJ)Z"=some ⟨[.long,.long],some .boolean⟩:=by decide+kernel
theorem o_fW:parseMethodDescriptor "([I[IIII)I"=some ⟨[(.array .int),(.array .int),.int,.int,.int],some .int⟩:=by decide+kernel
theorem o_c':parseMethodDescriptor "(I)V"=some ⟨[.int],none⟩:=by decide+kernel
theorem o_kW:parseMethodDescriptor "()[I"=some ⟨[],some (.array .int)⟩:=by decide+kernel
theorem o_fX:parseMethodDescriptor "([III[III)V"=some ⟨[(.array .int),.int,.int,(.array .int),.int,.int],none⟩:=by decide+kernel
theorem o_da:parseMethodDescriptor "([I)V"=some ⟨[(.array .int)],none⟩:=by decide+kernel
theorem o_fY:parseMethodDescriptor "(Ljava/math/MutableBigInteger;)V"=some ⟨[(.object "java/math/MutableBigInteger")],none⟩:=by decide+kernel
theorem o_fZ:parseMethodDescriptor "(Ljava/math/MutableBigInteger;Ljava/math/MutableBigInteger;Z)Ljava/math/MutableBigInteger;"=some ⟨[(.object "java/math/MutableBigInteger"),(.object "java/math/MutableBigInteger"),.boolean],some (.object "java/math/MutableBigInteger")⟩:=by decide+kernel
theorem o_f0:parseMethodDescriptor "(ILjava/math/MutableBigInteger;)I"=some ⟨[.int,(.object "java/math/MutableBigInteger")],some .int⟩:=by decide+kernel
theorem o_db:parseMethodDescriptor "(Ljava/math/MutableBigInteger;)I"=some ⟨[(.object "java/math/MutableBigInteger")],some .int⟩:=by decide+kernel
theorem o_kX:parseMethodDescriptor "(Ljava/math/MutableBigInteger;Ljava/math/MutableBigInteger;)Ljava/math/MutableBigInteger;"=some ⟨[(.object "java/math/MutableBigInteger"),(.object "java/math/MutableBigInteger")],some (.object "java/math/MutableBigInteger")⟩:=by decide+kernel
theorem o_dc:parseMethodDescriptor "(I)Ljava/math/BigInteger;"=some ⟨[.int],some (.object "java/math/BigInteger")⟩:=by decide+kernel
theorem o_f1:parseMethodDescriptor "(Ljava/math/BigInteger;)[Ljava/math/BigInteger;"=some ⟨[(.object "java/math/BigInteger")],some (.array (.object "java/math/BigInteger"))⟩:=by decide+kernel
theorem o_f2:parseMethodDescriptor "([I[I)[I"=some ⟨[(.array .int),(.array .int)],some (.array .int)⟩:=by decide+kernel
theorem o_f3:parseMethodDescriptor "(Ljava/math/BigInteger;)I"=some ⟨[(.object "java/math/BigInteger")],some .int⟩:=by decide+kernel
theorem o_dd:parseMethodDescriptor "(J)Ljava/math/BigInteger;"=some ⟨[.long],some (.object "java/math/BigInteger")⟩:=by decide+kernel
theorem o_f4:parseMethodDescriptor "(Ljava/math/BigInteger;)Ljava/math/BigInteger;"=some ⟨[(.object "java/math/BigInteger")],some (.object "java/math/BigInteger")⟩:=by decide+kernel
theorem o_kY:parseMethodDescriptor "()J"=some ⟨[],some .long⟩:=by decide+kernel
theorem o_dX:parseMethodDescriptor "(JJJJ)I"=some ⟨[.long,.long,.long,.long],some .int⟩:=by decide+kernel
theorem o_kZ:parseMethodDescriptor "(JJJ)J"=some ⟨[.long,.long,.long],some .long⟩:=by decide+kernel
theorem o_de:plainName "com/example/nuthatch/nuthatch/ArgumentsRequireFillMillisPinLaw"=true:=by first|(simp[plainName,overriddenIn];done)|decide+kernel
theorem o_k0:plainName "java/lang/Number"=true:=by first|(simp[plainName,overriddenIn];done)|decide+kernel
theorem o_Y:plainName "java/math/BigInteger"=true:=by first|(simp[plainName,overriddenIn];done)|decide+kernel
theorem o_dY:plainName "java/lang/Integer"=true:=by first|(simp[plainName,overriddenIn];done)|decide+kernel
theorem o_aW:plainName "java/util/Arrays"=true:=by first|(simp[plainName,overriddenIn];done)|decide+kernel
theorem o_k1:plainName "jdk/internal/util/Preconditions"=true:=by first|(simp[plainName,overriddenIn];done)|decide+kernel
theorem o_f5:plainName "java/util/Objects"=true:=by first|(simp[plainName,overriddenIn];done)|decide+kernel
theorem o_ag:plainName "java/math/MutableBigInteger"=true:=by first|(simp[plainName,overriddenIn];done)|decide+kernel
theorem o_k2:plainName "com/example/nuthatch/nuthatch/Arguments"=true:=by first|(simp[plainName,overriddenIn];done)|decide+kernel
theorem o_k3 (m:MethodId)(x0:Int64)(x1:Int64):entryFrame m #[(.long x0),(.long x1)] 4=mkF m 0 #[.val (.long x0),.second,.val (.long x1),.second] []:=by first|(simp[entryFrame,mkF,argsToLocals,Value.category];done)|rfl
theorem o_k4 (m:MethodId)(x0:Int64)(x1:Int64):entryFrame m #[(.long x0),(.long x1)] 20=mkF m 0 #[.val (.long x0),.second,.val (.long x1),.second,.unset,.unset,.unset,.unset,.unset,.unset,.unset,.unset,.unset,.unset,.unset,.unset,.unset,.unset,.unset,.unset] []:=by first|(simp[entryFrame,mkF,argsToLocals,Value.category];done)|rfl
theorem o_k5 (m:MethodId)(x0:Int64)(x1:Int64):entryFrame m #[(.long x0),(.long x1)] 18=mkF m 0 #[.val (.long x0),.second,.val (.long x1),.second,.unset,.unset,.unset,.unset,.unset,.unset,.unset,.unset,.unset,.unset,.unset,.unset,.unset,.unset] []:=by first|(simp[entryFrame,mkF,argsToLocals,Value.category];done)|rfl
theorem o_k6 (m:MethodId)(x0:Int64)(x1:Int64)(x2:Int64)(x3:Int64):entryFrame m #[(.long x0),(.long x1),(.long x2),(.long x3)] 16=mkF m 0 #[.val (.long x0),.second,.val (.long x1),.second,.val (.long x2),.second,.val (.long x3),.second,.unset,.unset,.unset,.unset,.unset,.unset,.unset,.unset] []:=by first|(simp[entryFrame,mkF,argsToLocals,Value.category];done)|rfl
theorem o_k7 (m:MethodId)(x0:Addr):entryFrame m #[(.ref x0)] 1=mkF m 0 #[.val (.ref x0)] []:=by first|(simp[entryFrame,mkF,argsToLocals,Value.category];done)|rfl
theorem o_k8 (m:MethodId)(x0:Addr)(x1:Int64):entryFrame m #[(.ref x0),(.long x1)] 4=mkF m 0 #[.val (.ref x0),.val (.long x1),.second,.unset] []:=by first|(simp[entryFrame,mkF,argsToLocals,Value.category];done)|rfl
theorem o_k9 (m:MethodId)(x0:Int64):entryFrame m #[(.long x0)] 2=mkF m 0 #[.val (.long x0),.second] []:=by first|(simp[entryFrame,mkF,argsToLocals,Value.category];done)|rfl
theorem o_k_ (m:MethodId)(x0:Int32):entryFrame m #[(.int x0)] 1=mkF m 0 #[.val (.int x0)] []:=by first|(simp[entryFrame,mkF,argsToLocals,Value.category];done)|rfl
theorem o_k' (m:MethodId)(x0:Int32):entryFrame m #[(.int x0)] 2=mkF m 0 #[.val (.int x0),.unset] []:=by first|(simp[entryFrame,mkF,argsToLocals,Value.category];done)|rfl
theorem o_la (m:MethodId)(x0:Int32)(x1:Int32):entryFrame m #[(.int x0),(.int x1)] 2=mkF m 0 #[.val (.int x0),.val (.int x1)] []:=by first|(simp[entryFrame,mkF,argsToLocals,Value.category];done)|rfl
theorem o_lb (m:MethodId)(x0:Int32)(x1:Int32):entryFrame m #[(.int x0),(.int x1)] 2=mkF m 0 #[.val (.int x0),.val (.int x1)] []:=by first|(simp[entryFrame,mkF,argsToLocals,Value.category];done)|rfl
theorem o_lc (m:MethodId)(x0:Int32)(x1:Int32)(x2:Int32):entryFrame m #[(.int x0),(.int x1),(.int x2),.null] 4=mkF m 0 #[.val (.int x0),.val (.int x1),.val (.int x2),.val .null] []:=by first|(simp[entryFrame,mkF,argsToLocals,Value.category];done)|rfl
theorem o_ld (m:MethodId)(x0:Int32)(x1:Int32)(x2:Int32):entryFrame m #[(.int x0),(.int x1),(.int x2)] 3=mkF m 0 #[.val (.int x0),.val (.int x1),.val (.int x2)] []:=by first|(simp[entryFrame,mkF,argsToLocals,Value.category];done)|rfl
theorem o_le (m:MethodId)(x0:Addr)(x1:Int32)(x2:Int32):entryFrame m #[(.ref x0),(.int x1),(.int x2)] 5=mkF m 0 #[.val (.ref x0),.val (.int x1),.val (.int x2),.unset,.unset] []:=by first|(simp[entryFrame,mkF,argsToLocals,Value.category];done)|rfl
theorem o_lf (m:MethodId)(x0:Addr)(x1:Int32)(x2:Int32):entryFrame m #[(.ref x0),(.int x1),(.int x2)] 3=mkF m 0 #[.val (.ref x0),.val (.int x1),.val (.int x2)] []:=by first|(simp[entryFrame,mkF,argsToLocals,Value.category];done)|rfl
theorem o_lg (m:MethodId)(x0:Addr)(x1:Int32)(x2:Int32):entryFrame m #[(.ref x0),(.int x1),(.int x2)] 5=mkF m 0 #[.val (.ref x0),.val (.int x1),.val (.int x2),.unset,.unset] []:=by first|(simp[entryFrame,mkF,argsToLocals,Value.category];done)|rfl
theorem o_lh (m:MethodId)(x0:Addr)(x1:Int32)(x2:Int32):entryFrame m #[(.ref x0),(.int x1),(.int x2)] 3=mkF m 0 #[.val (.ref x0),.val (.int x1),.val (.int x2)] []:=by first|(simp[entryFrame,mkF,argsToLocals,Value.category];done)|rfl
theorem o_li (m:MethodId)(x0:Addr)(x1:Int32)(x2:Int32):entryFrame m #[(.ref x0),(.int x1),(.int x2)] 5=mkF m 0 #[.val (.ref x0),.val (.int x1),.val (.int x2),.unset,.unset] []:=by first|(simp[entryFrame,mkF,argsToLocals,Value.category];done)|rfl
theorem o_lj (m:MethodId)(x0:Addr)(x1:Int32)(x2:Int32):entryFrame m #[(.ref x0),(.int x1),(.int x2)] 3=mkF m 0 #[.val (.ref x0),.val (.int x1),.val (.int x2)] []:=by first|(simp[entryFrame,mkF,argsToLocals,Value.category];done)|rfl
theorem o_lk (m:MethodId)(x0:Addr)(x1:Addr)(x2:Int32):entryFrame m #[(.ref x0),(.ref x1),(.int x2)] 3=mkF m 0 #[.val (.ref x0),.val (.ref x1),.val (.int x2)] []:=by first|(simp[entryFrame,mkF,argsToLocals,Value.category];done)|rfl
theorem o_ll (m:MethodId)(x0:Addr)(x1:Addr)(x2:Int32)(x3:Int32)(x4:Int32):entryFrame m #[(.ref x0),(.ref x1),(.int x2),(.int x3),(.int x4)] 7=mkF m 0 #[.val (.ref x0),.val (.ref x1),.val (.int x2),.val (.int x3),.val (.int x4),.unset,.unset] []:=by first|(simp[entryFrame,mkF,argsToLocals,Value.category];done)|rfl
theorem o_lm (m:MethodId)(x0:Addr)(x1:Addr)(x2:Int32)(x3:Int32)(x4:Int32):entryFrame m #[(.ref x0),(.ref x1),(.int x2),(.int x3),(.int x4)] 7=mkF m 0 #[.val (.ref x0),.val (.ref x1),.val (.int x2),.val (.int x3),.val (.int x4),.unset,.unset] []:=by first|(simp[entryFrame,mkF,argsToLocals,Value.category];done)|rfl
theorem o_ln (m:MethodId)(x0:Addr)(x1:Addr)(x2:Int32)(x3:Int32)(x4:Int32):entryFrame m #[(.ref x0),(.ref x1),(.int x2),(.int x3),(.int x4)] 7=mkF m 0 #[.val (.ref x0),.val (.ref x1),.val (.int x2),.val (.int x3),.val (.int x4),.unset,.unset] []:=by first|(simp[entryFrame,mkF,argsToLocals,Value.category];done)|rfl
theorem o_lo (m:MethodId)(x0:Addr)(x1:Addr)(x2:Int32)(x3:Int32)(x4:Int32):entryFrame m #[(.ref x0),(.ref x1),(.int x2),(.int x3),(.int x4)] 7=mkF m 0 #[.val (.ref x0),.val (.ref x1),.val (.int x2),.val (.int x3),.val (.int x4),.unset,.unset] []:=by first|(simp[entryFrame,mkF,argsToLocals,Value.category];done)|rfl
theorem o_lp (m:MethodId)(x0:Addr)(x1:Int32):entryFrame m #[(.ref x0),(.int x1)] 10=mkF m 0 #[.val (.ref x0),.val (.int x1),.unset,.unset,.unset,.unset,.unset,.unset,.unset,.unset] []:=by first|(simp[entryFrame,mkF,argsToLocals,Value.category];done)|rfl
theorem o_lq (m:MethodId)(x0:Addr)(x1:Int32):entryFrame m #[(.ref x0),(.int x1)] 10=mkF m 0 #[.val (.ref x0),.val (.int x1),.unset,.unset,.unset,.unset,.unset,.unset,.unset,.unset] []:=by first|(simp[entryFrame,mkF,argsToLocals,Value.category];done)|rfl
theorem o_lr (m:MethodId)(x0:Addr)(x1:Int32)(x2:Int32):entryFrame m #[(.ref x0),(.int x1),(.int x2)] 13=mkF m 0 #[.val (.ref x0),.val (.int x1),.val (.int x2),.unset,.unset,.unset,.unset,.unset,.unset,.unset,.unset,.unset,.unset] []:=by first|(simp[entryFrame,mkF,argsToLocals,Value.category];done)|rfl
theorem o_ls (m:MethodId)(x0:Addr)(x1:Int32)(x2:Int32):entryFrame m #[(.ref x0),(.int x1),(.int x2)] 13=mkF m 0 #[.val (.ref x0),.val (.int x1),.val (.int x2),.unset,.unset,.unset,.unset,.unset,.unset,.unset,.unset,.unset,.unset] []:=by first|(simp[entryFrame,mkF,argsToLocals,Value.category];done)|rfl
theorem o_lt (m:MethodId)(x0:Addr):entryFrame m #[(.ref x0)] 1=mkF m 0 #[.val (.ref x0)] []:=by first|(simp[entryFrame,mkF,argsToLocals,Value.category];done)|rfl
theorem o_lu (m:MethodId)(x0:Addr)(x1:Int32):entryFrame m #[(.ref x0),(.int x1)] 2=mkF m 0 #[.val (.ref x0),.val (.int x1)] []:=by first|(simp[entryFrame,mkF,argsToLocals,Value.category];done)|rfl
theorem o_lv (m:MethodId)(x0:Addr)(x1:Int32)(x2:Addr)(x3:Int32):entryFrame m #[(.ref x0),(.int x1),(.ref x2),(.int x3),.null] 14=mkF m 0 #[.val (.ref x0),.val (.int x1),.val (.ref x2),.val (.int x3),.val .null,.unset,.unset,.unset,.unset,.unset,.unset,.unset,.unset,.unset] []:=by first|(simp[entryFrame,mkF,argsToLocals,Value.category];done)|rfl
theorem o_lw (m:MethodId)(x0:Addr)(x1:Int32)(x2:Addr)(x3:Int32):entryFrame m #[(.ref x0),(.int x1),(.ref x2),(.int x3),.null] 5=mkF m 0 #[.val (.ref x0),.val (.int x1),.val (.ref x2),.val (.int x3),.val .null] []:=by first|(simp[entryFrame,mkF,argsToLocals,Value.category];done)|rfl
theorem o_lx (m:MethodId)(x0:Addr):entryFrame m #[(.ref x0)] 3=mkF m 0 #[.val (.ref x0),.unset,.unset] []:=by first|(simp[entryFrame,mkF,argsToLocals,Value.category];done)|rfl
theorem o_ly (m:MethodId)(x0:Addr):entryFrame m #[(.ref x0)] 3=mkF m 0 #[.val (.ref x0),.unset,.unset] []:=by first|(simp[entryFrame,mkF,argsToLocals,Value.category];done)|rfl
theorem o_lz (m:MethodId)(x0:Addr)(x1:Addr)(x2:Int32)(x3:Int32)(x4:Int32):entryFrame m #[(.ref x0),(.ref x1),(.int x2),(.int x3),(.int x4)] 9=mkF m 0 #[.val (.ref x0),.val (.ref x1),.val (.int x2),.val (.int x3),.val (.int x4),.unset,.unset,.unset,.unset] []:=by first|(simp[entryFrame,mkF,argsToLocals,Value.category];done)|rfl
theorem o_lA (m:MethodId)(x0:Addr)(x1:Addr)(x2:Int32)(x3:Int32)(x4:Int32):entryFrame m #[(.ref x0),(.ref x1),(.int x2),(.int x3),(.int x4)] 9=mkF m 0 #[.val (.ref x0),.val (.ref x1),.val (.int x2),.val (.int x3),.val (.int x4),.unset,.unset,.unset,.unset] []:=by first|(simp[entryFrame,mkF,argsToLocals,Value.category];done)|rfl
theorem o_lB (m:MethodId)(x0:Addr)(x1:Addr)(x2:Int32)(x3:Int32)(x4:Int32):entryFrame m #[(.ref x0),(.ref x1),(.int x2),(.int x3),(.int x4)] 9=mkF m 0 #[.val (.ref x0),.val (.ref x1),.val (.int x2),.val (.int x3),.val (.int x4),.unset,.unset,.unset,.unset] []:=by first|(simp[entryFrame,mkF,argsToLocals,Value.category];done)|rfl
theorem o_lC (m:MethodId)(x0:Addr)(x1:Addr)(x2:Int32)(x3:Int32)(x4:Int32):entryFrame m #[(.ref x0),(.ref x1),(.int x2),(.int x3),(.int x4)] 9=mkF m 0 #[.val (.ref x0),.val (.ref x1),.val (.int x2),.val (.int x3),.val (.int x4),.unset,.unset,.unset,.unset] []:=by first|(simp[entryFrame,mkF,argsToLocals,Value.category];done)|rfl
theorem o_lD (m:MethodId)(x0:Addr)(x1:Addr):entryFrame m #[(.ref x0),(.ref x1)] 2=mkF m 0 #[.val (.ref x0),.val (.ref x1)] []:=by first|(simp[entryFrame,mkF,argsToLocals,Value.category];done)|rfl
theorem o_lE (m:MethodId)(x0:Int32):entryFrame m #[(.int x0)] 2=mkF m 0 #[.val (.int x0),.unset] []:=by first|(simp[entryFrame,mkF,argsToLocals,Value.category];done)|rfl
theorem o_lF (m:MethodId)(x0:Addr)(x1:Int64)(x2:Int64):entryFrame m #[(.ref x0),(.long x1),(.long x2)] 5=mkF m 0 #[.val (.ref x0),.val (.long x1),.second,.val (.long x2),.second] []:=by first|(simp[entryFrame,mkF,argsToLocals,Value.category];done)|rfl
theorem o_lG (m:MethodId)(x0:Int64)(x1:Int32):entryFrame m #[(.long x0),(.int x1)] 9=mkF m 0 #[.val (.long x0),.second,.val (.int x1),.unset,.unset,.unset,.unset,.unset,.unset] []:=by first|(simp[entryFrame,mkF,argsToLocals,Value.category];done)|rfl
theorem o_lH (m:MethodId)(x0:Addr):entryFrame m #[(.ref x0)] 1=mkF m 0 #[.val (.ref x0)] []:=by first|(simp[entryFrame,mkF,argsToLocals,Value.category];done)|rfl
theorem o_lI (m:MethodId)(x0:Addr)(x1:Addr):entryFrame m #[(.ref x0),(.ref x1)] 2=mkF m 0 #[.val (.ref x0),.val (.ref x1)] []:=by first|(simp[entryFrame,mkF,argsToLocals,Value.category];done)|rfl
theorem o_lJ (m:MethodId)(x0:Addr)(x1:Int32):entryFrame m #[(.ref x0),(.int x1)] 2=mkF m 0 #[.val (.ref x0),.val (.int x1)] []:=by first|(simp[entryFrame,mkF,argsToLocals,Value.category];done)|rfl
theorem o_lK (m:MethodId)(x0:Addr)(x1:Int32)(x2:Int32):entryFrame m #[(.ref x0),(.int x1),(.int x2)] 3=mkF m 0 #[.val (.ref x0),.val (.int x1),.val (.int x2)] []:=by first|(simp[entryFrame,mkF,argsToLocals,Value.category];done)|rfl
theorem o_lL (m:MethodId)(x0:Addr)(x1:Addr):entryFrame m #[(.ref x0),(.ref x1)] 2=mkF m 0 #[.val (.ref x0),.val (.ref x1)] []:=by first|(simp[entryFrame,mkF,argsToLocals,Value.category];done)|rfl
theorem o_lM (m:MethodId)(x0:Addr)(x1:Int32)(x2:Int32):entryFrame m #[(.ref x0),(.int x1),(.int x2)] 3=mkF m 0 #[.val (.ref x0),.val (.int x1),.val (.int x2)] []:=by first|(simp[entryFrame,mkF,argsToLocals,Value.category];done)|rfl
theorem o_lN (m:MethodId)(x0:Addr)(x1:Addr):entryFrame m #[(.ref x0),(.ref x1)] 2=mkF m 0 #[.val (.ref x0),.val (.ref x1)] []:=by first|(simp[entryFrame,mkF,argsToLocals,Value.category];done)|rfl
theorem o_lO (m:MethodId)(x0:Addr)(x1:Addr):entryFrame m #[(.ref x0),(.ref x1)] 8=mkF m 0 #[.val (.ref x0),.val (.ref x1),.unset,.unset,.unset,.unset,.unset,.unset] []:=by first|(simp[entryFrame,mkF,argsToLocals,Value.category];done)|rfl
theorem o_lP (m:MethodId)(x0:Addr)(x1:Addr):entryFrame m #[(.ref x0),(.ref x1)] 8=mkF m 0 #[.val (.ref x0),.val (.ref x1),.unset,.unset,.unset,.unset,.unset,.unset] []:=by first|(simp[entryFrame,mkF,argsToLocals,Value.category];done)|rfl
theorem o_lQ (m:MethodId)(x0:Addr)(x1:Addr):entryFrame m #[(.ref x0),(.ref x1)] 8=mkF m 0 #[.val (.ref x0),.val (.ref x1),.unset,.unset,.unset,.unset,.unset,.unset] []:=by first|(simp[entryFrame,mkF,argsToLocals,Value.category];done)|rfl
theorem o_lR (m:MethodId)(x0:Addr)(x1:Addr):entryFrame m #[(.ref x0),(.ref x1)] 8=mkF m 0 #[.val (.ref x0),.val (.ref x1),.unset,.unset,.unset,.unset,.unset,.unset] []:=by first|(simp[entryFrame,mkF,argsToLocals,Value.category];done)|rfl
theorem o_lS (m:MethodId)(x0:Addr):entryFrame m #[(.ref x0)] 1=mkF m 0 #[.val (.ref x0)] []:=by first|(simp[entryFrame,mkF,argsToLocals,Value.category];done)|rfl
theorem o_lT (m:MethodId)(x0:Addr):entryFrame m #[(.ref x0)] 1=mkF m 0 #[.val (.ref x0)] []:=by first|(simp[entryFrame,mkF,argsToLocals,Value.category];done)|rfl
theorem o_lU (m:MethodId)(x0:Addr)(x1:Int32):entryFrame m #[(.ref x0),(.int x1)] 3=mkF m 0 #[.val (.ref x0),.val (.int x1),.unset] []:=by first|(simp[entryFrame,mkF,argsToLocals,Value.category];done)|rfl
theorem o_lV (m:MethodId)(x0:Addr)(x1:Int32):entryFrame m #[(.ref x0),(.int x1)] 3=mkF m 0 #[.val (.ref x0),.val (.int x1),.unset] []:=by first|(simp[entryFrame,mkF,argsToLocals,Value.category];done)|rfl
theorem o_lW (m:MethodId)(x0:Addr):entryFrame m #[(.ref x0)] 4=mkF m 0 #[.val (.ref x0),.unset,.unset,.unset] []:=by first|(simp[entryFrame,mkF,argsToLocals,Value.category];done)|rfl
theorem o_lX (m:MethodId)(x0:Addr)(x1:Int32):entryFrame m #[(.ref x0),(.int x1)] 3=mkF m 0 #[.val (.ref x0),.val (.int x1),.unset] []:=by first|(simp[entryFrame,mkF,argsToLocals,Value.category];done)|rfl
theorem o_lY (m:MethodId)(x0:Addr)(x1:Int32):entryFrame m #[(.ref x0),(.int x1)] 3=mkF m 0 #[.val (.ref x0),.val (.int x1),.unset] []:=by first|(simp[entryFrame,mkF,argsToLocals,Value.category];done)|rfl
theorem o_lZ (m:MethodId)(x0:Addr):entryFrame m #[(.ref x0)] 4=mkF m 0 #[.val (.ref x0),.unset,.unset,.unset] []:=by first|(simp[entryFrame,mkF,argsToLocals,Value.category];done)|rfl
theorem o_l0 (m:MethodId)(x0:Addr):entryFrame m #[(.ref x0)] 3=mkF m 0 #[.val (.ref x0),.unset,.unset] []:=by first|(simp[entryFrame,mkF,argsToLocals,Value.category];done)|rfl
theorem o_l1 (m:MethodId)(x0:Addr)(x1:Addr)(x2:Addr)(x3:Int32)(x4:Int32)(x5:Int32):entryFrame m #[(.ref x0),(.ref x1),(.ref x2),(.int x3),(.int x4),(.int x5)] 15=mkF m 0 #[.val (.ref x0),.val (.ref x1),.val (.ref x2),.val (.int x3),.val (.int x4),.val (.int x5),.unset,.unset,.unset,.unset,.unset,.unset,.unset,.unset,.unset] []:=by first|(simp[entryFrame,mkF,argsToLocals,Value.category];done)|rfl
theorem o_l2 (m:MethodId)(x0:Int32):entryFrame m #[(.int x0)] 1=mkF m 0 #[.val (.int x0)] []:=by first|(simp[entryFrame,mkF,argsToLocals,Value.category];done)|rfl
theorem o_l3 (m:MethodId)(x0:Addr)(x1:Int32):entryFrame m #[(.ref x0),(.int x1)] 8=mkF m 0 #[.val (.ref x0),.val (.int x1),.unset,.unset,.unset,.unset,.unset,.unset] []:=by first|(simp[entryFrame,mkF,argsToLocals,Value.category];done)|rfl
theorem o_l4 (m:MethodId)(x0:Addr)(x1:Int32):entryFrame m #[(.ref x0),(.int x1)] 5=mkF m 0 #[.val (.ref x0),.val (.int x1),.unset,.unset,.unset] []:=by first|(simp[entryFrame,mkF,argsToLocals,Value.category];done)|rfl
theorem o_l5 (m:MethodId)(x0:Addr):entryFrame m #[(.ref x0)] 4=mkF m 0 #[.val (.ref x0),.unset,.unset,.unset] []:=by first|(simp[entryFrame,mkF,argsToLocals,Value.category];done)|rfl
theorem o_l6 (m:MethodId)(x0:Addr)(x1:Int32)(x2:Int32)(x3:Addr)(x4:Int32)(x5:Int32):entryFrame m #[(.ref x0),(.int x1),(.int x2),(.ref x3),(.int x4),(.int x5)] 10=mkF m 0 #[.val (.ref x0),.val (.int x1),.val (.int x2),.val (.ref x3),.val (.int x4),.val (.int x5),.unset,.unset,.unset,.unset] []:=by first|(simp[entryFrame,mkF,argsToLocals,Value.category];done)|rfl
theorem o_l7 (m:MethodId)(x0:Addr)(x1:Int32):entryFrame m #[(.ref x0),(.int x1)] 4=mkF m 0 #[.val (.ref x0),.val (.int x1),.unset,.unset] []:=by first|(simp[entryFrame,mkF,argsToLocals,Value.category];done)|rfl
theorem o_l8 (m:MethodId)(x0:Addr)(x1:Int32)(x2:Int32):entryFrame m #[(.ref x0),(.int x1),(.int x2)] 5=mkF m 0 #[.val (.ref x0),.val (.int x1),.val (.int x2),.unset,.unset] []:=by first|(simp[entryFrame,mkF,argsToLocals,Value.category];done)|rfl
theorem o_l9 (m:MethodId)(x0:Addr)(x1:Int32)(x2:Int32):entryFrame m #[(.ref x0),(.int x1),(.int x2)] 3=mkF m 0 #[.val (.ref x0),.val (.int x1),.val (.int x2)] []:=by first|(simp[entryFrame,mkF,argsToLocals,Value.category];done)|rfl
theorem o_l_ (m:MethodId)(x0:Addr):entryFrame m #[(.ref x0)] 2=mkF m 0 #[.val (.ref x0),.unset] []:=by first|(simp[entryFrame,mkF,argsToLocals,Value.category];done)|rfl
theorem o_l' (m:MethodId)(x0:Addr)(x1:Int32):entryFrame m #[(.ref x0),(.int x1)] 2=mkF m 0 #[.val (.ref x0),.val (.int x1)] []:=by first|(simp[entryFrame,mkF,argsToLocals,Value.category];done)|rfl
theorem o_ma (m:MethodId)(x0:Addr)(x1:Addr)(x2:Addr)(x3:Int32):entryFrame m #[(.ref x0),(.ref x1),(.ref x2),(.int x3)] 28=mkF m 0 #[.val (.ref x0),.val (.ref x1),.val (.ref x2),.val (.int x3),.unset,.unset,.unset,.unset,.unset,.unset,.unset,.unset,.unset,.unset,.unset,.unset,.unset,.unset,.unset,.unset,.unset,.unset,.unset,.unset,.unset,.unset,.unset,.unset] []:=by first|(simp[entryFrame,mkF,argsToLocals,Value.category];done)|rfl
theorem o_mb (m:MethodId)(x0:Addr)(x1:Int32)(x2:Addr):entryFrame m #[(.ref x0),(.int x1),(.ref x2)] 15=mkF m 0 #[.val (.ref x0),.val (.int x1),.val (.ref x2),.unset,.unset,.unset,.unset,.unset,.unset,.unset,.unset,.unset,.unset,.unset,.unset] []:=by first|(simp[entryFrame,mkF,argsToLocals,Value.category];done)|rfl
theorem o_mc (m:MethodId)(x0:Addr)(x1:Int32)(x2:Addr):entryFrame m #[(.ref x0),(.int x1),(.ref x2)] 15=mkF m 0 #[.val (.ref x0),.val (.int x1),.val (.ref x2),.unset,.unset,.unset,.unset,.unset,.unset,.unset,.unset,.unset,.unset,.unset,.unset] []:=by first|(simp[entryFrame,mkF,argsToLocals,Value.category];done)|rfl
theorem o_md (m:MethodId)(x0:Addr)(x1:Addr)(x2:Addr)(x3:Int32):entryFrame m #[(.ref x0),(.ref x1),(.ref x2),(.int x3)] 8=mkF m 0 #[.val (.ref x0),.val (.ref x1),.val (.ref x2),.val (.int x3),.unset,.unset,.unset,.unset] []:=by first|(simp[entryFrame,mkF,argsToLocals,Value.category];done)|rfl
theorem o_me (m:MethodId)(x0:Addr)(x1:Addr)(x2:Addr):entryFrame m #[(.ref x0),(.ref x1),(.ref x2)] 3=mkF m 0 #[.val (.ref x0),.val (.ref x1),.val (.ref x2)] []:=by first|(simp[entryFrame,mkF,argsToLocals,Value.category];done)|rfl
theorem o_mf (m:MethodId)(x0:Addr)(x1:Int32):entryFrame m #[(.ref x0),(.int x1)] 2=mkF m 0 #[.val (.ref x0),.val (.int x1)] []:=by first|(simp[entryFrame,mkF,argsToLocals,Value.category];done)|rfl
theorem o_mg (m:MethodId)(x0:Addr)(x1:Addr):entryFrame m #[(.ref x0),(.ref x1)] 7=mkF m 0 #[.val (.ref x0),.val (.ref x1),.unset,.unset,.unset,.unset,.unset] []:=by first|(simp[entryFrame,mkF,argsToLocals,Value.category];done)|rfl
theorem o_mh (m:MethodId)(x0:Addr)(x1:Addr):entryFrame m #[(.ref x0),(.ref x1)] 2=mkF m 0 #[.val (.ref x0),.val (.ref x1)] []:=by first|(simp[entryFrame,mkF,argsToLocals,Value.category];done)|rfl
theorem o_mi (m:MethodId)(x0:Addr)(x1:Addr):entryFrame m #[(.ref x0),(.ref x1)] 9=mkF m 0 #[.val (.ref x0),.val (.ref x1),.unset,.unset,.unset,.unset,.unset,.unset,.unset] []:=by first|(simp[entryFrame,mkF,argsToLocals,Value.category];done)|rfl
theorem o_mj (m:MethodId)(x0:Addr)(x1:Addr):entryFrame m #[(.ref x0),(.ref x1)] 9=mkF m 0 #[.val (.ref x0),.val (.ref x1),.unset,.unset,.unset,.unset,.unset,.unset,.unset] []:=by first|(simp[entryFrame,mkF,argsToLocals,Value.category];done)|rfl
theorem o_mk (m:MethodId)(x0:Addr)(x1:Addr):entryFrame m #[(.ref x0),(.ref x1)] 4=mkF m 0 #[.val (.ref x0),.val (.ref x1),.unset,.unset] []:=by first|(simp[entryFrame,mkF,argsToLocals,Value.category];done)|rfl
theorem o_ml (m:MethodId)(x0:Addr)(x1:Addr):entryFrame m #[(.ref x0),(.ref x1)] 4=mkF m 0 #[.val (.ref x0),.val (.ref x1),.unset,.unset] []:=by first|(simp[entryFrame,mkF,argsToLocals,Value.category];done)|rfl
theorem o_mm (m:MethodId)(x0:Addr)(x1:Addr):entryFrame m #[(.ref x0),(.ref x1)] 4=mkF m 0 #[.val (.ref x0),.val (.ref x1),.unset,.unset] []:=by first|(simp[entryFrame,mkF,argsToLocals,Value.category];done)|rfl
theorem o_mn (m:MethodId)(x0:Addr)(x1:Addr):entryFrame m #[(.ref x0),(.ref x1)] 9=mkF m 0 #[.val (.ref x0),.val (.ref x1),.unset,.unset,.unset,.unset,.unset,.unset,.unset] []:=by first|(simp[entryFrame,mkF,argsToLocals,Value.category];done)|rfl
theorem o_mo (m:MethodId)(x0:Addr)(x1:Addr):entryFrame m #[(.ref x0),(.ref x1)] 9=mkF m 0 #[.val (.ref x0),.val (.ref x1),.unset,.unset,.unset,.unset,.unset,.unset,.unset] []:=by first|(simp[entryFrame,mkF,argsToLocals,Value.category];done)|rfl
theorem o_mp (m:MethodId)(x0:Addr)(x1:Addr):entryFrame m #[(.ref x0),(.ref x1)] 2=mkF m 0 #[.val (.ref x0),.val (.ref x1)] []:=by first|(simp[entryFrame,mkF,argsToLocals,Value.category];done)|rfl
theorem o_mq (m:MethodId)(x0:Int64)(x1:Int64)(x2:Int64):entryFrame m #[(.long x0),(.long x1),(.long x2)] 8=mkF m 0 #[.val (.long x0),.second,.val (.long x1),.second,.val (.long x2),.second,.unset,.unset] []:=by first|(simp[entryFrame,mkF,argsToLocals,Value.category];done)|rfl
theorem o_mr (m:MethodId)(x0:Int64)(x1:Int64)(x2:Int64)(x3:Int32):entryFrame m #[(.long x0),(.long x1),(.long x2),(.int x3)] maxLocals=mkF m 0 #[.val (.long x0),.second,.val (.long x1),.second,.val (.long x2),.second,.val (.int x3),.unset,.unset,.unset,.unset,.unset,.unset,.unset,.unset] []:=by first|(simp[entryFrame,mkF,argsToLocals,Value.category,maxLocals];done)|rfl
def o_ms (Z:State)(a b:Int64)(h0:Heap)(n0:Nat)(v:Option Value)(h:Heap)(L:List Loc):Prop:= ∃r:Int64,v=some (.long r)∧Fr n0 L∧h=h0∧o_co a b r
theorem o_dZ (l:Launch)(Z:State)(a0:Array Value)(hw: ∀d∈tables_1,d.before a0 Z=true)(ws:List Jvm.Cond)(a b:Int64)(h0:Heap)(n0:Nat)(Z0:n0≤h0.size)(k:Old Z n0 h0):
  o_q l (⟨"java/lang/Math","max","(JJ)J"⟩:MethodName) (Jvm.Cond.code (⟨"java/lang/Math","max","(JJ)J"⟩:MethodName) jdk_29_method_66_code 4 (some .long)::ws) ({frames:=0,cells:=0,slots:=0,locals:=0}:Room) #[(.long a),(.long b)] Z h0 (o_ms Z a b h0 n0):=by
 refine o_u (Jvm.Free.JP.mathPlain rfl (by decide+kernel)) (fun m=>o_k3 m a b) fun p e s m n o c s₁ hx h g i (j:s.vm.findClass "java/lang/Math"=some m.cls) hnm hret X0 hZ e0=> ?_
 have f:=o_t hx h o_i4 j hZ i hw
 have N0:=Fr.nil n0
 refine o_P 1 0 X0 f ?_
 refine o_P 2 1 X0 f ?_
 refine o_3 3 2 X0 f ?_
 by_cases h1:(lcmpW a b)<(0:Int32)
 ·refine o_p 10 3 X0 f rfl ((if0 _ _).trans (tlt h1).1) ?_
  refine o_P 11 6 X0 f ?_
  exact o_a1 7 X0 f hret g (by rw[e0];exact ⟨_,rfl,N0,rfl,o_gB h1⟩)
 ·refine o_r 6 3 X0 f rfl ((if0 _ _).trans (flt h1).1) ?_
  refine o_P 7 4 X0 f ?_
  refine o_w 11 5 X0 f ?_
  exact o_a1 7 X0 f hret g (by rw[e0];exact ⟨_,rfl,N0,rfl,o_gA h1⟩)
def o_mt (Z:State)(a b:Int64)(h0:Heap)(n0:Nat)(v:Option Value)(h:Heap)(L:List Loc):Prop:= ∃r:Int64,v=some (.long r)∧Fr n0 L∧h=h0∧r.toInt=a.toInt*b.toInt/4503599627370496
theorem o_f6 (l:Launch)(Z:State)(a0:Array Value)(hw: ∀d∈tables_1,d.before a0 Z=true)(ws:List Jvm.Cond)(a b:Int64)(h0:Heap)(n0:Nat)(Z0:n0≤h0.size)(z:Old Z n0 h0)(h:0≤a.toInt∧a.toInt<9007199254740992)(i:0≤b.toInt∧b.toInt<9007199254740992):
  o_q l (⟨"com/example/nuthatch/nuthatch/ArgumentsRequireFillMillisPinLaw","high","(JJ)J"⟩:MethodName) (Jvm.Cond.code (⟨"com/example/nuthatch/nuthatch/ArgumentsRequireFillMillisPinLaw","high","(JJ)J"⟩:MethodName) method_2_code 20 (some .long)::ws) ({frames:=0,cells:=0,slots:=0,locals:=0}:Room) #[(.long a),(.long b)] Z h0 (o_mt Z a b h0 n0):=by
 refine o_u (plainFor_of_name o_de) (fun m=>o_k4 m a b) fun p e s m A B c s₁ hx j k n (o:s.vm.findClass "com/example/nuthatch/nuthatch/ArgumentsRequireFillMillisPinLaw"=some m.cls) hnm hret X0 hZ e0=> ?_
 have f:=o_t hx j o_i6 o hZ n hw
 have N0:=Fr.nil n0
 refine o_P 1 0 X0 f ?_
 refine o_B 3 1 26 X0 f ?_
 refine o_ak 4 2 X0 f ?_
 generalize q:((a.toUInt64>>>((26:Int32)&&&0x3f).toInt64.toUInt64).toInt64)=a1
 refine o_H 6 3 #[_,_,_,_,_,_,_,_,_,_,_,_,_,_,_,_,_,_,_,_] X0 f ?_
 refine o_P 7 4 X0 f ?_
 refine o_y 10 13 5 X0 f ?_
 refine o_A 11 6 X0 f ?_
 generalize r:(a&&&(67108863:Int64))=g
 refine o_H 13 7 #[_,_,_,_,_,_,_,_,_,_,_,_,_,_,_,_,_,_,_,_] X0 f ?_
 refine o_P 14 8 X0 f ?_
 refine o_B 16 9 26 X0 f ?_
 refine o_ak 17 10 X0 f ?_
 generalize t:((b.toUInt64>>>((26:Int32)&&&0x3f).toInt64.toUInt64).toInt64)=b1
 refine o_H 19 11 #[_,_,_,_,_,_,_,_,_,_,_,_,_,_,_,_,_,_,_,_] X0 f ?_
 refine o_P 20 12 X0 f ?_
 refine o_y 23 13 13 X0 f ?_
 refine o_A 24 14 X0 f ?_
 generalize u:(b&&&(67108863:Int64))=b0
 refine o_H 26 15 #[_,_,_,_,_,_,_,_,_,_,_,_,_,_,_,_,_,_,_,_] X0 f ?_
 refine o_j 28 16 X0 f ?_
 refine o_j 30 17 X0 f ?_
 refine o_ah 31 18 X0 f ?_
 generalize v:(a1*b1)=hi
 refine o_H 33 19 #[_,_,_,_,_,_,_,_,_,_,_,_,_,_,_,_,_,_,_,_] X0 f ?_
 refine o_j 35 20 X0 f ?_
 refine o_j 37 21 X0 f ?_
 refine o_ah 38 22 X0 f ?_
 refine o_j 40 23 X0 f ?_
 refine o_j 42 24 X0 f ?_
 refine o_ah 43 25 X0 f ?_
 refine o_4 44 26 X0 f ?_
 generalize w:((a1*b0)+(g*b1))=mid
 refine o_H 46 27 #[_,_,_,_,_,_,_,_,_,_,_,_,_,_,_,_,_,_,_,_] X0 f ?_
 refine o_j 48 28 X0 f ?_
 refine o_j 50 29 X0 f ?_
 refine o_ah 51 30 X0 f ?_
 generalize x:(g*b0)=lo
 refine o_H 53 31 #[_,_,_,_,_,_,_,_,_,_,_,_,_,_,_,_,_,_,_,_] X0 f ?_
 refine o_j 55 32 X0 f ?_
 refine o_j 57 33 X0 f ?_
 refine o_y 60 13 34 X0 f ?_
 refine o_A 61 35 X0 f ?_
 refine o_B 63 36 26 X0 f ?_
 refine o_ay 64 37 X0 f ?_
 refine o_4 65 38 X0 f ?_
 generalize y:(lo+((mid&&&(67108863:Int64))<<<((26:Int32)&&&0x3f).toInt64))=lo2
 refine o_H 67 39 #[_,_,_,_,_,_,_,_,_,_,_,_,_,_,_,_,_,_,_,_] X0 f ?_
 refine o_j 69 40 X0 f ?_
 refine o_j 71 41 X0 f ?_
 refine o_B 73 42 26 X0 f ?_
 refine o_ak 74 43 X0 f ?_
 refine o_4 75 44 X0 f ?_
 refine o_j 77 45 X0 f ?_
 refine o_B 79 46 52 X0 f ?_
 refine o_ak 80 47 X0 f ?_
 refine o_4 81 48 X0 f ?_
 exact o_a1 49 X0 f hret k (by rw[e0];exact ⟨_,rfl,N0,rfl,o_gC (o_ej h i q r t u w x y) v⟩)
def o_mu (Z:State)(a b:Int64)(h0:Heap)(n0:Nat)(v:Option Value)(h:Heap)(L:List Loc):Prop:= ∃r:Int64,v=some (.long r)∧Fr n0 L∧h=h0∧r.toInt=a.toInt*b.toInt%4503599627370496
theorem o_f7 (l:Launch)(Z:State)(a0:Array Value)(hw: ∀d∈tables_1,d.before a0 Z=true)(ws:List Jvm.Cond)(a b:Int64)(h0:Heap)(n0:Nat)(Z0:n0≤h0.size)(y:Old Z n0 h0)(h:0≤a.toInt∧a.toInt<9007199254740992)(i:0≤b.toInt∧b.toInt<9007199254740992):
  o_q l (⟨"com/example/nuthatch/nuthatch/ArgumentsRequireFillMillisPinLaw","low","(JJ)J"⟩:MethodName) (Jvm.Cond.code (⟨"com/example/nuthatch/nuthatch/ArgumentsRequireFillMillisPinLaw","low","(JJ)J"⟩:MethodName) method_3_code 18 (some .long)::ws) ({frames:=0,cells:=0,slots:=0,locals:=0}:Room) #[(.long a),(.long b)] Z h0 (o_mu Z a b h0 n0):=by
 refine o_u (plainFor_of_name o_de) (fun m=>o_k5 m a b) fun p e s m z A c s₁ hx j k n (o:s.vm.findClass "com/example/nuthatch/nuthatch/ArgumentsRequireFillMillisPinLaw"=some m.cls) hnm hret X0 hZ e0=> ?_
 have f:=o_t hx j o_i8 o hZ n hw
 have N0:=Fr.nil n0
 refine o_P 1 0 X0 f ?_
 refine o_B 3 1 26 X0 f ?_
 refine o_ak 4 2 X0 f ?_
 generalize q:((a.toUInt64>>>((26:Int32)&&&0x3f).toInt64.toUInt64).toInt64)=a1
 refine o_H 6 3 #[_,_,_,_,_,_,_,_,_,_,_,_,_,_,_,_,_,_] X0 f ?_
 refine o_P 7 4 X0 f ?_
 refine o_y 10 13 5 X0 f ?_
 refine o_A 11 6 X0 f ?_
 generalize r:(a&&&(67108863:Int64))=g
 refine o_H 13 7 #[_,_,_,_,_,_,_,_,_,_,_,_,_,_,_,_,_,_] X0 f ?_
 refine o_P 14 8 X0 f ?_
 refine o_B 16 9 26 X0 f ?_
 refine o_ak 17 10 X0 f ?_
 generalize t:((b.toUInt64>>>((26:Int32)&&&0x3f).toInt64.toUInt64).toInt64)=b1
 refine o_H 19 11 #[_,_,_,_,_,_,_,_,_,_,_,_,_,_,_,_,_,_] X0 f ?_
 refine o_P 20 12 X0 f ?_
 refine o_y 23 13 13 X0 f ?_
 refine o_A 24 14 X0 f ?_
 generalize u:(b&&&(67108863:Int64))=b0
 refine o_H 26 15 #[_,_,_,_,_,_,_,_,_,_,_,_,_,_,_,_,_,_] X0 f ?_
 refine o_j 28 16 X0 f ?_
 refine o_j 30 17 X0 f ?_
 refine o_ah 31 18 X0 f ?_
 refine o_j 33 19 X0 f ?_
 refine o_j 35 20 X0 f ?_
 refine o_ah 36 21 X0 f ?_
 refine o_4 37 22 X0 f ?_
 generalize v:((a1*b0)+(g*b1))=mid
 refine o_H 39 23 #[_,_,_,_,_,_,_,_,_,_,_,_,_,_,_,_,_,_] X0 f ?_
 refine o_j 41 24 X0 f ?_
 refine o_j 43 25 X0 f ?_
 refine o_ah 44 26 X0 f ?_
 generalize w:(g*b0)=lo
 refine o_H 46 27 #[_,_,_,_,_,_,_,_,_,_,_,_,_,_,_,_,_,_] X0 f ?_
 refine o_j 48 28 X0 f ?_
 refine o_j 50 29 X0 f ?_
 refine o_y 53 13 30 X0 f ?_
 refine o_A 54 31 X0 f ?_
 refine o_B 56 32 26 X0 f ?_
 refine o_ay 57 33 X0 f ?_
 refine o_4 58 34 X0 f ?_
 generalize x:(lo+((mid&&&(67108863:Int64))<<<((26:Int32)&&&0x3f).toInt64))=lo2
 refine o_H 60 35 #[_,_,_,_,_,_,_,_,_,_,_,_,_,_,_,_,_,_] X0 f ?_
 refine o_j 62 36 X0 f ?_
 refine o_y 65 17 37 X0 f ?_
 refine o_A 66 38 X0 f ?_
 exact o_a1 39 X0 f hret k (by rw[e0];exact ⟨_,rfl,N0,rfl,o_gD (o_ej h i q r t u v w x)⟩)
def o_mv (Z:State)(a b xx y:Int64)(h0:Heap)(n0:Nat)(v:Option Value)(h:Heap)(L:List Loc):Prop:= ∃r:Int32,v=some (.int r)∧Fr n0 L∧h=h0∧o_cr a b xx y r
theorem o_d0 (l:Launch)(Z:State)(a0:Array Value)(hw: ∀d∈tables_1,d.before a0 Z=true)(ws:List Jvm.Cond)(a b xx y:Int64)(h0:Heap)(n0:Nat)(Z0:n0≤h0.size)(j:Old Z n0 h0)(k:0≤a.toInt∧a.toInt<9007199254740992)(n:0≤b.toInt∧b.toInt<9007199254740992)(o:0≤xx.toInt∧xx.toInt<9007199254740992)(q:0≤y.toInt∧y.toInt<9007199254740992):
  o_q l (⟨"com/example/nuthatch/nuthatch/ArgumentsRequireFillMillisPinLaw","cmp","(JJJJ)I"⟩:MethodName) (Jvm.Cond.code (⟨"com/example/nuthatch/nuthatch/ArgumentsRequireFillMillisPinLaw","cmp","(JJJJ)I"⟩:MethodName) method_4_code 16 (some .int)::ws) ({frames:=1,cells:=0,slots:=0,locals:=40}:Room) #[(.long a),(.long b),(.long xx),(.long y)] Z h0 (o_mv Z a b xx y h0 n0):=by
 refine o_u (plainFor_of_name o_de) (fun m=>o_k6 m a b xx y) fun p e s m A B c s₁ hx r g t (u:s.vm.findClass "com/example/nuthatch/nuthatch/ArgumentsRequireFillMillisPinLaw"=some m.cls) hnm hret X0 hZ e0=> ?_
 have f:=o_t hx r o_i_ u hZ t hw
 have N0:=Fr.nil n0
 have KP:Keep h0 h0 []:=Keep.refl _ _
 refine o_P 1 0 X0 f ?_
 refine o_P 2 1 X0 f ?_
 refine o_F 5 2 0 0 0 2 10 11 8 12 X0 f (o_f6 l Z a0 hw [] a b h0 n0 (Nat.le_trans Z0 KP.1) j k n) o_bK e0 fun _ T1 C X1 hQ1=> ?_
 obtain ⟨h1,rfl,v,e1,h⟩:=hQ1
 have N1:=Fr.app N0 v
 refine o_k [_] ?_
 refine o_H 7 3 #[_,_,_,_,_,_,_,_,_,_,_,_,_,_,_,_] X1 f ?_
 refine o_j 9 4 X1 f ?_
 refine o_j 11 5 X1 f ?_
 refine o_F 14 2 0 0 0 6 10 11 8 12 X1 f (o_f6 l Z a0 hw [] xx y h0 n0 (Nat.le_trans Z0 KP.1) j o q) o_bK e1 fun _ T2 D X2 hQ2=> ?_
 obtain ⟨h2,rfl,w,e2,i⟩:=hQ2
 have N2:=Fr.app N1 w
 refine o_k [_] ?_
 refine o_H 16 7 #[_,_,_,_,_,_,_,_,_,_,_,_,_,_,_,_] X2 f ?_
 refine o_j 18 8 X2 f ?_
 refine o_j 20 9 X2 f ?_
 refine o_3 21 10 X2 f ?_
 by_cases hc1:(lcmpW h1 h2)=(0:Int32)
 ·refine o_p 38 11 X2 f rfl ((if0 _ _).trans (teq hc1).1) ?_
  refine o_P 39 20 X2 f ?_
  refine o_P 40 21 X2 f ?_
  refine o_F 43 2 0 0 0 22 14 15 8 16 X2 f (o_f7 l Z a0 hw [] a b h0 n0 (Nat.le_trans Z0 KP.1) j k n) o_bK e2 fun _ T3 E X3 hQ3=> ?_
  obtain ⟨l1,rfl,x,e3,el1⟩:=hQ3
  have N3:=Fr.app N2 x
  refine o_k [_] ?_
  refine o_H 45 23 #[_,_,_,_,_,_,_,_,_,_,_,_,_,_,_,_] X3 f ?_
  refine o_j 47 24 X3 f ?_
  refine o_j 49 25 X3 f ?_
  refine o_F 52 2 0 0 0 26 14 15 8 16 X3 f (o_f7 l Z a0 hw [] xx y h0 n0 (Nat.le_trans Z0 KP.1) j o q) o_bK e3 fun _ T4 F X4 hQ4=> ?_
  obtain ⟨l2,rfl,z,e4,el2⟩:=hQ4
  have N4:=Fr.app N3 z
  refine o_k [_] ?_
  refine o_H 54 27 #[_,_,_,_,_,_,_,_,_,_,_,_,_,_,_,_] X4 f ?_
  refine o_j 56 28 X4 f ?_
  refine o_j 58 29 X4 f ?_
  refine o_3 59 30 X4 f ?_
  by_cases hc3:(lcmpW l1 l2)=(0:Int32)
  ·refine o_p 76 31 X4 f rfl ((if0 _ _).trans (teq hc3).1) ?_
   refine o_g 77 40 0 X4 f ?_
   exact o_W 41 X4 f hret g (by rw[e4];exact ⟨_,rfl,N4,rfl,Or.inr (Or.inl ⟨rfl,o_gI hc1 hc3 h i el1 el2⟩)⟩)
  ·refine o_r 62 31 X4 f rfl ((if0 _ _).trans (feq hc3).1) ?_
   refine o_j 64 32 X4 f ?_
   refine o_j 66 33 X4 f ?_
   refine o_3 67 34 X4 f ?_
   by_cases hc4:(lcmpW l1 l2)<(0:Int32)
   ·refine o_r 70 35 X4 f rfl ((if0 _ _).trans (tlt hc4).2.1) ?_
    refine o_g 71 36 (-1) X4 f ?_
    refine o_w 75 37 X4 f ?_
    exact o_W 39 X4 f hret g (by rw[e4];exact ⟨_,rfl,N4,rfl,Or.inl ⟨rfl,o_gG hc1 hc4 h i el1 el2⟩⟩)
   ·refine o_p 74 35 X4 f rfl ((if0 _ _).trans (flt hc4).2.1) ?_
    refine o_g 75 38 1 X4 f ?_
    exact o_W 39 X4 f hret g (by rw[e4];exact ⟨_,rfl,N4,rfl,Or.inr (Or.inr ⟨rfl,o_gH hc1 hc3 hc4 h i el1 el2⟩)⟩)
 ·refine o_r 24 11 X2 f rfl ((if0 _ _).trans (feq hc1).1) ?_
  refine o_j 26 12 X2 f ?_
  refine o_j 28 13 X2 f ?_
  refine o_3 29 14 X2 f ?_
  by_cases hc2:(lcmpW h1 h2)<(0:Int32)
  ·refine o_r 32 15 X2 f rfl ((if0 _ _).trans (tlt hc2).2.1) ?_
   refine o_g 33 16 (-1) X2 f ?_
   refine o_w 37 17 X2 f ?_
   exact o_W 19 X2 f hret g (by rw[e2];exact ⟨_,rfl,N2,rfl,Or.inl ⟨rfl,o_gE hc2 h i⟩⟩)
  ·refine o_p 36 15 X2 f rfl ((if0 _ _).trans (flt hc2).2.1) ?_
   refine o_g 37 18 1 X2 f ?_
   exact o_W 19 X2 f hret g (by rw[e2];exact ⟨_,rfl,N2,rfl,Or.inr (Or.inr ⟨rfl,o_gF hc1 hc2 h i⟩)⟩)
def o_mw (Z:State)(bx:Addr)(h0:Heap)(n0:Nat)(v:Option Value)(h:Heap)(L:List Loc):Prop:=v=none∧Fr n0 L∧h=h0
theorem o_f8 (l:Launch)(Z:State)(a0:Array Value)(hw: ∀d∈tables_1,d.before a0 Z=true)(ws:List Jvm.Cond)(bx:Addr)(h0:Heap)(n0:Nat)(Z0:n0≤h0.size)(j:Old Z n0 h0):
  o_q l (⟨"java/lang/Number","<init>","()V"⟩:MethodName) (Jvm.Cond.code (⟨"java/lang/Number","<init>","()V"⟩:MethodName) jdk_18_method_1_code 1 none::ws) ({frames:=1,cells:=0,slots:=0,locals:=12}:Room) #[(.ref bx)] Z h0 (o_mw Z bx h0 n0):=by
 refine o_u (plainFor_of_name o_k0) (fun m=>o_k7 m bx) fun p e s m k n c s₁ hx a i b (f:s.vm.findClass "java/lang/Number"=some m.cls) hnm hret X0 hZ e0=> ?_
 have D:=o_S a o_fu
 have h:=o_t hx a o_fu f hZ b hw
 have N0:=Fr.nil n0
 refine o_c 1 0 X0 h ?_
 obtain ⟨T5,X5,e5,st5⟩:=initO X0 hx hZ f (o_b hw 83 rfl) (o_b hw 84 rfl) (o_b hw 85 rfl) e0 (g:=(mkF m 1 #[rv bx] [(.ref bx)])) rfl (by rw[b];rfl) rfl (D 1 rfl) (by decide) (W:=0) (by show 2*0+_≤_;exact Nat.le_of_eq rfl) (by decide)
 refine o_i (mkF m 4 #[rv bx] []) st5 ?_
 exact o_al 2 X5 h hret i (by rw[e5];exact ⟨rfl,N0,rfl⟩)
def o_mx (Z:State)(bx:Addr)(val:Int64)(h0:Heap)(n0:Nat)(v:Option Value)(h:Heap)(L:List Loc):Prop:=v=none∧Fr n0 L∧Keep h0 h [bx]∧ ∃(a:Addr) (k:ClassId),n0≤a∧h0.size≤a∧o_av Z h bx a k val.toInt
theorem o_my (l:Launch)(Z:State)(a0:Array Value)(hw: ∀d∈tables_1,d.before a0 Z=true)(ws:List Jvm.Cond)(bx:Addr)(val:Int64)(h0:Heap)(n0:Nat)(Z0:n0≤h0.size)(K:Old Z n0 h0)(A:n0≤bx)(b:Exa Z h0 bx "java/math/BigInteger")(h:Fld Z h0 bx "java/math/BigInteger" "signum" "I" (.int (0:Int32)))(f:Fld Z h0 bx "java/math/BigInteger" "mag" "[I" .null)(x:0≤val.toInt∧val.toInt<9007199254740992)(r0:0<val.toInt):
  o_q l (⟨"java/math/BigInteger","<init>","(J)V"⟩:MethodName) (Jvm.Cond.code (⟨"java/math/BigInteger","<init>","(J)V"⟩:MethodName) jdk_2097_method_30_code 4 none::ws) ({frames:=2,cells:=1,slots:=2,locals:=30}:Room) #[(.ref bx),(.long val)] Z h0 (o_mx Z bx val h0 n0):=by
 refine o_u (plainFor_of_name o_Y) (fun m=>o_k8 m bx val) fun p e s m X Y c s₁ hx F G L (M:s.vm.findClass "java/math/BigInteger"=some m.cls) hnm hret X0 hZ e0=> ?_
 have D:=o_S F o_fv
 have a:=o_t hx F o_fv M hZ L hw
 have N0:=Fr.nil n0
 have KP:Keep h0 h0 [bx]:=Keep.refl _ _
 refine o_c 1 0 X0 a ?_
 refine o_7 4 0 0 0 0 1 77 78 81 82 X0 a (o_f8 l Z a0 hw [] bx h0 n0 (Nat.le_trans Z0 KP.1) K) o_be e0 rfl fun _ T6 ae X6 N=> ?_
 obtain ⟨rfl,O,e6⟩:=N
 have N6:=Fr.app N0 O
 refine o_k [] ?_
 refine o_P 5 2 X6 a ?_
 refine o_ac 6 3 0 X6 a ?_
 refine o_3 7 4 X6 a ?_
 refine o_p 21 5 X6 a rfl ((if0 _ _).trans (flt (o_el x)).2.1) ?_
 refine o_c 22 13 X6 a ?_
 refine o_g 23 14 1 X6 a ?_
 refine o_R 26 15 38 72 X6 a e6 h b (Or.inr ⟨(o_b hw 39 rfl),rfl,hnm⟩) (ty:= .int) fun T7 h7 X7 e7 W7=> ?_
 have N7:=Fr.snoc X7 N6 A
 have P:Fld Z h7 bx "java/math/BigInteger" "signum" "I" (.int (1:Int32)):=h.same W7
 have KP:=KP.wr W7 (Or.inl (List.mem_of_getElem? (i:=0) rfl))
 have b:=b.wr W7
 have f:=f.other W7 (Or.inr (slot_ne (Or.inr (o_b hw 41 rfl)) (Or.inr (o_b hw 39 rfl)) (by decide) (t:=(.array .int)) (t':= .int) (by decide) (by decide)))
 have h:=P
 refine o_P 27 16 X7 a ?_
 refine o_B 29 17 32 X7 a ?_
 refine o_ak 30 18 X7 a ?_
 refine o_X 31 19 X7 a ?_
 refine o_O 32 20 #[_,_,_,_] X7 a ?_
 refine o_e 33 21 X7 a ?_
 by_cases hz:(((val.toUInt64>>>((32:Int32)&&&0x3f).toInt64.toUInt64).toInt64).toInt32)=(0:Int32)
 ·refine o_r 36 22 X7 a rfl ((if0 _ _).trans (teq hz).2) ?_
  refine o_c 37 23 X7 a ?_
  refine o_g 38 24 1 X7 a ?_
  obtain ⟨T8,h8,k8,X8,e8,E8,A8,H,st8⟩:=newPE X7 hx hZ (o_b hw 52 rfl) e7 (g:=(mkF m 38 #[rv bx,.val (.long val),.second,iv (((val.toUInt64>>>((32:Int32)&&&0x3f).toInt64.toUInt64).toInt64).toInt32)] [(.int (1:Int32)),(.ref bx)])) rfl (D 25 rfl) rfl (by decide) (cap:=1) (by decide) (by decide) (by decide) (by decide) (ad:="[I") (by decide)
  obtain ⟨b8,g8⟩: ∃z,z=h7.size:=⟨_,rfl⟩
  rw[←g8] at A8 H st8
  have B:h0.size≤b8:=Nat.le_trans KP.1 (Nat.le_of_eq g8.symm)
  have I:n0≤b8:=Nat.le_trans Z0 B
  have C:bx≠b8:=Nat.ne_of_lt (Nat.lt_of_lt_of_le b.lt (Nat.le_of_eq g8.symm))
  have KP:=KP.ext E8
  have b:=b.ext E8
  have h:=h.ext E8
  have f:=f.ext E8
  have o:Exa Z h8 b8 "[I":=H
  have q:Arv Z h8 b8 k8 .int (1:Int32) [(.int (0:Int32))] (.int (0:Int32)):=(Arv.new A8 (by decide)).pad (pad_rep [] (.int (0:Int32)) 1)
  refine o_i (mkF m 40 #[rv bx,.val (.long val),.second,iv (((val.toUInt64>>>((32:Int32)&&&0x3f).toInt64.toUInt64).toInt64).toInt32)] [(.ref b8),(.ref bx)]) st8 ?_
  refine o_R 43 26 40 72 X8 a e8 f b (Or.inr ⟨(o_b hw 41 rfl),rfl,hnm⟩) (ty:=(.array .int)) fun T9 h9 X9 e9 W9=> ?_
  have N9:=Fr.snoc X9 N7 A
  have Q:Fld Z h9 bx "java/math/BigInteger" "mag" "[I" (.ref b8):=f.same W9
  have KP:=KP.wr W9 (Or.inl (List.mem_of_getElem? (i:=0) rfl))
  have b:=b.wr W9
  have h:=h.other W9 (Or.inr (slot_ne (Or.inr (o_b hw 39 rfl)) (Or.inr (o_b hw 41 rfl)) (by decide) (t:= .int) (t':=(.array .int)) (by decide) (by decide)))
  have o:=o.wr W9
  have q:=q.other W9 (Ne.symm C)
  have f:=Q
  refine o_c 44 27 X9 a ?_
  refine o_h 47 28 40 X9 a e9 f fun T10 X10 e10=> ?_
  refine o_g 48 29 0 X10 a ?_
  refine o_P 49 30 X10 a ?_
  refine o_X 50 31 X10 a ?_
  refine o_8 51 0 32 X10 a e10 q fun T11 h11 X11 e11 r R=> ?_
  have N11:=Fr.snoc X11 N9 I
  have KP:=KP.wr r (Or.inr B)
  have b:=b.wr r
  have h:=h.other r (Or.inl C)
  have f:=f.other r (Or.inl C)
  have o:=o.wr r
  have q:Arv Z h11 b8 k8 .int (1:Int32) [(.int (val.toInt32))] (.int (0:Int32)):=R
  refine o_w 76 33 X11 a ?_
  exact o_al 49 X11 a hret G (by rw[e11];exact ⟨rfl,N11,KP,b8,k8,I,B,Or.inl ⟨_,⟨b,h,f,q,o⟩,o_gK (o_ek hz x) r0,o_ek hz x⟩⟩)
 ·refine o_p 54 22 X7 a rfl ((if0 _ _).trans (feq hz).2) ?_
  refine o_c 55 34 X7 a ?_
  refine o_g 56 35 2 X7 a ?_
  obtain ⟨T12,h12,k12,X12,e12,E12,A12,J,st12⟩:=newPE X7 hx hZ (o_b hw 52 rfl) e7 (g:=(mkF m 56 #[rv bx,.val (.long val),.second,iv (((val.toUInt64>>>((32:Int32)&&&0x3f).toInt64.toUInt64).toInt64).toInt32)] [(.int (2:Int32)),(.ref bx)])) rfl (D 36 rfl) rfl (by decide) (cap:=2) (by decide) (by decide) (by decide) (by decide) (ad:="[I") (by decide)
  obtain ⟨b12,g12⟩: ∃z,z=h7.size:=⟨_,rfl⟩
  rw[←g12] at A12 J st12
  have y:h0.size≤b12:=Nat.le_trans KP.1 (Nat.le_of_eq g12.symm)
  have E:n0≤b12:=Nat.le_trans Z0 y
  have u:bx≠b12:=Nat.ne_of_lt (Nat.lt_of_lt_of_le b.lt (Nat.le_of_eq g12.symm))
  have KP:=KP.ext E12
  have b:=b.ext E12
  have h:=h.ext E12
  have f:=f.ext E12
  have j:Exa Z h12 b12 "[I":=J
  have k:Arv Z h12 b12 k12 .int (2:Int32) [(.int (0:Int32)),(.int (0:Int32))] (.int (0:Int32)):=(Arv.new A12 (by decide)).pad (pad_rep [] (.int (0:Int32)) 2)
  refine o_i (mkF m 58 #[rv bx,.val (.long val),.second,iv (((val.toUInt64>>>((32:Int32)&&&0x3f).toInt64.toUInt64).toInt64).toInt32)] [(.ref b12),(.ref bx)]) st12 ?_
  refine o_R 61 37 40 72 X12 a e12 f b (Or.inr ⟨(o_b hw 41 rfl),rfl,hnm⟩) (ty:=(.array .int)) fun T13 h13 X13 e13 n=> ?_
  have S:=Fr.snoc X13 N7 A
  have T:Fld Z h13 bx "java/math/BigInteger" "mag" "[I" (.ref b12):=f.same n
  have KP:=KP.wr n (Or.inl (List.mem_of_getElem? (i:=0) rfl))
  have b:=b.wr n
  have h:=h.other n (Or.inr (slot_ne (Or.inr (o_b hw 39 rfl)) (Or.inr (o_b hw 41 rfl)) (by decide) (t:= .int) (t':=(.array .int)) (by decide) (by decide)))
  have j:=j.wr n
  have k:=k.other n (Ne.symm u)
  have f:=T
  refine o_c 62 38 X13 a ?_
  refine o_h 65 39 40 X13 a e13 f fun T14 X14 e14=> ?_
  refine o_g 66 40 0 X14 a ?_
  refine o_e 67 41 X14 a ?_
  refine o_8 68 0 42 X14 a e14 k fun T15 h15 X15 e15 v U=> ?_
  have V:=Fr.snoc X15 S E
  have KP:=KP.wr v (Or.inr y)
  have b:=b.wr v
  have h:=h.other v (Or.inl u)
  have f:=f.other v (Or.inl u)
  have j:=j.wr v
  have k:Arv Z h15 b12 k12 .int (2:Int32) [(.int (((val.toUInt64>>>((32:Int32)&&&0x3f).toInt64.toUInt64).toInt64).toInt32)),(.int (0:Int32))] (.int (0:Int32)):=U
  refine o_c 69 43 X15 a ?_
  refine o_h 72 44 40 X15 a e15 f fun T16 X16 e16=> ?_
  refine o_g 73 45 1 X16 a ?_
  refine o_P 74 46 X16 a ?_
  refine o_X 75 47 X16 a ?_
  refine o_8 76 1 48 X16 a e16 k fun T17 h17 X17 e17 w W=> ?_
  have N17:=Fr.snoc X17 V E
  have KP:=KP.wr w (Or.inr y)
  have b:=b.wr w
  have h:=h.other w (Or.inl u)
  have f:=f.other w (Or.inl u)
  have j:=j.wr w
  have k:Arv Z h17 b12 k12 .int (2:Int32) [(.int (((val.toUInt64>>>((32:Int32)&&&0x3f).toInt64.toUInt64).toInt64).toInt32)),(.int (val.toInt32))] (.int (0:Int32)):=W
  exact o_al 49 X17 a hret G (by rw[e17];exact ⟨rfl,N17,KP,b12,k12,E,y,Or.inr ⟨_,_,⟨b,h,f,k,j⟩,hz,o_gJ hz x⟩⟩)
def o_mz (Z:State)(val:Int64)(pc:Addr)(kp:ClassId)(b:List Value)(c:Value)(h0:Heap)(n0:Nat)(v:Option Value)(h:Heap)(L:List Loc):Prop:= ∃(x a:Addr) (k:ClassId),v=some (.ref x)∧Fr n0 L∧Keep h0 h []∧o_av Z h x a k val.toInt
theorem o_df (l:Launch)(Z:State)(a0:Array Value)(hw: ∀d∈tables_1,d.before a0 Z=true)(ws:List Jvm.Cond)(val:Int64)(pc:Addr)(kp:ClassId)(k:List Value)(n:Value)(h0:Heap)(n0:Nat)(Z0:n0≤h0.size)(b:Old Z n0 h0)(o:0≤val.toInt∧val.toInt<9007199254740992)(r0:0<val.toInt)(SP:Sta Z Z.heap "java/math/BigInteger" "posConst" "[Ljava/math/BigInteger;" (.ref pc))(HP:o_ct Z pc kp k n):
  o_q l (⟨"java/math/BigInteger","valueOf","(J)Ljava/math/BigInteger;"⟩:MethodName) (Jvm.Cond.code (⟨"java/math/BigInteger","valueOf","(J)Ljava/math/BigInteger;"⟩:MethodName) jdk_2097_method_29_code 2 (some (.object "java/math/BigInteger"))::ws) ({frames:=3,cells:=2,slots:=8,locals:=50}:Room) #[(.long val)] Z h0 (o_mz Z val pc kp k n h0 n0):=by
 refine o_u (plainFor_of_name o_Y) (fun m=>o_k9 m val) fun p e s m J K c s₁ hx q r w (f:s.vm.findClass "java/math/BigInteger"=some m.cls) hnm hret X0 hZ e0=> ?_
 have D:=o_S q o_fw
 have a:=o_t hx q o_fw f hZ w hw
 have N0:=Fr.nil n0
 have KP:Keep h0 h0 []:=Keep.refl _ _
 refine o_P 1 0 X0 a ?_
 refine o_ac 2 1 0 X0 a ?_
 refine o_3 3 2 X0 a ?_
 refine o_p 10 3 X0 a rfl ((if0 _ _).trans (feq (o_gM r0)).2) ?_
 refine o_P 11 6 X0 a ?_
 refine o_ac 12 7 0 X0 a ?_
 refine o_3 13 8 X0 a ?_
 refine o_r 16 9 X0 a rfl ((if0 _ _).trans (tlt (o_gN r0)).2.2.2) ?_
 refine o_P 17 10 X0 a ?_
 refine o_y 20 26 11 X0 a ?_
 refine o_3 21 12 X0 a ?_
 by_cases h16:(0:Int32)<(lcmpW val (16:Int64))
 ·refine o_p 31 13 X0 a rfl ((if0 _ _).trans (tlt h16).2.2.1) ?_
  refine o_P 32 19 X0 a ?_
  refine o_ac 33 20 0 X0 a ?_
  refine o_3 34 21 X0 a ?_
  refine o_p 53 22 X0 a rfl ((if0 _ _).trans (flt (o_el o)).2.1) ?_
  obtain ⟨T20,h20,X20,e20,E20,A20,h,-,st20⟩:=newO X0 hx hZ f (o_b hw 71 rfl) (o_b hw 72 rfl) (o_b hw 24 rfl) e0 (g:=(mkF m 53 #[.val (.long val),.second] [])) rfl (D 33 rfl) (by decide) (by decide)
  obtain ⟨b20,g20⟩: ∃z,z=h0.size:=⟨_,rfl⟩
  rw[←g20] at A20 h st20
  have t:h0.size≤b20:=Nat.le_trans KP.1 (Nat.le_of_eq g20.symm)
  have x:n0≤b20:=Nat.le_trans Z0 t
  have b:=b.ext E20
  have KP:=KP.ext E20
  have y:Exa Z h20 b20 "java/math/BigInteger":=A20
  have A:Fld Z h20 b20 "java/math/BigInteger" "signum" "I" (.int (0:Int32)):=h (Or.inr (o_b hw 39 rfl)) (ty:= .int) (by decide)
  have B:Fld Z h20 b20 "java/math/BigInteger" "mag" "[I" .null:=h (Or.inr (o_b hw 41 rfl)) (ty:=(.array .int)) (by decide)
  refine o_i (mkF m 56 #[.val (.long val),.second] [(.ref b20)]) st20 ?_
  refine o_ab 57 34 X20 a ?_
  refine o_P 58 35 X20 a ?_
  refine o_7 61 1 1 2 8 36 87 88 24 89 X20 a (o_my l Z a0 hw [] b20 val h20 n0 (Nat.le_trans Z0 KP.1) b x y A B o r0) o_kS e20 rfl fun _ T21 L X21 C=> ?_
  obtain ⟨rfl,E,F,ba,ka,-,-,G⟩:=C
  have H:=Fr.app N0 E
  have KP:=KP.trans F (allS (Or.inr t) all0)
  refine o_k [_] ?_
  exact o_K 37 X21 a hret r (by exact ⟨b20,ba,ka,rfl,H,KP,G⟩)
 ·refine o_r 24 13 X0 a rfl ((if0 _ _).trans (flt h16).2.2.1) ?_
  obtain ⟨T18,X18,e18,st18⟩:=getS2 X0 hx hZ f (host:="") (Or.inl (o_b hw 27 rfl)) Via.refl e0 (SP.ext b.2) (g:=(mkF m 24 #[.val (.long val),.second] [])) rfl (D 14 rfl)
  refine o_i (mkF m 27 #[.val (.long val),.second] [(.ref pc)]) st18 ?_
  refine o_P 28 15 X18 a ?_
  refine o_X 29 16 X18 a ?_
  obtain ⟨q1,q2,q3,q4,q5,q6⟩:=o_gL r0 h16
  obtain ⟨px,pa,pk,pe,pB⟩:=HP.2 _ q1 q2
  have PA:=HP.1.ext b.2
  obtain ⟨M,i,-,I,-,H19,-⟩:=id PA
  have u:=inb_of I ⟨q4,q5⟩
  refine o_i (mkF m 30 #[.val (.long val),.second] [(.ref px)]) (X18.aaload hx (j:=(val.toInt32)) (v:=(.ref px)) (by rw[e18];exact i.1) (State.isArrayOf_alike hZ.alike i.2.1) rfl i.2.2 u (H19.at u pe) (g:=(mkF m 29 #[.val (.long val),.second] [(.int (val.toInt32)),(.ref pc)])) rfl rfl (D 17 rfl)) ?_
  exact o_K 18 X18 a hret r (by rw[e18];exact ⟨px,pa,pk,rfl,N0,KP,Or.inl ⟨_,pB.ext b.2,q6,q3⟩⟩)
def o_mA (Z:State)(y:Int32)(h0:Heap)(n0:Nat)(v:Option Value)(h:Heap)(L:List Loc):Prop:= ∃r:Int32,v=some (.int r)∧Fr n0 L∧h=h0∧o_gY y r
theorem o_f9 (l:Launch)(Z:State)(a0:Array Value)(hw: ∀d∈tables_1,d.before a0 Z=true)(ws:List Jvm.Cond)(y:Int32)(h0:Heap)(n0:Nat)(Z0:n0≤h0.size)(r:Old Z n0 h0):
  o_q l (⟨"java/lang/Integer","bitCount","(I)I"⟩:MethodName) (Jvm.Cond.code (⟨"java/lang/Integer","bitCount","(I)I"⟩:MethodName) jdk_33_method_49_code 1 (some .int)::ws) ({frames:=0,cells:=0,slots:=0,locals:=0}:Room) #[(.int y)] Z h0 (o_mA Z y h0 n0):=by
 refine o_u (plainFor_of_name o_dY) (fun m=>o_k_ m y) fun p e s m t u c s₁ hx b f g (h:s.vm.findClass "java/lang/Integer"=some m.cls) hnm hret X0 hZ e0=> ?_
 have a:=o_t hx b o_jd h hZ g hw
 have N0:=Fr.nil n0
 refine o_e 1 0 X0 a ?_
 refine o_e 2 1 X0 a ?_
 refine o_g 3 2 1 X0 a ?_
 refine o_af 4 3 X0 a ?_
 refine o_bN 7 49 4 X0 a ?_
 refine o_ba 8 5 X0 a ?_
 refine o_J 9 6 X0 a ?_
 generalize i:(y-(((y.toUInt32>>>((1:Int32)&&&31).toUInt32).toInt32)&&&(1431655765:Int32)))=i1
 refine o_O 10 7 #[_] X0 a ?_
 refine o_e 11 8 X0 a ?_
 refine o_bN 14 50 9 X0 a ?_
 refine o_ba 15 10 X0 a ?_
 refine o_e 16 11 X0 a ?_
 refine o_g 17 12 2 X0 a ?_
 refine o_af 18 13 X0 a ?_
 refine o_bN 21 50 14 X0 a ?_
 refine o_ba 22 15 X0 a ?_
 refine o_v 23 16 X0 a ?_
 generalize j:((i1&&&(858993459:Int32))+(((i1.toUInt32>>>((2:Int32)&&&31).toUInt32).toInt32)&&&(858993459:Int32)))=i2
 refine o_O 24 17 #[_] X0 a ?_
 refine o_e 25 18 X0 a ?_
 refine o_e 26 19 X0 a ?_
 refine o_g 27 20 4 X0 a ?_
 refine o_af 28 21 X0 a ?_
 refine o_v 29 22 X0 a ?_
 refine o_bN 32 51 23 X0 a ?_
 refine o_ba 33 24 X0 a ?_
 generalize k:((i2+((i2.toUInt32>>>((4:Int32)&&&31).toUInt32).toInt32))&&&(252645135:Int32))=i3
 refine o_O 34 25 #[_] X0 a ?_
 refine o_e 35 26 X0 a ?_
 refine o_e 36 27 X0 a ?_
 refine o_B 38 28 8 X0 a ?_
 refine o_af 39 29 X0 a ?_
 refine o_v 40 30 X0 a ?_
 generalize n:(i3+((i3.toUInt32>>>((8:Int32)&&&31).toUInt32).toInt32))=i4
 refine o_O 41 31 #[_] X0 a ?_
 refine o_e 42 32 X0 a ?_
 refine o_e 43 33 X0 a ?_
 refine o_B 45 34 16 X0 a ?_
 refine o_af 46 35 X0 a ?_
 refine o_v 47 36 X0 a ?_
 generalize o:(i4+((i4.toUInt32>>>((16:Int32)&&&31).toUInt32).toInt32))=i5
 refine o_O 48 37 #[_] X0 a ?_
 refine o_e 49 38 X0 a ?_
 refine o_B 51 39 63 X0 a ?_
 refine o_ba 52 40 X0 a ?_
 exact o_W 41 X0 a hret f (by rw[e0];exact ⟨_,rfl,N0,rfl,fun q=>o_gU i j k n o q⟩)
def o_ci (Z:State)(y:Int32)(h0:Heap)(n0:Nat)(v:Option Value)(h:Heap)(L:List Loc):Prop:=v=some (.int (o_bi y))∧Fr n0 L∧h=h0
theorem o_f_ (l:Launch)(Z:State)(a0:Array Value)(hw: ∀d∈tables_1,d.before a0 Z=true)(ws:List Jvm.Cond)(y:Int32)(h0:Heap)(n0:Nat)(Z0:n0≤h0.size)(L:Old Z n0 h0):
  o_q l (⟨"java/lang/Integer","numberOfTrailingZeros","(I)I"⟩:MethodName) (Jvm.Cond.code (⟨"java/lang/Integer","numberOfTrailingZeros","(I)I"⟩:MethodName) jdk_33_method_48_code 2 (some .int)::ws) ({frames:=0,cells:=0,slots:=0,locals:=0}:Room) #[(.int y)] Z h0 (o_ci Z y h0 n0):=by
 refine o_u (plainFor_of_name o_dY) (fun m=>o_k' m y) fun p e s m b M c s₁ hx n f o (t:s.vm.findClass "java/lang/Integer"=some m.cls) hnm hret X0 hZ e0=> ?_
 have a:=o_t hx n o_jf t hZ o hw
 have N0:=Fr.nil n0
 refine o_e 1 0 X0 a ?_
 refine o_g 2 1 (-1) X0 a ?_
 refine o_dH 3 2 X0 a ?_
 refine o_e 4 3 X0 a ?_
 refine o_g 5 4 1 X0 a ?_
 refine o_J 6 5 X0 a ?_
 refine o_ba 7 6 X0 a ?_
 generalize g:((y^^^(-1:Int32))&&&(y-(1:Int32)))=i0
 refine o_O 8 7 #[_,_] X0 a ?_
 refine o_e 9 8 X0 a ?_
 by_cases hp:(0:Int32)<i0
 ·refine o_p 17 9 X0 a rfl ((if0 _ _).trans (tlt hp).2.2.1) ?_
  refine o_g 18 14 1 X0 a ?_
  refine o_O 19 15 #[_,_] X0 a ?_
  refine o_e 20 16 X0 a ?_
  refine o_bN 23 218 17 X0 a ?_
  suffices h: ∀i1:Int32,((65536:Int32)<i0→i1=((i0.toUInt32>>>((16:Int32)&&&31).toUInt32).toInt32))→(¬(65536:Int32)<i0→i1=i0)→ ∀n1:Int32,((65536:Int32)<i0→n1=(17:Int32))→(¬(65536:Int32)<i0→n1=(1:Int32))→o_f p e b (o_V s (o_ci Z y h0 n0) ({frames:=0,cells:=0,slots:=0,locals:=0}:Room).cells ({frames:=0,cells:=0,slots:=0,locals:=0}:Room).slots) s₁ (mkF m 34 #[iv i1,iv n1] []) from by
   by_cases hj0:(65536:Int32)<i0
   ·refine o_E 26 18 X0 a rfl (tlt hj0).2.2.2 ?_
    refine o_G 29 19 #[_,iv 17] X0 a ?_
    refine o_e 30 20 X0 a ?_
    refine o_B 32 21 16 X0 a ?_
    refine o_af 33 22 X0 a ?_
    refine o_O 34 23 #[_,_] X0 a ?_
    exact h ((i0.toUInt32>>>((16:Int32)&&&31).toUInt32).toInt32) (fun _=>rfl) (fun q=>absurd hj0 q) (17:Int32) (fun _=>rfl) (fun q=>absurd hj0 q)
   ·refine o_z 34 18 X0 a rfl (flt hj0).2.2.2 ?_
    exact h i0 (fun q=>absurd q hj0) (fun _=>rfl) (1:Int32) (fun q=>absurd q hj0) (fun _=>rfl)
  intro i1 u v n1 w x
  refine o_e 35 24 X0 a ?_
  refine o_eA 38 25 256 X0 a ?_
  suffices i: ∀i2:Int32,((256:Int32)<i1→i2=((i1.toUInt32>>>((8:Int32)&&&31).toUInt32).toInt32))→(¬(256:Int32)<i1→i2=i1)→ ∀n2:Int32,((256:Int32)<i1→n2=(n1+(8:Int32)))→(¬(256:Int32)<i1→n2=n1)→o_f p e b (o_V s (o_ci Z y h0 n0) ({frames:=0,cells:=0,slots:=0,locals:=0}:Room).cells ({frames:=0,cells:=0,slots:=0,locals:=0}:Room).slots) s₁ (mkF m 49 #[iv i2,iv n2] []) from by
   by_cases hj1:(256:Int32)<i1
   ·refine o_E 41 26 X0 a rfl (tlt hj1).2.2.2 ?_
    refine o_G 44 27 #[_,iv (n1+(8:Int32))] X0 a ?_
    refine o_e 45 28 X0 a ?_
    refine o_B 47 29 8 X0 a ?_
    refine o_af 48 30 X0 a ?_
    refine o_O 49 31 #[_,_] X0 a ?_
    exact i ((i1.toUInt32>>>((8:Int32)&&&31).toUInt32).toInt32) (fun _=>rfl) (fun q=>absurd hj1 q) (n1+(8:Int32)) (fun _=>rfl) (fun q=>absurd hj1 q)
   ·refine o_z 49 26 X0 a rfl (flt hj1).2.2.2 ?_
    exact i i1 (fun q=>absurd q hj1) (fun _=>rfl) n1 (fun q=>absurd q hj1) (fun _=>rfl)
  intro i2 z A n2 B C
  refine o_e 50 32 X0 a ?_
  refine o_B 52 33 16 X0 a ?_
  suffices j: ∀i3:Int32,((16:Int32)<i2→i3=((i2.toUInt32>>>((4:Int32)&&&31).toUInt32).toInt32))→(¬(16:Int32)<i2→i3=i2)→ ∀n3:Int32,((16:Int32)<i2→n3=(n2+(4:Int32)))→(¬(16:Int32)<i2→n3=n2)→o_f p e b (o_V s (o_ci Z y h0 n0) ({frames:=0,cells:=0,slots:=0,locals:=0}:Room).cells ({frames:=0,cells:=0,slots:=0,locals:=0}:Room).slots) s₁ (mkF m 62 #[iv i3,iv n3] []) from by
   by_cases hj2:(16:Int32)<i2
   ·refine o_E 55 34 X0 a rfl (tlt hj2).2.2.2 ?_
    refine o_G 58 35 #[_,iv (n2+(4:Int32))] X0 a ?_
    refine o_e 59 36 X0 a ?_
    refine o_g 60 37 4 X0 a ?_
    refine o_af 61 38 X0 a ?_
    refine o_O 62 39 #[_,_] X0 a ?_
    exact j ((i2.toUInt32>>>((4:Int32)&&&31).toUInt32).toInt32) (fun _=>rfl) (fun q=>absurd hj2 q) (n2+(4:Int32)) (fun _=>rfl) (fun q=>absurd hj2 q)
   ·refine o_z 62 34 X0 a rfl (flt hj2).2.2.2 ?_
    exact j i2 (fun q=>absurd q hj2) (fun _=>rfl) n2 (fun q=>absurd q hj2) (fun _=>rfl)
  intro i3 D E n3 F G
  refine o_e 63 40 X0 a ?_
  refine o_g 64 41 4 X0 a ?_
  suffices k: ∀i4:Int32,((4:Int32)<i3→i4=((i3.toUInt32>>>((2:Int32)&&&31).toUInt32).toInt32))→(¬(4:Int32)<i3→i4=i3)→ ∀n4:Int32,((4:Int32)<i3→n4=(n3+(2:Int32)))→(¬(4:Int32)<i3→n4=n3)→o_f p e b (o_V s (o_ci Z y h0 n0) ({frames:=0,cells:=0,slots:=0,locals:=0}:Room).cells ({frames:=0,cells:=0,slots:=0,locals:=0}:Room).slots) s₁ (mkF m 74 #[iv i4,iv n4] []) from by
   by_cases hj3:(4:Int32)<i3
   ·refine o_E 67 42 X0 a rfl (tlt hj3).2.2.2 ?_
    refine o_G 70 43 #[_,iv (n3+(2:Int32))] X0 a ?_
    refine o_e 71 44 X0 a ?_
    refine o_g 72 45 2 X0 a ?_
    refine o_af 73 46 X0 a ?_
    refine o_O 74 47 #[_,_] X0 a ?_
    exact k ((i3.toUInt32>>>((2:Int32)&&&31).toUInt32).toInt32) (fun _=>rfl) (fun q=>absurd hj3 q) (n3+(2:Int32)) (fun _=>rfl) (fun q=>absurd hj3 q)
   ·refine o_z 74 42 X0 a rfl (flt hj3).2.2.2 ?_
    exact k i3 (fun q=>absurd q hj3) (fun _=>rfl) n3 (fun q=>absurd q hj3) (fun _=>rfl)
  intro i4 H I n4 J K
  refine o_e 75 48 X0 a ?_
  refine o_e 76 49 X0 a ?_
  refine o_g 77 50 1 X0 a ?_
  refine o_af 78 51 X0 a ?_
  refine o_v 79 52 X0 a ?_
  exact o_W 53 X0 a hret f (by rw[e0];exact ⟨congrArg (fun r=>some (Value.int r)) (o_gV g hp (o_cz u v w x) (o_cz z A B C) (o_cz D E F G) (o_cz H I J K)),N0,rfl⟩)
 ·refine o_r 12 9 X0 a rfl ((if0 _ _).trans (flt hp).2.2.1) ?_
  refine o_e 13 10 X0 a ?_
  refine o_B 15 11 32 X0 a ?_
  refine o_ba 16 12 X0 a ?_
  exact o_W 13 X0 a hret f (by rw[e0];exact ⟨congrArg (fun r=>some (Value.int r)) (o_gW g hp),N0,rfl⟩)
def o_mB (Z:State)(fr to:Int32)(h0:Heap)(n0:Nat)(v:Option Value)(h:Heap)(L:List Loc):Prop:=v=none∧Fr n0 L∧h=h0
theorem o_dg (l:Launch)(Z:State)(a0:Array Value)(hw: ∀d∈tables_1,d.before a0 Z=true)(ws:List Jvm.Cond)(fr to:Int32)(h0:Heap)(n0:Nat)(Z0:n0≤h0.size)(i:Old Z n0 h0)(hft: ¬(to<fr)):
  o_q l (⟨"java/util/Arrays","checkLength","(II)V"⟩:MethodName) (Jvm.Cond.code (⟨"java/util/Arrays","checkLength","(II)V"⟩:MethodName) jdk_65_method_131_code 2 none::ws) ({frames:=0,cells:=0,slots:=0,locals:=0}:Room) #[(.int fr),(.int to)] Z h0 (o_mB Z fr to h0 n0):=by
 refine o_u (plainFor_of_name o_aW) (fun m=>o_la m fr to) fun p e s m j k c s₁ hx b f g (h:s.vm.findClass "java/util/Arrays"=some m.cls) hnm hret X0 hZ e0=> ?_
 have a:=o_t hx b o_jh h hZ g hw
 have N0:=Fr.nil n0
 refine o_e 1 0 X0 a ?_
 refine o_e 2 1 X0 a ?_
 refine o_z 37 2 X0 a rfl (flt hft).2.1 ?_
 exact o_al 17 X0 a hret f (by rw[e0];exact ⟨rfl,N0,rfl⟩)
def o_mC (Z:State)(aa bb:Int32)(h0:Heap)(n0:Nat)(v:Option Value)(h:Heap)(L:List Loc):Prop:=v=some (.int bb)∧Fr n0 L∧h=h0
theorem o_dh (l:Launch)(Z:State)(a0:Array Value)(hw: ∀d∈tables_1,d.before a0 Z=true)(ws:List Jvm.Cond)(aa bb:Int32)(h0:Heap)(n0:Nat)(Z0:n0≤h0.size)(i:Old Z n0 h0)(hab: ¬(aa<bb)):
  o_q l (⟨"java/lang/Math","min","(II)I"⟩:MethodName) (Jvm.Cond.code (⟨"java/lang/Math","min","(II)I"⟩:MethodName) jdk_29_method_69_code 2 (some .int)::ws) ({frames:=0,cells:=0,slots:=0,locals:=0}:Room) #[(.int aa),(.int bb)] Z h0 (o_mC Z aa bb h0 n0):=by
 refine o_u (Jvm.Free.JP.mathPlain rfl (by decide+kernel)) (fun m=>o_lb m aa bb) fun p e s m j k c s₁ hx f b g (h:s.vm.findClass "java/lang/Math"=some m.cls) hnm hret X0 hZ e0=> ?_
 have a:=o_t hx f o_jj h hZ g hw
 have N0:=Fr.nil n0
 refine o_e 1 0 X0 a ?_
 refine o_e 2 1 X0 a ?_
 by_cases hm:bb<aa
 ·refine o_z 9 2 X0 a rfl (tlt hm).2.2.1 ?_
  refine o_e 10 5 X0 a ?_
  exact o_W 6 X0 a hret b (by rw[e0];exact ⟨rfl,N0,rfl⟩)
 ·refine o_E 5 2 X0 a rfl (flt hm).2.2.1 ?_
  refine o_e 6 3 X0 a ?_
  refine o_w 10 4 X0 a ?_
  exact o_W 6 X0 a hret b (by rw[e0];exact ⟨congrArg (fun r=>some (Value.int r)) (o_g0 hm hab),N0,rfl⟩)
def o_mD (Z:State)(lo hi len:Int32)(h0:Heap)(n0:Nat)(v:Option Value)(h:Heap)(L:List Loc):Prop:=v=some (.int lo)∧Fr n0 L∧h=h0
theorem o_mE (l:Launch)(Z:State)(a0:Array Value)(hw: ∀d∈tables_1,d.before a0 Z=true)(ws:List Jvm.Cond)(lo hi len:Int32)(h0:Heap)(n0:Nat)(Z0:n0≤h0.size)(i:Old Z n0 h0)(q1: ¬(lo<(0:Int32)))(q2: ¬(hi<lo))(q3: ¬(len<hi)):
  o_q l (⟨"jdk/internal/util/Preconditions","checkFromToIndex","(IIILjava/util/function/BiFunction;)I"⟩:MethodName) (Jvm.Cond.code (⟨"jdk/internal/util/Preconditions","checkFromToIndex","(IIILjava/util/function/BiFunction;)I"⟩:MethodName) jdk_41_method_12_code 4 (some .int)::ws) ({frames:=0,cells:=0,slots:=0,locals:=0}:Room) #[(.int lo),(.int hi),(.int len),.null] Z h0 (o_mD Z lo hi len h0 n0):=by
 refine o_u (plainFor_of_name o_k1) (fun m=>o_lc m lo hi len) fun p e s m j k c s₁ hx b f g (h:s.vm.findClass "jdk/internal/util/Preconditions"=some m.cls) hnm hret X0 hZ e0=> ?_
 have a:=o_t hx b o_jl h hZ g hw
 have N0:=Fr.nil n0
 refine o_e 1 0 X0 a ?_
 refine o_r 4 1 X0 a rfl ((if0 _ _).trans (flt q1).1) ?_
 refine o_e 5 2 X0 a ?_
 refine o_e 6 3 X0 a ?_
 refine o_E 9 4 X0 a rfl (flt q2).2.2.1 ?_
 refine o_e 10 5 X0 a ?_
 refine o_e 11 6 X0 a ?_
 refine o_z 22 7 X0 a rfl (flt q3).2.2.2 ?_
 refine o_e 23 14 X0 a ?_
 exact o_W 15 X0 a hret f (by rw[e0];exact ⟨rfl,N0,rfl⟩)
def o_mF (Z:State)(lo hi len:Int32)(h0:Heap)(n0:Nat)(v:Option Value)(h:Heap)(L:List Loc):Prop:=v=some (.int lo)∧Fr n0 L∧h=h0
theorem o_bA (l:Launch)(Z:State)(a0:Array Value)(hw: ∀d∈tables_1,d.before a0 Z=true)(ws:List Jvm.Cond)(lo hi len:Int32)(h0:Heap)(n0:Nat)(Z0:n0≤h0.size)(b:Old Z n0 h0)(q1: ¬(lo<(0:Int32)))(q2: ¬(hi<lo))(q3: ¬(len<hi)):
  o_q l (⟨"java/util/Objects","checkFromToIndex","(III)I"⟩:MethodName) (Jvm.Cond.code (⟨"java/util/Objects","checkFromToIndex","(III)I"⟩:MethodName) jdk_31_method_18_code 3 (some .int)::ws) ({frames:=1,cells:=0,slots:=0,locals:=16}:Room) #[(.int lo),(.int hi),(.int len)] Z h0 (o_mF Z lo hi len h0 n0):=by
 refine o_u (plainFor_of_name o_f5) (fun m=>o_ld m lo hi len) fun p e s m o q c s₁ hx f g h (i:s.vm.findClass "java/util/Objects"=some m.cls) hnm hret X0 hZ e0=> ?_
 have a:=o_t hx f o_jn i hZ h hw
 have N0:=Fr.nil n0
 have KP:Keep h0 h0 []:=Keep.refl _ _
 refine o_e 1 0 X0 a ?_
 refine o_e 2 1 X0 a ?_
 refine o_e 3 2 X0 a ?_
 refine o_cJ 4 3 X0 a ?_
 refine o_F 7 4 0 0 0 4 236 237 238 239 X0 a (o_mE l Z a0 hw [] lo hi len h0 n0 (Nat.le_trans Z0 KP.1) b q1 q2 q3) o_kT e0 fun _ T26 r X26 j=> ?_
 obtain ⟨rfl,k,e26⟩:=j
 have n:=Fr.app N0 k
 refine o_k [_] ?_
 exact o_W 5 X26 a hret g (by rw[e26];exact ⟨rfl,n,rfl⟩)
def o_mG (Z:State)(a:Addr)(ka:ClassId)(u0 u1:Int32)(h0:Heap)(n0:Nat)(v:Option Value)(h:Heap)(L:List Loc):Prop:= ∃(b:Addr) (kb:ClassId),v=some (.ref b)∧Fr n0 L∧Keep h0 h []∧n0≤b∧h0.size≤b∧Arv Z h b kb .int (1:Int32) [(.int u1)] (.int (0:Int32))∧Exa Z h b "[I"
theorem o_mH (l:Launch)(Z:State)(a0:Array Value)(hw: ∀d∈tables_1,d.before a0 Z=true)(ws:List Jvm.Cond)(a:Addr)(ka:ClassId)(u0 u1:Int32)(h0:Heap)(n0:Nat)(Z0:n0≤h0.size)(h:Old Z n0 h0)(i:Arv Z h0 a ka .int (2:Int32) [(.int u0),(.int u1)] (.int (0:Int32))):
  o_q l (⟨"java/util/Arrays","copyOfRangeInt","([III)[I"⟩:MethodName) (Jvm.Cond.code (⟨"java/util/Arrays","copyOfRangeInt","([III)[I"⟩:MethodName) jdk_65_method_137_code 5 (some (.array .int))::ws) ({frames:=1,cells:=1,slots:=1,locals:=40}:Room) #[(.ref a),(.int (1:Int32)),(.int (2:Int32))] Z h0 (o_mG Z a ka u0 u1 h0 n0):=by
 refine o_u (plainFor_of_name o_aW) (fun m=>o_le m a (1:Int32) (2:Int32)) fun p e s m L M c s₁ hx q A r (t:s.vm.findClass "java/util/Arrays"=some m.cls) hnm hret X0 hZ e0=> ?_
 have D:=o_S q o_bw
 have b:=o_t hx q o_bw t hZ r hw
 have N0:=Fr.nil n0
 have KP:Keep h0 h0 []:=Keep.refl _ _
 refine o_e 1 0 X0 b ?_
 refine o_e 2 1 X0 b ?_
 refine o_F 5 2 0 0 0 2 61 62 56 63 X0 b (o_dg l Z a0 hw [] (1:Int32) (2:Int32) h0 n0 (Nat.le_trans Z0 KP.1) h (by decide)) o_c7 e0 fun _ T27 N X27 B=> ?_
 obtain ⟨rfl,C,e27⟩:=B
 have E:=Fr.app N0 C
 refine o_k [] ?_
 refine o_e 6 3 X27 b ?_
 refine o_e 7 4 X27 b ?_
 refine o_J 8 5 X27 b (z:=(1:Int32)) ?_
 refine o_O 9 6 #[_,_,_,_,_] X27 b ?_
 refine o_e 10 7 X27 b ?_
 obtain ⟨T28,h28,j,X28,e28,E28,u,v,st28⟩:=newPE X27 hx hZ (o_b hw 52 rfl) e27 (g:=(mkF m 10 #[rv a,iv 1,iv 2,iv 1,.unset] [(.int (1:Int32))])) rfl (D 8 rfl) rfl (by decide) (cap:=1) (by decide) (by decide) (by decide) (by decide) (ad:="[I") (by decide)
 obtain ⟨f,g28⟩: ∃z,z=h0.size:=⟨_,rfl⟩
 rw[←g28] at u v st28
 have k:h0.size≤f:=Nat.le_trans KP.1 (Nat.le_of_eq g28.symm)
 have w:n0≤f:=Nat.le_trans Z0 k
 have h:=h.ext E28
 have KP:=KP.ext E28
 have i:=i.ext E28
 have n:Exa Z h28 f "[I":=v
 have o:Arv Z h28 f j .int (1:Int32) [(.int (0:Int32))] (.int (0:Int32)):=(Arv.new u (by decide)).pad (pad_rep [] (.int (0:Int32)) 1)
 refine o_i (mkF m 12 #[rv a,iv 1,iv 2,iv 1,.unset] [(.ref f)]) st28 ?_
 refine o_1 14 9 #[_,_,_,_,_] X28 b ?_
 refine o_c 15 10 X28 b ?_
 refine o_e 16 11 X28 b ?_
 refine o_l 18 12 X28 b ?_
 refine o_g 19 13 0 X28 b ?_
 refine o_c 20 14 X28 b ?_
 refine o_C 21 15 X28 b e28 i ?_
 refine o_e 22 16 X28 b ?_
 refine o_J 23 17 X28 b (z:=(1:Int32)) ?_
 refine o_e 24 18 X28 b ?_
 refine o_F 27 2 4 1 1 19 64 65 3 66 X28 b (o_dh l Z a0 hw [] (1:Int32) (1:Int32) h28 n0 (Nat.le_trans Z0 KP.1) h (by decide)) o_c8 e28 fun _ T29 O X29 F=> ?_
 obtain ⟨rfl,G,H⟩:=F
 have N29:=Fr.app E G
 refine o_k [_,_,_,_,_] ?_
 obtain ⟨P,h30,Q,x,e30,I,y,J,K⟩:=cpA X29 hx hZ t (o_b hw 67 rfl) (o_b hw 70 rfl) (o_b hw 68 rfl) (o_b hw 69 rfl) H i o (us:= [(.int u1)]) (Or.inl ⟨rfl,rfl⟩) (by decide) (by decide) (by decide) (by decide) (by decide) rfl (Nat.le_of_ble_eq_true rfl) N29 w (g:=(mkF m 27 #[rv a,iv 1,iv 2,iv 1,rv f] [(.int (1:Int32)),(.int (0:Int32)),(.ref f),(.int (1:Int32)),(.ref a)])) rfl (by rw[r];rfl) rfl (D 20 rfl) (by decide) (W:=0) (by show 2*0+_≤_;exact Nat.le_of_eq rfl) (by decide)
 have KP:=KP.trans y (allS (Or.inr k) all0)
 have n:=n.keep y
 have o:Arv Z h30 f j .int (1:Int32) [(.int u1)] (.int (0:Int32)):=J
 refine o_i (mkF m 30 #[rv a,iv 1,iv 2,iv 1,rv f] []) K ?_
 refine o_l 32 21 x b ?_
 exact o_K 22 x b hret A (by rw[e30];exact ⟨f,j,rfl,I,KP,w,k,o,n⟩)
def o_mI (Z:State)(a:Addr)(ka:ClassId)(u0 u1:Int32)(h0:Heap)(n0:Nat)(v:Option Value)(h:Heap)(L:List Loc):Prop:= ∃(b:Addr) (kb:ClassId),v=some (.ref b)∧Fr n0 L∧Keep h0 h []∧n0≤b∧h0.size≤b∧Arv Z h b kb .int (1:Int32) [(.int u1)] (.int (0:Int32))∧Exa Z h b "[I"
theorem o_mJ (l:Launch)(Z:State)(a0:Array Value)(hw: ∀d∈tables_1,d.before a0 Z=true)(ws:List Jvm.Cond)(a:Addr)(ka:ClassId)(u0 u1:Int32)(h0:Heap)(n0:Nat)(Z0:n0≤h0.size)(f:Old Z n0 h0)(g:Arv Z h0 a ka .int (2:Int32) [(.int u0),(.int u1)] (.int (0:Int32))):
  o_q l (⟨"java/util/Arrays","copyOfRange","([III)[I"⟩:MethodName) (Jvm.Cond.code (⟨"java/util/Arrays","copyOfRange","([III)[I"⟩:MethodName) jdk_65_method_136_code 3 (some (.array .int))::ws) ({frames:=2,cells:=1,slots:=1,locals:=58}:Room) #[(.ref a),(.int (1:Int32)),(.int (2:Int32))] Z h0 (o_mI Z a ka u0 u1 h0 n0):=by
 refine o_u (plainFor_of_name o_aW) (fun m=>o_lf m a (1:Int32) (2:Int32)) fun p e s m z A c s₁ hx h i j (k:s.vm.findClass "java/util/Arrays"=some m.cls) hnm hret X0 hZ e0=> ?_
 have b:=o_t hx h o_bx k hZ j hw
 have N0:=Fr.nil n0
 have KP:Keep h0 h0 []:=Keep.refl _ _
 refine o_e 1 0 X0 b ?_
 refine o_p 10 1 X0 b rfl ((if0 _ _).trans (feq (by decide: ¬((1:Int32)=(0:Int32)))).2) ?_
 refine o_c 11 6 X0 b ?_
 refine o_e 12 7 X0 b ?_
 refine o_e 13 8 X0 b ?_
 have n:=KP
 refine o_F 16 3 0 1 1 9 58 59 56 60 X0 b (o_mH l Z a0 hw [] a ka u0 u1 h0 n0 (Nat.le_trans Z0 KP.1) f g) o_bf e0 fun _ T31 B X31 o=> ?_
 obtain ⟨bb,q,rfl,r,t,u,v,w⟩:=o
 have x:=Fr.app N0 r
 have KP:=KP.trans t all0
 refine o_k [_] ?_
 have y:h0.size≤bb:=Nat.le_trans n.1 v
 exact o_K 10 X31 b hret i (by exact ⟨bb,q,rfl,x,KP,u,y,w⟩)
def o_mK (Z:State)(a:Addr)(ka:ClassId)(u0 u1 u2:Int32)(h0:Heap)(n0:Nat)(v:Option Value)(h:Heap)(L:List Loc):Prop:= ∃(b:Addr) (kb:ClassId),v=some (.ref b)∧Fr n0 L∧Keep h0 h []∧n0≤b∧h0.size≤b∧Arv Z h b kb .int (2:Int32) [(.int u1),(.int u2)] (.int (0:Int32))∧Exa Z h b "[I"
theorem o_mL (l:Launch)(Z:State)(a0:Array Value)(hw: ∀d∈tables_1,d.before a0 Z=true)(ws:List Jvm.Cond)(a:Addr)(ka:ClassId)(u0 u1 u2:Int32)(h0:Heap)(n0:Nat)(Z0:n0≤h0.size)(h:Old Z n0 h0)(i:Arv Z h0 a ka .int (3:Int32) [(.int u0),(.int u1),(.int u2)] (.int (0:Int32))):
  o_q l (⟨"java/util/Arrays","copyOfRangeInt","([III)[I"⟩:MethodName) (Jvm.Cond.code (⟨"java/util/Arrays","copyOfRangeInt","([III)[I"⟩:MethodName) jdk_65_method_137_code 5 (some (.array .int))::ws) ({frames:=1,cells:=1,slots:=2,locals:=40}:Room) #[(.ref a),(.int (1:Int32)),(.int (3:Int32))] Z h0 (o_mK Z a ka u0 u1 u2 h0 n0):=by
 refine o_u (plainFor_of_name o_aW) (fun m=>o_lg m a (1:Int32) (3:Int32)) fun p e s m O P c s₁ hx t C u (v:s.vm.findClass "java/util/Arrays"=some m.cls) hnm hret X0 hZ e0=> ?_
 have D:=o_S t o_bw
 have b:=o_t hx t o_bw v hZ u hw
 have N0:=Fr.nil n0
 have KP:Keep h0 h0 []:=Keep.refl _ _
 refine o_e 1 0 X0 b ?_
 refine o_e 2 1 X0 b ?_
 refine o_F 5 2 0 0 0 2 61 62 56 63 X0 b (o_dg l Z a0 hw [] (1:Int32) (3:Int32) h0 n0 (Nat.le_trans Z0 KP.1) h (by decide)) o_c7 e0 fun _ T32 Q X32 E=> ?_
 obtain ⟨rfl,F,e32⟩:=E
 have G:=Fr.app N0 F
 refine o_k [] ?_
 refine o_e 6 3 X32 b ?_
 refine o_e 7 4 X32 b ?_
 refine o_J 8 5 X32 b (z:=(2:Int32)) ?_
 refine o_O 9 6 #[_,_,_,_,_] X32 b ?_
 refine o_e 10 7 X32 b ?_
 obtain ⟨T33,j,k,X33,e33,n,w,x,st33⟩:=newPE X32 hx hZ (o_b hw 52 rfl) e32 (g:=(mkF m 10 #[rv a,iv 1,iv 3,iv 2,.unset] [(.int (2:Int32))])) rfl (D 8 rfl) rfl (by decide) (cap:=2) (by decide) (by decide) (by decide) (by decide) (ad:="[I") (by decide)
 obtain ⟨f,y⟩: ∃z,z=h0.size:=⟨_,rfl⟩
 rw[←y] at w x st33
 have o:h0.size≤f:=Nat.le_trans KP.1 (Nat.le_of_eq y.symm)
 have A:n0≤f:=Nat.le_trans Z0 o
 have h:=h.ext n
 have KP:=KP.ext n
 have i:=i.ext n
 have q:Exa Z j f "[I":=x
 have r:Arv Z j f k .int (2:Int32) [(.int (0:Int32)),(.int (0:Int32))] (.int (0:Int32)):=(Arv.new w (by decide)).pad (pad_rep [] (.int (0:Int32)) 2)
 refine o_i (mkF m 12 #[rv a,iv 1,iv 3,iv 2,.unset] [(.ref f)]) st33 ?_
 refine o_1 14 9 #[_,_,_,_,_] X33 b ?_
 refine o_c 15 10 X33 b ?_
 refine o_e 16 11 X33 b ?_
 refine o_l 18 12 X33 b ?_
 refine o_g 19 13 0 X33 b ?_
 refine o_c 20 14 X33 b ?_
 refine o_C 21 15 X33 b e33 i ?_
 refine o_e 22 16 X33 b ?_
 refine o_J 23 17 X33 b (z:=(2:Int32)) ?_
 refine o_e 24 18 X33 b ?_
 refine o_F 27 2 4 1 2 19 64 65 3 66 X33 b (o_dh l Z a0 hw [] (2:Int32) (2:Int32) j n0 (Nat.le_trans Z0 KP.1) h (by decide)) o_c8 e33 fun _ T34 R X34 H=> ?_
 obtain ⟨rfl,I,J⟩:=H
 have K:=Fr.app G I
 refine o_k [_,_,_,_,_] ?_
 obtain ⟨T35,h35,S,X35,L,M,B,N,st35⟩:=cpA X34 hx hZ v (o_b hw 67 rfl) (o_b hw 70 rfl) (o_b hw 68 rfl) (o_b hw 69 rfl) J i r (us:= [(.int u1),(.int u2)]) (Or.inl ⟨rfl,rfl⟩) (by decide) (by decide) (by decide) (by decide) (by decide) rfl (Nat.le_of_ble_eq_true rfl) K A (g:=(mkF m 27 #[rv a,iv 1,iv 3,iv 2,rv f] [(.int (2:Int32)),(.int (0:Int32)),(.ref f),(.int (1:Int32)),(.ref a)])) rfl (by rw[u];rfl) rfl (D 20 rfl) (by decide) (W:=0) (by show 2*0+_≤_;exact Nat.le_of_eq rfl) (by decide)
 have KP:=KP.trans B (allS (Or.inr o) all0)
 have q:=q.keep B
 have r:Arv Z h35 f k .int (2:Int32) [(.int u1),(.int u2)] (.int (0:Int32)):=N
 refine o_i (mkF m 30 #[rv a,iv 1,iv 3,iv 2,rv f] []) st35 ?_
 refine o_l 32 21 X35 b ?_
 exact o_K 22 X35 b hret C (by rw[L];exact ⟨f,k,rfl,M,KP,A,o,r,q⟩)
def o_mM (Z:State)(a:Addr)(ka:ClassId)(u0 u1 u2:Int32)(h0:Heap)(n0:Nat)(v:Option Value)(h:Heap)(L:List Loc):Prop:= ∃(b:Addr) (kb:ClassId),v=some (.ref b)∧Fr n0 L∧Keep h0 h []∧n0≤b∧h0.size≤b∧Arv Z h b kb .int (2:Int32) [(.int u1),(.int u2)] (.int (0:Int32))∧Exa Z h b "[I"
theorem o_mN (l:Launch)(Z:State)(a0:Array Value)(hw: ∀d∈tables_1,d.before a0 Z=true)(ws:List Jvm.Cond)(a:Addr)(ka:ClassId)(u0 u1 u2:Int32)(h0:Heap)(n0:Nat)(Z0:n0≤h0.size)(f:Old Z n0 h0)(g:Arv Z h0 a ka .int (3:Int32) [(.int u0),(.int u1),(.int u2)] (.int (0:Int32))):
  o_q l (⟨"java/util/Arrays","copyOfRange","([III)[I"⟩:MethodName) (Jvm.Cond.code (⟨"java/util/Arrays","copyOfRange","([III)[I"⟩:MethodName) jdk_65_method_136_code 3 (some (.array .int))::ws) ({frames:=2,cells:=1,slots:=2,locals:=58}:Room) #[(.ref a),(.int (1:Int32)),(.int (3:Int32))] Z h0 (o_mM Z a ka u0 u1 u2 h0 n0):=by
 refine o_u (plainFor_of_name o_aW) (fun m=>o_lh m a (1:Int32) (3:Int32)) fun p e s m A B c s₁ hx h i j (k:s.vm.findClass "java/util/Arrays"=some m.cls) hnm hret X0 hZ e0=> ?_
 have b:=o_t hx h o_bx k hZ j hw
 have N0:=Fr.nil n0
 have KP:Keep h0 h0 []:=Keep.refl _ _
 refine o_e 1 0 X0 b ?_
 refine o_p 10 1 X0 b rfl ((if0 _ _).trans (feq (by decide: ¬((1:Int32)=(0:Int32)))).2) ?_
 refine o_c 11 6 X0 b ?_
 refine o_e 12 7 X0 b ?_
 refine o_e 13 8 X0 b ?_
 have n:=KP
 refine o_F 16 3 0 1 2 9 58 59 56 60 X0 b (o_mL l Z a0 hw [] a ka u0 u1 u2 h0 n0 (Nat.le_trans Z0 KP.1) f g) o_bf e0 fun _ C D o q=> ?_
 obtain ⟨bb,r,rfl,t,u,v,w,x⟩:=q
 have y:=Fr.app N0 t
 have KP:=KP.trans u all0
 refine o_k [_] ?_
 have z:h0.size≤bb:=Nat.le_trans n.1 w
 exact o_K 10 o b hret i (by exact ⟨bb,r,rfl,y,KP,v,z,x⟩)
def o_mO (Z:State)(a:Addr)(ka:ClassId)(u0 u1 u2 u3:Int32)(h0:Heap)(n0:Nat)(v:Option Value)(h:Heap)(L:List Loc):Prop:= ∃(b:Addr) (kb:ClassId),v=some (.ref b)∧Fr n0 L∧Keep h0 h []∧n0≤b∧h0.size≤b∧Arv Z h b kb .int (3:Int32) [(.int u1),(.int u2),(.int u3)] (.int (0:Int32))∧Exa Z h b "[I"
theorem o_mP (l:Launch)(Z:State)(a0:Array Value)(hw: ∀d∈tables_1,d.before a0 Z=true)(ws:List Jvm.Cond)(a:Addr)(ka:ClassId)(u0 u1 u2 u3:Int32)(h0:Heap)(n0:Nat)(Z0:n0≤h0.size)(h:Old Z n0 h0)(i:Arv Z h0 a ka .int (4:Int32) [(.int u0),(.int u1),(.int u2),(.int u3)] (.int (0:Int32))):
  o_q l (⟨"java/util/Arrays","copyOfRangeInt","([III)[I"⟩:MethodName) (Jvm.Cond.code (⟨"java/util/Arrays","copyOfRangeInt","([III)[I"⟩:MethodName) jdk_65_method_137_code 5 (some (.array .int))::ws) ({frames:=1,cells:=1,slots:=3,locals:=40}:Room) #[(.ref a),(.int (1:Int32)),(.int (4:Int32))] Z h0 (o_mO Z a ka u0 u1 u2 u3 h0 n0):=by
 refine o_u (plainFor_of_name o_aW) (fun m=>o_li m a (1:Int32) (4:Int32)) fun p e s m U V c s₁ hx t F u (v:s.vm.findClass "java/util/Arrays"=some m.cls) hnm hret X0 hZ e0=> ?_
 have D:=o_S t o_bw
 have b:=o_t hx t o_bw v hZ u hw
 have N0:=Fr.nil n0
 have KP:Keep h0 h0 []:=Keep.refl _ _
 refine o_e 1 0 X0 b ?_
 refine o_e 2 1 X0 b ?_
 refine o_F 5 2 0 0 0 2 61 62 56 63 X0 b (o_dg l Z a0 hw [] (1:Int32) (4:Int32) h0 n0 (Nat.le_trans Z0 KP.1) h (by decide)) o_c7 e0 fun _ T37 X X37 G=> ?_
 obtain ⟨rfl,H,I⟩:=G
 have J:=Fr.app N0 H
 refine o_k [] ?_
 refine o_e 6 3 X37 b ?_
 refine o_e 7 4 X37 b ?_
 refine o_J 8 5 X37 b (z:=(3:Int32)) ?_
 refine o_O 9 6 #[_,_,_,_,_] X37 b ?_
 refine o_e 10 7 X37 b ?_
 obtain ⟨T38,j,k,X38,w,n,x,y,st38⟩:=newPE X37 hx hZ (o_b hw 52 rfl) I (g:=(mkF m 10 #[rv a,iv 1,iv 4,iv 3,.unset] [(.int (3:Int32))])) rfl (D 8 rfl) rfl (by decide) (cap:=3) (by decide) (by decide) (by decide) (by decide) (ad:="[I") (by decide)
 obtain ⟨f,A⟩: ∃z,z=h0.size:=⟨_,rfl⟩
 rw[←A] at x y st38
 have o:h0.size≤f:=Nat.le_trans KP.1 (Nat.le_of_eq A.symm)
 have B:n0≤f:=Nat.le_trans Z0 o
 have h:=h.ext n
 have KP:=KP.ext n
 have i:=i.ext n
 have q:Exa Z j f "[I":=y
 have r:Arv Z j f k .int (3:Int32) [(.int (0:Int32)),(.int (0:Int32)),(.int (0:Int32))] (.int (0:Int32)):=(Arv.new x (by decide)).pad (pad_rep [] (.int (0:Int32)) 3)
 refine o_i (mkF m 12 #[rv a,iv 1,iv 4,iv 3,.unset] [(.ref f)]) st38 ?_
 refine o_1 14 9 #[_,_,_,_,_] X38 b ?_
 refine o_c 15 10 X38 b ?_
 refine o_e 16 11 X38 b ?_
 refine o_l 18 12 X38 b ?_
 refine o_g 19 13 0 X38 b ?_
 refine o_c 20 14 X38 b ?_
 refine o_C 21 15 X38 b w i ?_
 refine o_e 22 16 X38 b ?_
 refine o_J 23 17 X38 b (z:=(3:Int32)) ?_
 refine o_e 24 18 X38 b ?_
 refine o_F 27 2 4 1 3 19 64 65 3 66 X38 b (o_dh l Z a0 hw [] (3:Int32) (3:Int32) j n0 (Nat.le_trans Z0 KP.1) h (by decide)) o_c8 w fun _ Y ae K L=> ?_
 obtain ⟨rfl,M,N⟩:=L
 have O:=Fr.app J M
 refine o_k [_,_,_,_,_] ?_
 obtain ⟨af,P,ag,C,Q,R,E,S,T⟩:=cpA K hx hZ v (o_b hw 67 rfl) (o_b hw 70 rfl) (o_b hw 68 rfl) (o_b hw 69 rfl) N i r (us:= [(.int u1),(.int u2),(.int u3)]) (Or.inl ⟨rfl,rfl⟩) (by decide) (by decide) (by decide) (by decide) (by decide) rfl (Nat.le_of_ble_eq_true rfl) O B (g:=(mkF m 27 #[rv a,iv 1,iv 4,iv 3,rv f] [(.int (3:Int32)),(.int (0:Int32)),(.ref f),(.int (1:Int32)),(.ref a)])) rfl (by rw[u];rfl) rfl (D 20 rfl) (by decide) (W:=0) (by show 2*0+_≤_;exact Nat.le_of_eq rfl) (by decide)
 have KP:=KP.trans E (allS (Or.inr o) all0)
 have q:=q.keep E
 have r:Arv Z P f k .int (3:Int32) [(.int u1),(.int u2),(.int u3)] (.int (0:Int32)):=S
 refine o_i (mkF m 30 #[rv a,iv 1,iv 4,iv 3,rv f] []) T ?_
 refine o_l 32 21 C b ?_
 exact o_K 22 C b hret F (by rw[Q];exact ⟨f,k,rfl,R,KP,B,o,r,q⟩)
def o_mQ (Z:State)(a:Addr)(ka:ClassId)(u0 u1 u2 u3:Int32)(h0:Heap)(n0:Nat)(v:Option Value)(h:Heap)(L:List Loc):Prop:= ∃(b:Addr) (kb:ClassId),v=some (.ref b)∧Fr n0 L∧Keep h0 h []∧n0≤b∧h0.size≤b∧Arv Z h b kb .int (3:Int32) [(.int u1),(.int u2),(.int u3)] (.int (0:Int32))∧Exa Z h b "[I"
theorem o_mR (l:Launch)(Z:State)(a0:Array Value)(hw: ∀d∈tables_1,d.before a0 Z=true)(ws:List Jvm.Cond)(a:Addr)(ka:ClassId)(u0 u1 u2 u3:Int32)(h0:Heap)(n0:Nat)(Z0:n0≤h0.size)(f:Old Z n0 h0)(g:Arv Z h0 a ka .int (4:Int32) [(.int u0),(.int u1),(.int u2),(.int u3)] (.int (0:Int32))):
  o_q l (⟨"java/util/Arrays","copyOfRange","([III)[I"⟩:MethodName) (Jvm.Cond.code (⟨"java/util/Arrays","copyOfRange","([III)[I"⟩:MethodName) jdk_65_method_136_code 3 (some (.array .int))::ws) ({frames:=2,cells:=1,slots:=3,locals:=58}:Room) #[(.ref a),(.int (1:Int32)),(.int (4:Int32))] Z h0 (o_mQ Z a ka u0 u1 u2 u3 h0 n0):=by
 refine o_u (plainFor_of_name o_aW) (fun m=>o_lj m a (1:Int32) (4:Int32)) fun p e s m z A c s₁ hx h i j (k:s.vm.findClass "java/util/Arrays"=some m.cls) hnm hret X0 hZ e0=> ?_
 have b:=o_t hx h o_bx k hZ j hw
 have N0:=Fr.nil n0
 have KP:Keep h0 h0 []:=Keep.refl _ _
 refine o_e 1 0 X0 b ?_
 refine o_p 10 1 X0 b rfl ((if0 _ _).trans (feq (by decide: ¬((1:Int32)=(0:Int32)))).2) ?_
 refine o_c 11 6 X0 b ?_
 refine o_e 12 7 X0 b ?_
 refine o_e 13 8 X0 b ?_
 have n:=KP
 refine o_F 16 3 0 1 3 9 58 59 56 60 X0 b (o_mP l Z a0 hw [] a ka u0 u1 u2 u3 h0 n0 (Nat.le_trans Z0 KP.1) f g) o_bf e0 fun _ T41 B X41 o=> ?_
 obtain ⟨bb,q,rfl,r,t,u,v,w⟩:=o
 have x:=Fr.app N0 r
 have KP:=KP.trans t all0
 refine o_k [_] ?_
 have y:h0.size≤bb:=Nat.le_trans n.1 v
 exact o_K 10 X41 b hret i (by exact ⟨bb,q,rfl,x,KP,u,y,w⟩)
def o_mS (Z:State)(bx a:Addr)(h0:Heap)(n0:Nat)(v:Option Value)(h:Heap)(L:List Loc):Prop:=v=none∧Fr n0 L∧Keep h0 h [bx]∧Exa Z h bx "java/math/BigInteger"∧Fld Z h bx "java/math/BigInteger" "signum" "I" (.int (1:Int32))∧Fld Z h bx "java/math/BigInteger" "mag" "[I" (.ref a)
theorem o_aG (l:Launch)(Z:State)(a0:Array Value)(hw: ∀d∈tables_1,d.before a0 Z=true)(ws:List Jvm.Cond)(bx a:Addr)(h0:Heap)(n0:Nat)(Z0:n0≤h0.size)(v:Old Z n0 h0)(q:n0≤bx)(f:Exa Z h0 bx "java/math/BigInteger")(h:Fld Z h0 bx "java/math/BigInteger" "signum" "I" (.int (0:Int32)))(g:Fld Z h0 bx "java/math/BigInteger" "mag" "[I" .null)(ka:ClassId)(zz:Int32)(vs:List Value)(r:a≠bx)(j:Arv Z h0 a ka .int zz vs (.int (0:Int32)))(hz0: ¬(zz=(0:Int32)))(hzM:zz<(67108864:Int32)):
  o_q l (⟨"java/math/BigInteger","<init>","([II)V"⟩:MethodName) (Jvm.Cond.code (⟨"java/math/BigInteger","<init>","([II)V"⟩:MethodName) jdk_2097_method_25_code 3 none::ws) ({frames:=2,cells:=0,slots:=0,locals:=30}:Room) #[(.ref bx),(.ref a),(.int (1:Int32))] Z h0 (o_mS Z bx a h0 n0):=by
 refine o_u (plainFor_of_name o_Y) (fun m=>o_lk m bx a (1:Int32)) fun p e s m K L c s₁ hx w x y (z:s.vm.findClass "java/math/BigInteger"=some m.cls) hnm hret X0 hZ e0=> ?_
 have b:=o_t hx w o_jr z hZ y hw
 have N0:=Fr.nil n0
 have KP:Keep h0 h0 [bx]:=Keep.refl _ _
 refine o_c 1 0 X0 b ?_
 refine o_7 4 0 0 0 0 1 77 78 81 82 X0 b (o_f8 l Z a0 hw [] bx h0 n0 (Nat.le_trans Z0 KP.1) v) o_be e0 rfl fun _ T42 M X42 A=> ?_
 obtain ⟨rfl,B,e42⟩:=A
 have C:=Fr.app N0 B
 refine o_k [] ?_
 refine o_c 5 2 X42 b ?_
 refine o_c 6 3 X42 b ?_
 refine o_C 7 4 X42 b e42 j ?_
 refine o_p 14 5 X42 b rfl ((if0 _ _).trans (feq hz0).2) ?_
 refine o_e 15 8 X42 b ?_
 refine o_R 18 9 38 72 X42 b e42 h f (Or.inr ⟨(o_b hw 39 rfl),rfl,hnm⟩) (ty:= .int) fun T43 D X43 E k=> ?_
 have F:=Fr.snoc X43 C q
 have G:Fld Z D bx "java/math/BigInteger" "signum" "I" (.int (1:Int32)):=h.same k
 have KP:=KP.wr k (Or.inl (List.mem_of_getElem? (i:=0) rfl))
 have f:=f.wr k
 have g:=g.other k (Or.inr (slot_ne (Or.inr (o_b hw 41 rfl)) (Or.inr (o_b hw 39 rfl)) (by decide) (t:=(.array .int)) (t':= .int) (by decide) (by decide)))
 have j:=j.other k r
 have h:=G
 refine o_c 19 10 X43 b ?_
 refine o_c 20 11 X43 b ?_
 refine o_R 23 12 40 72 X43 b E g f (Or.inr ⟨(o_b hw 41 rfl),rfl,hnm⟩) (ty:=(.array .int)) fun N h44 o H n=> ?_
 have I:=Fr.snoc o F q
 have J:Fld Z h44 bx "java/math/BigInteger" "mag" "[I" (.ref a):=g.same n
 have KP:=KP.wr n (Or.inl (List.mem_of_getElem? (i:=0) rfl))
 have f:=f.wr n
 have h:=h.other n (Or.inr (slot_ne (Or.inr (o_b hw 39 rfl)) (Or.inr (o_b hw 41 rfl)) (by decide) (t:= .int) (t':=(.array .int)) (by decide) (by decide)))
 have j:=j.other n r
 have g:=J
 refine o_c 24 13 o b ?_
 refine o_h 27 14 40 o b H g fun T45 X45 u=> ?_
 refine o_C 28 15 X45 b u j ?_
 refine o_aL 30 86 16 X45 b ?_
 refine o_z 37 17 X45 b rfl (tlt hzM).1 ?_
 exact o_al 20 X45 b hret x (by rw[u];exact ⟨rfl,I,KP,f,h,g⟩)
def o_mT (Z:State)(b:Addr)(kb:ClassId)(a:Addr)(ka:ClassId)(x0 x1 sh u0 u1:Int32)(h0:Heap)(n0:Nat)(v:Option Value)(h:Heap)(L:List Loc):Prop:=v=none∧Fr n0 L∧Keep h0 h [b]∧Arv Z h b kb .int (2:Int32) [(.int ((x0<<<(sh&&&31))|||((x1.toUInt32>>>(((32:Int32)-sh)&&&31).toUInt32).toInt32))),(.int u1)] (.int (0:Int32))
theorem o_mU (l:Launch)(Z:State)(a0:Array Value)(hw: ∀d∈tables_1,d.before a0 Z=true)(ws:List Jvm.Cond)(b:Addr)(kb:ClassId)(a:Addr)(ka:ClassId)(x0 x1 sh u0 u1:Int32)(h0:Heap)(n0:Nat)(Z0:n0≤h0.size)(y:Old Z n0 h0)(j:n0≤b)(z:a≠b)(h:Arv Z h0 a ka .int (2:Int32) [(.int x0),(.int x1)] (.int (0:Int32)))(g:Arv Z h0 b kb .int (2:Int32) [(.int u0),(.int u1)] (.int (0:Int32))):
  o_q l (⟨"java/math/BigInteger","shiftLeftImplWorker","([I[IIII)V"⟩:MethodName) (Jvm.Cond.code (⟨"java/math/BigInteger","shiftLeftImplWorker","([I[IIII)V"⟩:MethodName) jdk_2097_method_103_code 7 none::ws) ({frames:=0,cells:=0,slots:=0,locals:=0}:Room) #[(.ref b),(.ref a),(.int (0:Int32)),(.int sh),(.int (1:Int32))] Z h0 (o_mT Z b kb a ka x0 x1 sh u0 u1 h0 n0):=by
 refine o_u (plainFor_of_name o_Y) (fun m=>o_ll m b a (0:Int32) sh (1:Int32)) fun p e s m A B c s₁ hx k n o (q:s.vm.findClass "java/math/BigInteger"=some m.cls) hnm hret X0 hZ e0=> ?_
 have f:=o_t hx k o_cW q hZ o hw
 have N0:=Fr.nil n0
 have KP:Keep h0 h0 [b]:=Keep.refl _ _
 refine o_B 2 0 32 X0 f ?_
 refine o_e 3 1 X0 f ?_
 refine o_J 4 2 X0 f ?_
 refine o_o 6 3 #[_,_,_,_,_,_,_] X0 f ?_
 refine o_g 7 4 0 X0 f ?_
 refine o_o 9 5 #[_,_,_,_,_,_,_] X0 f ?_
 refine o_d 11 6 X0 f ?_
 refine o_d 13 7 X0 f ?_
 refine o_E 16 8 X0 f rfl (tlt (by decide:(0:Int32)<(1:Int32))).2.1 ?_
 refine o_c 17 9 X0 f ?_
 refine o_e 18 10 X0 f ?_
 refine o_G 21 11 #[_,_,iv 1,_,_,_,_] X0 f ?_
 refine o_c 22 12 X0 f ?_
 refine o_d 24 13 X0 f ?_
 refine o_G 27 14 #[_,_,_,_,_,_,iv 1] X0 f ?_
 refine o_Q 28 15 X0 f e0 h (x:=x0) ?_
 refine o_e 29 16 X0 f ?_
 refine o_aS 30 17 X0 f ?_
 refine o_c 31 18 X0 f ?_
 refine o_d 33 19 X0 f ?_
 refine o_Q 34 20 X0 f e0 h (x:=x1) ?_
 refine o_d 36 21 X0 f ?_
 refine o_af 37 22 X0 f ?_
 refine o_b9 38 23 X0 f ?_
 refine o_8 39 0 24 X0 f e0 g fun T46 r X46 t u v=> ?_
 have w:=Fr.snoc X46 N0 j
 have KP:=KP.wr u (Or.inl (List.mem_of_getElem? (i:=0) rfl))
 have g:Arv Z r b kb .int (2:Int32) [(.int ((x0<<<(sh&&&31))|||((x1.toUInt32>>>(((32:Int32)-sh)&&&31).toUInt32).toInt32))),(.int u1)] (.int (0:Int32)):=v
 refine o_w 9 25 X46 f ?_
 refine o_d 11 6 X46 f ?_
 refine o_d 13 7 X46 f ?_
 refine o_z 42 8 X46 f rfl (flt (by decide: ¬((1:Int32)<(1:Int32)))).2.1 ?_
 exact o_al 26 X46 f hret n (by rw[t];exact ⟨rfl,w,KP,g⟩)
def o_mV (Z:State)(b:Addr)(kb:ClassId)(a:Addr)(ka:ClassId)(x0 x1 sh u0 u1 u2:Int32)(h0:Heap)(n0:Nat)(v:Option Value)(h:Heap)(L:List Loc):Prop:=v=none∧Fr n0 L∧Keep h0 h [b]∧Arv Z h b kb .int (3:Int32) [(.int u0),(.int ((x0<<<(sh&&&31))|||((x1.toUInt32>>>(((32:Int32)-sh)&&&31).toUInt32).toInt32))),(.int u2)] (.int (0:Int32))
theorem o_mW (l:Launch)(Z:State)(a0:Array Value)(hw: ∀d∈tables_1,d.before a0 Z=true)(ws:List Jvm.Cond)(b:Addr)(kb:ClassId)(a:Addr)(ka:ClassId)(x0 x1 sh u0 u1 u2:Int32)(h0:Heap)(n0:Nat)(Z0:n0≤h0.size)(z:Old Z n0 h0)(k:n0≤b)(A:a≠b)(j:Arv Z h0 a ka .int (2:Int32) [(.int x0),(.int x1)] (.int (0:Int32)))(h:Arv Z h0 b kb .int (3:Int32) [(.int u0),(.int u1),(.int u2)] (.int (0:Int32))):
  o_q l (⟨"java/math/BigInteger","shiftLeftImplWorker","([I[IIII)V"⟩:MethodName) (Jvm.Cond.code (⟨"java/math/BigInteger","shiftLeftImplWorker","([I[IIII)V"⟩:MethodName) jdk_2097_method_103_code 7 none::ws) ({frames:=0,cells:=0,slots:=0,locals:=0}:Room) #[(.ref b),(.ref a),(.int (1:Int32)),(.int sh),(.int (1:Int32))] Z h0 (o_mV Z b kb a ka x0 x1 sh u0 u1 u2 h0 n0):=by
 refine o_u (plainFor_of_name o_Y) (fun m=>o_lm m b a (1:Int32) sh (1:Int32)) fun p e s m B C c s₁ hx n o q (r:s.vm.findClass "java/math/BigInteger"=some m.cls) hnm hret X0 hZ e0=> ?_
 have f:=o_t hx n o_cW r hZ q hw
 have N0:=Fr.nil n0
 have KP:Keep h0 h0 [b]:=Keep.refl _ _
 refine o_B 2 0 32 X0 f ?_
 refine o_e 3 1 X0 f ?_
 refine o_J 4 2 X0 f ?_
 refine o_o 6 3 #[_,_,_,_,_,_,_] X0 f ?_
 refine o_g 7 4 0 X0 f ?_
 refine o_o 9 5 #[_,_,_,_,_,_,_] X0 f ?_
 refine o_d 11 6 X0 f ?_
 refine o_d 13 7 X0 f ?_
 refine o_E 16 8 X0 f rfl (tlt (by decide:(0:Int32)<(1:Int32))).2.1 ?_
 refine o_c 17 9 X0 f ?_
 refine o_e 18 10 X0 f ?_
 refine o_G 21 11 #[_,_,iv 2,_,_,_,_] X0 f ?_
 refine o_c 22 12 X0 f ?_
 refine o_d 24 13 X0 f ?_
 refine o_G 27 14 #[_,_,_,_,_,_,iv 1] X0 f ?_
 refine o_Q 28 15 X0 f e0 j (x:=x0) ?_
 refine o_e 29 16 X0 f ?_
 refine o_aS 30 17 X0 f ?_
 refine o_c 31 18 X0 f ?_
 refine o_d 33 19 X0 f ?_
 refine o_Q 34 20 X0 f e0 j (x:=x1) ?_
 refine o_d 36 21 X0 f ?_
 refine o_af 37 22 X0 f ?_
 refine o_b9 38 23 X0 f ?_
 refine o_8 39 1 24 X0 f e0 h fun D t g u v w=> ?_
 have y:=Fr.snoc g N0 k
 have KP:=KP.wr v (Or.inl (List.mem_of_getElem? (i:=0) rfl))
 have h:Arv Z t b kb .int (3:Int32) [(.int u0),(.int ((x0<<<(sh&&&31))|||((x1.toUInt32>>>(((32:Int32)-sh)&&&31).toUInt32).toInt32))),(.int u2)] (.int (0:Int32)):=w
 refine o_w 9 25 g f ?_
 refine o_d 11 6 g f ?_
 refine o_d 13 7 g f ?_
 refine o_z 42 8 g f rfl (flt (by decide: ¬((1:Int32)<(1:Int32)))).2.1 ?_
 exact o_al 26 g f hret o (by rw[u];exact ⟨rfl,y,KP,h⟩)
def o_mX (Z:State)(b a:Addr)(sh:Int32)(h0:Heap)(n0:Nat)(v:Option Value)(h:Heap)(L:List Loc):Prop:=v=none∧Fr n0 L∧h=h0
theorem o_mY (l:Launch)(Z:State)(a0:Array Value)(hw: ∀d∈tables_1,d.before a0 Z=true)(ws:List Jvm.Cond)(b a:Addr)(sh:Int32)(h0:Heap)(n0:Nat)(Z0:n0≤h0.size)(k:Old Z n0 h0):
  o_q l (⟨"java/math/BigInteger","shiftLeftImplWorker","([I[IIII)V"⟩:MethodName) (Jvm.Cond.code (⟨"java/math/BigInteger","shiftLeftImplWorker","([I[IIII)V"⟩:MethodName) jdk_2097_method_103_code 7 none::ws) ({frames:=0,cells:=0,slots:=0,locals:=0}:Room) #[(.ref b),(.ref a),(.int (0:Int32)),(.int sh),(.int (0:Int32))] Z h0 (o_mX Z b a sh h0 n0):=by
 refine o_u (plainFor_of_name o_Y) (fun m=>o_ln m b a (0:Int32) sh (0:Int32)) fun p e s m n o c s₁ hx g h i (j:s.vm.findClass "java/math/BigInteger"=some m.cls) hnm hret X0 hZ e0=> ?_
 have f:=o_t hx g o_cW j hZ i hw
 have N0:=Fr.nil n0
 refine o_B 2 0 32 X0 f ?_
 refine o_e 3 1 X0 f ?_
 refine o_J 4 2 X0 f ?_
 refine o_o 6 3 #[_,_,_,_,_,_,_] X0 f ?_
 refine o_g 7 4 0 X0 f ?_
 refine o_o 9 5 #[_,_,_,_,_,_,_] X0 f ?_
 refine o_d 11 6 X0 f ?_
 refine o_d 13 7 X0 f ?_
 refine o_z 42 8 X0 f rfl (flt (by decide: ¬((0:Int32)<(0:Int32)))).2.1 ?_
 exact o_al 26 X0 f hret h (by rw[e0];exact ⟨rfl,N0,rfl⟩)
def o_mZ (Z:State)(b a:Addr)(sh:Int32)(h0:Heap)(n0:Nat)(v:Option Value)(h:Heap)(L:List Loc):Prop:=v=none∧Fr n0 L∧h=h0
theorem o_m0 (l:Launch)(Z:State)(a0:Array Value)(hw: ∀d∈tables_1,d.before a0 Z=true)(ws:List Jvm.Cond)(b a:Addr)(sh:Int32)(h0:Heap)(n0:Nat)(Z0:n0≤h0.size)(k:Old Z n0 h0):
  o_q l (⟨"java/math/BigInteger","shiftLeftImplWorker","([I[IIII)V"⟩:MethodName) (Jvm.Cond.code (⟨"java/math/BigInteger","shiftLeftImplWorker","([I[IIII)V"⟩:MethodName) jdk_2097_method_103_code 7 none::ws) ({frames:=0,cells:=0,slots:=0,locals:=0}:Room) #[(.ref b),(.ref a),(.int (1:Int32)),(.int sh),(.int (0:Int32))] Z h0 (o_mZ Z b a sh h0 n0):=by
 refine o_u (plainFor_of_name o_Y) (fun m=>o_lo m b a (1:Int32) sh (0:Int32)) fun p e s m n o c s₁ hx g h i (j:s.vm.findClass "java/math/BigInteger"=some m.cls) hnm hret X0 hZ e0=> ?_
 have f:=o_t hx g o_cW j hZ i hw
 have N0:=Fr.nil n0
 refine o_B 2 0 32 X0 f ?_
 refine o_e 3 1 X0 f ?_
 refine o_J 4 2 X0 f ?_
 refine o_o 6 3 #[_,_,_,_,_,_,_] X0 f ?_
 refine o_g 7 4 0 X0 f ?_
 refine o_o 9 5 #[_,_,_,_,_,_,_] X0 f ?_
 refine o_d 11 6 X0 f ?_
 refine o_d 13 7 X0 f ?_
 refine o_z 42 8 X0 f rfl (flt (by decide: ¬((0:Int32)<(0:Int32)))).2.1 ?_
 exact o_al 26 X0 f hret h (by rw[e0];exact ⟨rfl,N0,rfl⟩)
def o_m1 (Z:State)(a:Addr)(ka:ClassId)(x0 sh:Int32)(ks:Nat)(h0:Heap)(n0:Nat)(v:Option Value)(h:Heap)(L:List Loc):Prop:= ∃(b:Addr) (kb:ClassId),v=some (.ref b)∧Fr n0 L∧Keep h0 h []∧n0≤b∧h0.size≤b∧(o_ep Z h b kb (o_a x0*2^ks)∨o_dy Z h b kb (o_a x0*2^ks))
theorem o_m2 (l:Launch)(Z:State)(a0:Array Value)(hw: ∀d∈tables_1,d.before a0 Z=true)(ws:List Jvm.Cond)(a:Addr)(ka:ClassId)(x0 sh:Int32)(ks:Nat)(h0:Heap)(n0:Nat)(Z0:n0≤h0.size)(h:Old Z n0 h0)(f:Arv Z h0 a ka .int (1:Int32) [(.int x0)] (.int (0:Int32)))(hx0: ¬x0=0)(hs:sh.toInt=(ks:Int))(hk:ks≤31):
  o_q l (⟨"java/math/BigInteger","shiftLeft","([II)[I"⟩:MethodName) (Jvm.Cond.code (⟨"java/math/BigInteger","shiftLeft","([II)[I"⟩:MethodName) jdk_2097_method_102_code 10 (some (.array .int))::ws) ({frames:=2,cells:=1,slots:=2,locals:=40}:Room) #[(.ref a),(.int sh)] Z h0 (o_m1 Z a ka x0 sh ks h0 n0):=by
 refine o_u (plainFor_of_name o_Y) (fun m=>o_lp m a sh) fun p e s m bj bk c s₁ hx S G T (U:s.vm.findClass "java/math/BigInteger"=some m.cls) hnm hret X0 hZ e0=> ?_
 have D:=o_S S o_cY
 have b:=o_t hx S o_cY U hZ T hw
 have N0:=Fr.nil n0
 have KP:Keep h0 h0 []:=Keep.refl _ _
 refine o_e 1 0 X0 b ?_
 refine o_g 2 1 5 X0 b ?_
 refine o_af 3 2 X0 b ?_
 rw[o_dA hs hk]
 refine o_O 4 3 #[_,_,_,_,_,_,_,_,_,_] X0 b ?_
 refine o_e 5 4 X0 b ?_
 refine o_B 7 5 31 X0 b ?_
 refine o_ba 8 6 X0 b ?_
 rw[o_dB hs hk]
 refine o_O 9 7 #[_,_,_,_,_,_,_,_,_,_] X0 b ?_
 refine o_c 10 8 X0 b ?_
 refine o_C 11 9 X0 b e0 f ?_
 refine o_o 13 10 #[_,_,_,_,_,_,_,_,_,_] X0 b ?_
 refine o_cJ 14 11 X0 b ?_
 refine o_1 16 12 #[_,_,_,_,_,_,_,_,_,_] X0 b ?_
 refine o_e 17 13 X0 b ?_
 by_cases hs0:sh=(0:Int32)
 ·refine o_r 20 14 X0 b rfl ((if0 _ _).trans (teq hs0).2) ?_
  refine o_d 22 15 X0 b ?_
  refine o_e 23 16 X0 b ?_
  refine o_v 24 17 X0 b (z:=(1:Int32)) ?_
  obtain ⟨T48,h48,H,X48,e48,E48,V,X,Y⟩:=newPE X0 hx hZ (o_b hw 52 rfl) e0 (g:=(mkF m 24 #[rv a,iv sh,iv 0,iv sh,iv 1,.val .null,.unset,.unset,.unset,.unset] [(.int (1:Int32))])) rfl (D 18 rfl) rfl (by decide) (cap:=1) (by decide) (by decide) (by decide) (by decide) (ad:="[I") (by decide)
  obtain ⟨j,g48⟩: ∃z,z=h0.size:=⟨_,rfl⟩
  rw[←g48] at V X Y
  have I:h0.size≤j:=Nat.le_trans KP.1 (Nat.le_of_eq g48.symm)
  have ae:n0≤j:=Nat.le_trans Z0 I
  have KP:=KP.ext E48
  have f:=f.ext E48
  have J:Exa Z h48 j "[I":=X
  have K:Arv Z h48 j H .int (1:Int32) [(.int (0:Int32))] (.int (0:Int32)):=(Arv.new V (by decide)).pad (pad_rep [] (.int (0:Int32)) 1)
  refine o_i (mkF m 26 #[rv a,iv sh,iv 0,iv sh,iv 1,.val .null,.unset,.unset,.unset,.unset] [(.ref j)]) Y ?_
  refine o_1 28 19 #[_,_,_,_,_,_,_,_,_,_] X48 b ?_
  refine o_c 29 20 X48 b ?_
  refine o_g 30 21 0 X48 b ?_
  refine o_l 32 22 X48 b ?_
  refine o_g 33 23 0 X48 b ?_
  refine o_d 35 24 X48 b ?_
  obtain ⟨T49,aD,bl,X49,aE,aF,af,aG,st49⟩:=cpA X48 hx hZ U (o_b hw 203 rfl) (o_b hw 70 rfl) (o_b hw 68 rfl) (o_b hw 69 rfl) e48 f K (us:= [(.int x0)]) (Or.inl ⟨rfl,rfl⟩) (by decide) (by decide) (by decide) (by decide) (by decide) rfl (Nat.le_of_ble_eq_true rfl) N0 ae (g:=(mkF m 35 #[rv a,iv sh,iv 0,iv sh,iv 1,rv j,.unset,.unset,.unset,.unset] [(.int (1:Int32)),(.int (0:Int32)),(.ref j),(.int (0:Int32)),(.ref a)])) rfl (by rw[T];rfl) rfl (D 25 rfl) (by decide) (W:=0) (by show 2*0+_≤_;exact Nat.le_of_eq rfl) (by decide)
  have KP:=KP.trans af (allS (Or.inr I) all0)
  have J:=J.keep af
  have K:Arv Z aD j H .int (1:Int32) [(.int x0)] (.int (0:Int32)):=aG
  refine o_i (mkF m 38 #[rv a,iv sh,iv 0,iv sh,iv 1,rv j,.unset,.unset,.unset,.unset] []) st49 ?_
  refine o_w 152 26 X49 b ?_
  refine o_l 154 97 X49 b ?_
  exact o_K 98 X49 b hret G (by rw[aE];exact ⟨j,H,rfl,aF,KP,ae,I,Or.inl ⟨_,K,hx0,o_g1 hs hs0,J⟩⟩)
 ·refine o_p 41 14 X0 b rfl ((if0 _ _).trans (feq hs0).2) ?_
  refine o_g 42 27 0 X0 b ?_
  refine o_o 44 28 #[_,_,_,_,_,_,_,_,_,_] X0 b ?_
  refine o_B 46 29 32 X0 b ?_
  refine o_e 47 30 X0 b ?_
  refine o_J 48 31 X0 b ?_
  refine o_o 50 32 #[_,_,_,_,_,_,_,_,_,_] X0 b ?_
  refine o_c 51 33 X0 b ?_
  refine o_g 52 34 0 X0 b ?_
  refine o_Q 53 35 X0 b e0 f (x:=x0) ?_
  refine o_d 55 36 X0 b ?_
  refine o_af 56 37 X0 b ?_
  refine o_o 58 38 #[_,_,_,_,_,_,_,_,_,_] X0 b ?_
  refine o_d 60 39 X0 b ?_
  have h1s:=o_eq hs hs0
  by_cases hh0:((x0.toUInt32>>>(((32:Int32)-sh)&&&31).toUInt32).toInt32)=(0:Int32)
  ·refine o_p 86 40 X0 b rfl ((if0 _ _).trans (teq hh0).1) ?_
   refine o_d 88 54 X0 b ?_
   refine o_e 89 55 X0 b ?_
   refine o_v 90 56 X0 b (z:=(1:Int32)) ?_
   obtain ⟨bm,v,L,i,ag,M,ah,ai,aj⟩:=newPE X0 hx hZ (o_b hw 52 rfl) e0 (g:=(mkF m 90 #[rv a,iv sh,iv 0,iv sh,iv 1,.val .null,iv 0,iv ((32:Int32)-sh),iv ((x0.toUInt32>>>(((32:Int32)-sh)&&&31).toUInt32).toInt32),.unset] [(.int (1:Int32))])) rfl (D 57 rfl) rfl (by decide) (cap:=1) (by decide) (by decide) (by decide) (by decide) (ad:="[I") (by decide)
   obtain ⟨q,ak⟩: ∃z,z=h0.size:=⟨_,rfl⟩
   rw[←ak] at ah ai aj
   have N:h0.size≤q:=Nat.le_trans KP.1 (Nat.le_of_eq ak.symm)
   have al:n0≤q:=Nat.le_trans Z0 N
   have h:=h.ext M
   have KP:=KP.ext M
   have f:=f.ext M
   have O:Exa Z v q "[I":=ai
   have y:Arv Z v q L .int (1:Int32) [(.int (0:Int32))] (.int (0:Int32)):=(Arv.new ah (by decide)).pad (pad_rep [] (.int (0:Int32)) 1)
   refine o_i (mkF m 92 #[rv a,iv sh,iv 0,iv sh,iv 1,.val .null,iv 0,iv ((32:Int32)-sh),iv ((x0.toUInt32>>>(((32:Int32)-sh)&&&31).toUInt32).toInt32),.unset] [(.ref q)]) aj ?_
   refine o_1 94 58 #[_,_,_,_,_,_,_,_,_,_] i b ?_
   refine o_d 96 59 i b ?_
   refine o_g 97 60 1 i b ?_
   refine o_J 98 61 i b (z:=(0:Int32)) ?_
   refine o_o 100 62 #[_,_,_,_,_,_,_,_,_,_] i b ?_
   refine o_g 101 63 0 i b ?_
   refine o_d 103 64 i b ?_
   refine o_g 104 65 1 i b ?_
   refine o_v 105 66 i b (z:=(1:Int32)) ?_
   refine o_c 106 67 i b ?_
   refine o_C 107 68 i b ag f ?_
   refine o_F 110 3 0 1 1 69 232 233 234 235 i b (o_bA l Z a0 hw [] (0:Int32) (1:Int32) (1:Int32) v n0 (Nat.le_trans Z0 KP.1) h (by decide) (by decide) (by decide)) o_bz ag fun _ T51 bn X51 aH=> ?_
   obtain ⟨rfl,aI,am⟩:=aH
   have aJ:=Fr.app N0 aI
   refine o_k [_] ?_
   refine o_bk 111 70 X51 b ?_
   refine o_d 113 71 X51 b ?_
   refine o_d 115 72 X51 b ?_
   refine o_d 117 73 X51 b ?_
   refine o_v 118 74 X51 b (z:=(0:Int32)) ?_
   refine o_g 119 75 1 X51 b ?_
   refine o_v 120 76 X51 b (z:=(1:Int32)) ?_
   refine o_l 122 77 X51 b ?_
   refine o_C 123 78 X51 b am y ?_
   refine o_F 126 3 0 1 1 79 232 233 234 235 X51 b (o_bA l Z a0 hw [] (0:Int32) (1:Int32) (1:Int32) v n0 (Nat.le_trans Z0 KP.1) h (by decide) (by decide) (by decide)) o_bz am fun _ T52 bo X52 aK=> ?_
   obtain ⟨rfl,aL,aM⟩:=aK
   have aN:=Fr.app aJ aL
   refine o_k [_] ?_
   refine o_bk 127 80 X52 b ?_
   refine o_l 129 81 X52 b ?_
   refine o_c 130 82 X52 b ?_
   refine o_d 132 83 X52 b ?_
   refine o_e 133 84 X52 b ?_
   refine o_d 135 85 X52 b ?_
   refine o_F 138 5 0 1 1 86 240 241 24 242 X52 b (o_mY l Z a0 hw [] q a sh v n0 (Nat.le_trans Z0 KP.1) h) o_c9 aM fun _ bp bq k aO=> ?_
   obtain ⟨rfl,aP,ao⟩:=aO
   have aQ:=Fr.app aN aP
   refine o_k [] ?_
   refine o_l 140 87 k b ?_
   refine o_d 142 88 k b ?_
   refine o_d 144 89 k b ?_
   refine o_v 145 90 k b (z:=(0:Int32)) ?_
   refine o_c 146 91 k b ?_
   refine o_d 148 92 k b ?_
   refine o_Q 149 93 k b ao f (x:=x0) ?_
   refine o_e 150 94 k b ?_
   refine o_aS 151 95 k b ?_
   refine o_8 152 0 96 k b ao y fun T54 aR X54 aS aq aT=> ?_
   have aU:=Fr.snoc X54 aQ al
   have KP:=KP.wr aq (Or.inr N)
   have O:=O.wr aq
   have y:Arv Z aR q L .int (1:Int32) [(.int (x0<<<(sh&&&31)))] (.int (0:Int32)):=aT
   refine o_l 154 97 X54 b ?_
   exact o_K 98 X54 b hret G (by rw[aS];exact ⟨q,L,rfl,aU,KP,al,N,Or.inl ⟨_,y,o_g3 hs h1s hk hh0 hx0,o_g5 hs h1s hk hh0,O⟩⟩)
  ·refine o_r 63 40 X0 b rfl ((if0 _ _).trans (feq hh0).1) ?_
   refine o_d 65 41 X0 b ?_
   refine o_e 66 42 X0 b ?_
   refine o_v 67 43 X0 b (z:=(1:Int32)) ?_
   refine o_g 68 44 1 X0 b ?_
   refine o_v 69 45 X0 b (z:=(2:Int32)) ?_
   obtain ⟨br,au,A,t,aV,P,av,aw,ax⟩:=newPE X0 hx hZ (o_b hw 52 rfl) e0 (g:=(mkF m 69 #[rv a,iv sh,iv 0,iv sh,iv 1,.val .null,iv 0,iv ((32:Int32)-sh),iv ((x0.toUInt32>>>(((32:Int32)-sh)&&&31).toUInt32).toInt32),.unset] [(.int (2:Int32))])) rfl (D 46 rfl) rfl (by decide) (cap:=2) (by decide) (by decide) (by decide) (by decide) (ad:="[I") (by decide)
   obtain ⟨n,Q⟩: ∃z,z=h0.size:=⟨_,rfl⟩
   rw[←Q] at av aw ax
   have B:h0.size≤n:=Nat.le_trans KP.1 (Nat.le_of_eq Q.symm)
   have C:n0≤n:=Nat.le_trans Z0 B
   have aW:a≠n:=Nat.ne_of_lt (Nat.lt_of_lt_of_le f.lt (Nat.le_of_eq Q.symm))
   have h:=h.ext P
   have KP:=KP.ext P
   have f:=f.ext P
   have w:Exa Z au n "[I":=aw
   have u:Arv Z au n A .int (2:Int32) [(.int (0:Int32)),(.int (0:Int32))] (.int (0:Int32)):=(Arv.new av (by decide)).pad (pad_rep [] (.int (0:Int32)) 2)
   refine o_i (mkF m 71 #[rv a,iv sh,iv 0,iv sh,iv 1,.val .null,iv 0,iv ((32:Int32)-sh),iv ((x0.toUInt32>>>(((32:Int32)-sh)&&&31).toUInt32).toInt32),.unset] [(.ref n)]) ax ?_
   refine o_1 73 47 #[_,_,_,_,_,_,_,_,_,_] t b ?_
   refine o_l 75 48 t b ?_
   refine o_d 77 49 t b ?_
   refine o_G 80 50 #[_,_,_,_,_,_,iv 1,_,_,_] t b ?_
   refine o_d 82 51 t b ?_
   refine o_8 83 0 52 t b aV u fun T56 E X56 ay F aX=> ?_
   have aY:=Fr.snoc X56 N0 C
   have h:=h.wr F C
   have KP:=KP.wr F (Or.inr B)
   have f:=f.other F aW
   have w:=w.wr F
   have u:Arv Z E n A .int (2:Int32) [(.int ((x0.toUInt32>>>(((32:Int32)-sh)&&&31).toUInt32).toInt32)),(.int (0:Int32))] (.int (0:Int32)):=aX
   refine o_w 94 53 X56 b ?_
   refine o_d 96 59 X56 b ?_
   refine o_g 97 60 1 X56 b ?_
   refine o_J 98 61 X56 b (z:=(0:Int32)) ?_
   refine o_o 100 62 #[_,_,_,_,_,_,_,_,_,_] X56 b ?_
   refine o_g 101 63 0 X56 b ?_
   refine o_d 103 64 X56 b ?_
   refine o_g 104 65 1 X56 b ?_
   refine o_v 105 66 X56 b (z:=(1:Int32)) ?_
   refine o_c 106 67 X56 b ?_
   refine o_C 107 68 X56 b ay f ?_
   refine o_F 110 3 0 1 2 69 232 233 234 235 X56 b (o_bA l Z a0 hw [] (0:Int32) (1:Int32) (1:Int32) E n0 (Nat.le_trans Z0 KP.1) h (by decide) (by decide) (by decide)) o_bz ay fun _ T57 bt X57 aZ=> ?_
   obtain ⟨rfl,a5,aA⟩:=aZ
   have a6:=Fr.app aY a5
   refine o_k [_] ?_
   refine o_bk 111 70 X57 b ?_
   refine o_d 113 71 X57 b ?_
   refine o_d 115 72 X57 b ?_
   refine o_d 117 73 X57 b ?_
   refine o_v 118 74 X57 b (z:=(1:Int32)) ?_
   refine o_g 119 75 1 X57 b ?_
   refine o_v 120 76 X57 b (z:=(2:Int32)) ?_
   refine o_l 122 77 X57 b ?_
   refine o_C 123 78 X57 b aA u ?_
   refine o_F 126 3 0 1 2 79 232 233 234 235 X57 b (o_bA l Z a0 hw [] (1:Int32) (2:Int32) (2:Int32) E n0 (Nat.le_trans Z0 KP.1) h (by decide) (by decide) (by decide)) o_bz aA fun _ bu bv r a7=> ?_
   obtain ⟨rfl,a8,a9⟩:=a7
   have a_:=Fr.app a6 a8
   refine o_k [_] ?_
   refine o_bk 127 80 r b ?_
   refine o_l 129 81 r b ?_
   refine o_c 130 82 r b ?_
   refine o_d 132 83 r b ?_
   refine o_e 133 84 r b ?_
   refine o_d 135 85 r b ?_
   refine o_F 138 5 0 1 2 86 240 241 24 242 r b (o_m0 l Z a0 hw [] n a sh E n0 (Nat.le_trans Z0 KP.1) h) o_c9 a9 fun _ bw bx o a'=> ?_
   obtain ⟨rfl,bb,aB⟩:=a'
   have bd:=Fr.app a_ bb
   refine o_k [] ?_
   refine o_l 140 87 o b ?_
   refine o_d 142 88 o b ?_
   refine o_d 144 89 o b ?_
   refine o_v 145 90 o b (z:=(1:Int32)) ?_
   refine o_c 146 91 o b ?_
   refine o_d 148 92 o b ?_
   refine o_Q 149 93 o b aB f (x:=x0) ?_
   refine o_e 150 94 o b ?_
   refine o_aS 151 95 o b ?_
   refine o_8 152 1 96 o b aB u fun bz be R bf aC bg=> ?_
   have bh:=Fr.snoc R bd C
   have KP:=KP.wr aC (Or.inr B)
   have w:=w.wr aC
   have u:Arv Z be n A .int (2:Int32) [(.int ((x0.toUInt32>>>(((32:Int32)-sh)&&&31).toUInt32).toInt32)),(.int (x0<<<(sh&&&31)))] (.int (0:Int32)):=bg
   refine o_l 154 97 R b ?_
   exact o_K 98 R b hret G (by rw[bf];exact ⟨n,A,rfl,bh,KP,C,B,Or.inr ⟨_,_,u,hh0,o_g4 hs h1s hk,w⟩⟩)
def o_m3 (Z:State)(a:Addr)(ka:ClassId)(x0 x1 sh:Int32)(ks:Nat)(h0:Heap)(n0:Nat)(v:Option Value)(h:Heap)(L:List Loc):Prop:= ∃(b:Addr) (kb:ClassId),v=some (.ref b)∧Fr n0 L∧Keep h0 h []∧n0≤b∧h0.size≤b∧(o_dy Z h b kb ((o_a x0*4294967296+o_a x1)*2^ks)∨o_gZ Z h b kb ((o_a x0*4294967296+o_a x1)*2^ks))
theorem o_m4 (l:Launch)(Z:State)(a0:Array Value)(hw: ∀d∈tables_1,d.before a0 Z=true)(ws:List Jvm.Cond)(a:Addr)(ka:ClassId)(x0 x1 sh:Int32)(ks:Nat)(h0:Heap)(n0:Nat)(Z0:n0≤h0.size)(i:Old Z n0 h0)(f:Arv Z h0 a ka .int (2:Int32) [(.int x0),(.int x1)] (.int (0:Int32)))(hx0: ¬x0=0)(hs:sh.toInt=(ks:Int))(hk:ks≤31):
  o_q l (⟨"java/math/BigInteger","shiftLeft","([II)[I"⟩:MethodName) (Jvm.Cond.code (⟨"java/math/BigInteger","shiftLeft","([II)[I"⟩:MethodName) jdk_2097_method_102_code 10 (some (.array .int))::ws) ({frames:=2,cells:=1,slots:=3,locals:=40}:Room) #[(.ref a),(.int sh)] Z h0 (o_m3 Z a ka x0 x1 sh ks h0 n0):=by
 refine o_u (plainFor_of_name o_Y) (fun m=>o_lq m a sh) fun p e s m bz bA c s₁ hx aj N ak (al:s.vm.findClass "java/math/BigInteger"=some m.cls) hnm hret X0 hZ e0=> ?_
 have D:=o_S aj o_cY
 have b:=o_t hx aj o_cY al hZ ak hw
 have N0:=Fr.nil n0
 have KP:Keep h0 h0 []:=Keep.refl _ _
 refine o_e 1 0 X0 b ?_
 refine o_g 2 1 5 X0 b ?_
 refine o_af 3 2 X0 b ?_
 rw[o_dA hs hk]
 refine o_O 4 3 #[_,_,_,_,_,_,_,_,_,_] X0 b ?_
 refine o_e 5 4 X0 b ?_
 refine o_B 7 5 31 X0 b ?_
 refine o_ba 8 6 X0 b ?_
 rw[o_dB hs hk]
 refine o_O 9 7 #[_,_,_,_,_,_,_,_,_,_] X0 b ?_
 refine o_c 10 8 X0 b ?_
 refine o_C 11 9 X0 b e0 f ?_
 refine o_o 13 10 #[_,_,_,_,_,_,_,_,_,_] X0 b ?_
 refine o_cJ 14 11 X0 b ?_
 refine o_1 16 12 #[_,_,_,_,_,_,_,_,_,_] X0 b ?_
 refine o_e 17 13 X0 b ?_
 by_cases hs0:sh=(0:Int32)
 ·refine o_r 20 14 X0 b rfl ((if0 _ _).trans (teq hs0).2) ?_
  refine o_d 22 15 X0 b ?_
  refine o_e 23 16 X0 b ?_
  refine o_v 24 17 X0 b (z:=(2:Int32)) ?_
  obtain ⟨bB,am,O,w,aO,ao,aq,au,av⟩:=newPE X0 hx hZ (o_b hw 52 rfl) e0 (g:=(mkF m 24 #[rv a,iv sh,iv 0,iv sh,iv 2,.val .null,.unset,.unset,.unset,.unset] [(.int (2:Int32))])) rfl (D 18 rfl) rfl (by decide) (cap:=2) (by decide) (by decide) (by decide) (by decide) (ad:="[I") (by decide)
  obtain ⟨n,aw⟩: ∃z,z=h0.size:=⟨_,rfl⟩
  rw[←aw] at aq au av
  have P:h0.size≤n:=Nat.le_trans KP.1 (Nat.le_of_eq aw.symm)
  have ax:n0≤n:=Nat.le_trans Z0 P
  have KP:=KP.ext ao
  have f:=f.ext ao
  have Q:Exa Z am n "[I":=au
  have R:Arv Z am n O .int (2:Int32) [(.int (0:Int32)),(.int (0:Int32))] (.int (0:Int32)):=(Arv.new aq (by decide)).pad (pad_rep [] (.int (0:Int32)) 2)
  refine o_i (mkF m 26 #[rv a,iv sh,iv 0,iv sh,iv 2,.val .null,.unset,.unset,.unset,.unset] [(.ref n)]) av ?_
  refine o_1 28 19 #[_,_,_,_,_,_,_,_,_,_] w b ?_
  refine o_c 29 20 w b ?_
  refine o_g 30 21 0 w b ?_
  refine o_l 32 22 w b ?_
  refine o_g 33 23 0 w b ?_
  refine o_d 35 24 w b ?_
  obtain ⟨bC,aP,bD,S,aQ,aR,ay,aS,aT⟩:=cpA w hx hZ al (o_b hw 203 rfl) (o_b hw 70 rfl) (o_b hw 68 rfl) (o_b hw 69 rfl) aO f R (us:= [(.int x0),(.int x1)]) (Or.inl ⟨rfl,rfl⟩) (by decide) (by decide) (by decide) (by decide) (by decide) rfl (Nat.le_of_ble_eq_true rfl) N0 ax (g:=(mkF m 35 #[rv a,iv sh,iv 0,iv sh,iv 2,rv n,.unset,.unset,.unset,.unset] [(.int (2:Int32)),(.int (0:Int32)),(.ref n),(.int (0:Int32)),(.ref a)])) rfl (by rw[ak];rfl) rfl (D 25 rfl) (by decide) (W:=0) (by show 2*0+_≤_;exact Nat.le_of_eq rfl) (by decide)
  have KP:=KP.trans ay (allS (Or.inr P) all0)
  have Q:=Q.keep ay
  have R:Arv Z aP n O .int (2:Int32) [(.int x0),(.int x1)] (.int (0:Int32)):=aS
  refine o_i (mkF m 38 #[rv a,iv sh,iv 0,iv sh,iv 2,rv n,.unset,.unset,.unset,.unset] []) aT ?_
  refine o_w 152 26 S b ?_
  refine o_l 154 97 S b ?_
  exact o_K 98 S b hret N (by rw[aQ];exact ⟨n,O,rfl,aR,KP,ax,P,Or.inl ⟨_,_,R,hx0,o_g2 hs hs0,Q⟩⟩)
 ·refine o_p 41 14 X0 b rfl ((if0 _ _).trans (feq hs0).2) ?_
  refine o_g 42 27 0 X0 b ?_
  refine o_o 44 28 #[_,_,_,_,_,_,_,_,_,_] X0 b ?_
  refine o_B 46 29 32 X0 b ?_
  refine o_e 47 30 X0 b ?_
  refine o_J 48 31 X0 b ?_
  refine o_o 50 32 #[_,_,_,_,_,_,_,_,_,_] X0 b ?_
  refine o_c 51 33 X0 b ?_
  refine o_g 52 34 0 X0 b ?_
  refine o_Q 53 35 X0 b e0 f (x:=x0) ?_
  refine o_d 55 36 X0 b ?_
  refine o_af 56 37 X0 b ?_
  refine o_o 58 38 #[_,_,_,_,_,_,_,_,_,_] X0 b ?_
  refine o_d 60 39 X0 b ?_
  have h1s:=o_eq hs hs0
  by_cases hh0:((x0.toUInt32>>>(((32:Int32)-sh)&&&31).toUInt32).toInt32)=(0:Int32)
  ·refine o_p 86 40 X0 b rfl ((if0 _ _).trans (teq hh0).1) ?_
   refine o_d 88 54 X0 b ?_
   refine o_e 89 55 X0 b ?_
   refine o_v 90 56 X0 b (z:=(2:Int32)) ?_
   obtain ⟨bE,h63,G,j,aA,T,aB,aC,aD⟩:=newPE X0 hx hZ (o_b hw 52 rfl) e0 (g:=(mkF m 90 #[rv a,iv sh,iv 0,iv sh,iv 2,.val .null,iv 0,iv ((32:Int32)-sh),iv ((x0.toUInt32>>>(((32:Int32)-sh)&&&31).toUInt32).toInt32),.unset] [(.int (2:Int32))])) rfl (D 57 rfl) rfl (by decide) (cap:=2) (by decide) (by decide) (by decide) (by decide) (ad:="[I") (by decide)
   obtain ⟨o,U⟩: ∃z,z=h0.size:=⟨_,rfl⟩
   rw[←U] at aB aC aD
   have K:h0.size≤o:=Nat.le_trans KP.1 (Nat.le_of_eq U.symm)
   have V:n0≤o:=Nat.le_trans Z0 K
   have aE:a≠o:=Nat.ne_of_lt (Nat.lt_of_lt_of_le f.lt (Nat.le_of_eq U.symm))
   have i:=i.ext T
   have KP:=KP.ext T
   have f:=f.ext T
   have H:Exa Z h63 o "[I":=aC
   have C:Arv Z h63 o G .int (2:Int32) [(.int (0:Int32)),(.int (0:Int32))] (.int (0:Int32)):=(Arv.new aB (by decide)).pad (pad_rep [] (.int (0:Int32)) 2)
   refine o_i (mkF m 92 #[rv a,iv sh,iv 0,iv sh,iv 2,.val .null,iv 0,iv ((32:Int32)-sh),iv ((x0.toUInt32>>>(((32:Int32)-sh)&&&31).toUInt32).toInt32),.unset] [(.ref o)]) aD ?_
   refine o_1 94 58 #[_,_,_,_,_,_,_,_,_,_] j b ?_
   refine o_d 96 59 j b ?_
   refine o_g 97 60 1 j b ?_
   refine o_J 98 61 j b (z:=(1:Int32)) ?_
   refine o_o 100 62 #[_,_,_,_,_,_,_,_,_,_] j b ?_
   refine o_g 101 63 0 j b ?_
   refine o_d 103 64 j b ?_
   refine o_g 104 65 1 j b ?_
   refine o_v 105 66 j b (z:=(2:Int32)) ?_
   refine o_c 106 67 j b ?_
   refine o_C 107 68 j b aA f ?_
   refine o_F 110 3 0 1 2 69 232 233 234 235 j b (o_bA l Z a0 hw [] (0:Int32) (2:Int32) (2:Int32) h63 n0 (Nat.le_trans Z0 KP.1) i (by decide) (by decide) (by decide)) o_bz aA fun _ bF bG q aU=> ?_
   obtain ⟨rfl,aV,aF⟩:=aU
   have aW:=Fr.app N0 aV
   refine o_k [_] ?_
   refine o_bk 111 70 q b ?_
   refine o_d 113 71 q b ?_
   refine o_d 115 72 q b ?_
   refine o_d 117 73 q b ?_
   refine o_v 118 74 q b (z:=(1:Int32)) ?_
   refine o_g 119 75 1 q b ?_
   refine o_v 120 76 q b (z:=(2:Int32)) ?_
   refine o_l 122 77 q b ?_
   refine o_C 123 78 q b aF C ?_
   refine o_F 126 3 0 1 2 79 232 233 234 235 q b (o_bA l Z a0 hw [] (0:Int32) (2:Int32) (2:Int32) h63 n0 (Nat.le_trans Z0 KP.1) i (by decide) (by decide) (by decide)) o_bz aF fun _ bH bI y aX=> ?_
   obtain ⟨rfl,aY,e65⟩:=aX
   have aZ:=Fr.app aW aY
   refine o_k [_] ?_
   refine o_bk 127 80 y b ?_
   refine o_l 129 81 y b ?_
   refine o_c 130 82 y b ?_
   refine o_d 132 83 y b ?_
   refine o_e 133 84 y b ?_
   refine o_d 135 85 y b ?_
   refine o_F 138 5 0 1 2 86 240 241 24 242 y b (o_mU l Z a0 hw [] o G a ka x0 x1 sh (0:Int32) (0:Int32) h63 n0 (Nat.le_trans Z0 KP.1) i V aE f C) o_c9 e65 fun _ a5 bJ r a6=> ?_
   obtain ⟨rfl,a7,X,a8⟩:=a6
   have a9:=Fr.app aZ a7
   have KP:=KP.trans X (allS (Or.inr K) all0)
   have f:=f.keep X (ninS aE nin0)
   have H:=H.keep X
   refine o_k [] ?_
   have C:Arv Z a5.heap o G .int (2:Int32) [(.int ((x0<<<(sh&&&31))|||((x1.toUInt32>>>(((32:Int32)-sh)&&&31).toUInt32).toInt32))),(.int (0:Int32))] (.int (0:Int32)):=a8
   refine o_l 140 87 r b ?_
   refine o_d 142 88 r b ?_
   refine o_d 144 89 r b ?_
   refine o_v 145 90 r b (z:=(1:Int32)) ?_
   refine o_c 146 91 r b ?_
   refine o_d 148 92 r b ?_
   refine o_Q 149 93 r b rfl f (x:=x1) ?_
   refine o_e 150 94 r b ?_
   refine o_aS 151 95 r b ?_
   refine o_8 152 1 96 r b rfl C fun bK a_ Y a' aG bb=> ?_
   have bd:=Fr.snoc Y a9 V
   have KP:=KP.wr aG (Or.inr K)
   have H:=H.wr aG
   have C:Arv Z a_ o G .int (2:Int32) [(.int ((x0<<<(sh&&&31))|||((x1.toUInt32>>>(((32:Int32)-sh)&&&31).toUInt32).toInt32))),(.int (x1<<<(sh&&&31)))] (.int (0:Int32)):=bb
   refine o_l 154 97 Y b ?_
   exact o_K 98 Y b hret N (by rw[a'];exact ⟨o,G,rfl,bd,KP,V,K,Or.inl ⟨_,_,C,o_g8 hs h1s hk hh0 hx0,o_g7 hs h1s hk hh0,H⟩⟩)
  ·refine o_r 63 40 X0 b rfl ((if0 _ _).trans (feq hh0).1) ?_
   refine o_d 65 41 X0 b ?_
   refine o_e 66 42 X0 b ?_
   refine o_v 67 43 X0 b (z:=(2:Int32)) ?_
   refine o_g 68 44 1 X0 b ?_
   refine o_v 69 45 X0 b (z:=(3:Int32)) ?_
   obtain ⟨bL,aH,E,F,be,ae,aI,aJ,aK⟩:=newPE X0 hx hZ (o_b hw 52 rfl) e0 (g:=(mkF m 69 #[rv a,iv sh,iv 0,iv sh,iv 2,.val .null,iv 0,iv ((32:Int32)-sh),iv ((x0.toUInt32>>>(((32:Int32)-sh)&&&31).toUInt32).toInt32),.unset] [(.int (3:Int32))])) rfl (D 46 rfl) rfl (by decide) (cap:=3) (by decide) (by decide) (by decide) (by decide) (ad:="[I") (by decide)
   obtain ⟨k,af⟩: ∃z,z=h0.size:=⟨_,rfl⟩
   rw[←af] at aI aJ aK
   have I:h0.size≤k:=Nat.le_trans KP.1 (Nat.le_of_eq af.symm)
   have J:n0≤k:=Nat.le_trans Z0 I
   have ag:a≠k:=Nat.ne_of_lt (Nat.lt_of_lt_of_le f.lt (Nat.le_of_eq af.symm))
   have i:=i.ext ae
   have KP:=KP.ext ae
   have f:=f.ext ae
   have A:Exa Z aH k "[I":=aJ
   have v:Arv Z aH k E .int (3:Int32) [(.int (0:Int32)),(.int (0:Int32)),(.int (0:Int32))] (.int (0:Int32)):=(Arv.new aI (by decide)).pad (pad_rep [] (.int (0:Int32)) 3)
   refine o_i (mkF m 71 #[rv a,iv sh,iv 0,iv sh,iv 2,.val .null,iv 0,iv ((32:Int32)-sh),iv ((x0.toUInt32>>>(((32:Int32)-sh)&&&31).toUInt32).toInt32),.unset] [(.ref k)]) aK ?_
   refine o_1 73 47 #[_,_,_,_,_,_,_,_,_,_] F b ?_
   refine o_l 75 48 F b ?_
   refine o_d 77 49 F b ?_
   refine o_G 80 50 #[_,_,_,_,_,_,iv 1,_,_,_] F b ?_
   refine o_d 82 51 F b ?_
   refine o_8 83 0 52 F b be v fun bM L h aL M bf=> ?_
   have bg:=Fr.snoc h N0 J
   have i:=i.wr M J
   have KP:=KP.wr M (Or.inr I)
   have f:=f.other M ag
   have A:=A.wr M
   have v:Arv Z L k E .int (3:Int32) [(.int ((x0.toUInt32>>>(((32:Int32)-sh)&&&31).toUInt32).toInt32)),(.int (0:Int32)),(.int (0:Int32))] (.int (0:Int32)):=bf
   refine o_w 94 53 h b ?_
   refine o_d 96 59 h b ?_
   refine o_g 97 60 1 h b ?_
   refine o_J 98 61 h b (z:=(1:Int32)) ?_
   refine o_o 100 62 #[_,_,_,_,_,_,_,_,_,_] h b ?_
   refine o_g 101 63 0 h b ?_
   refine o_d 103 64 h b ?_
   refine o_g 104 65 1 h b ?_
   refine o_v 105 66 h b (z:=(2:Int32)) ?_
   refine o_c 106 67 h b ?_
   refine o_C 107 68 h b aL f ?_
   refine o_F 110 3 0 1 3 69 232 233 234 235 h b (o_bA l Z a0 hw [] (0:Int32) (2:Int32) (2:Int32) L n0 (Nat.le_trans Z0 KP.1) i (by decide) (by decide) (by decide)) o_bz aL fun _ bN bO t bh=> ?_
   obtain ⟨rfl,bj,aM⟩:=bh
   have bk:=Fr.app bg bj
   refine o_k [_] ?_
   refine o_bk 111 70 t b ?_
   refine o_d 113 71 t b ?_
   refine o_d 115 72 t b ?_
   refine o_d 117 73 t b ?_
   refine o_v 118 74 t b (z:=(2:Int32)) ?_
   refine o_g 119 75 1 t b ?_
   refine o_v 120 76 t b (z:=(3:Int32)) ?_
   refine o_l 122 77 t b ?_
   refine o_C 123 78 t b aM v ?_
   refine o_F 126 3 0 1 3 79 232 233 234 235 t b (o_bA l Z a0 hw [] (1:Int32) (3:Int32) (3:Int32) L n0 (Nat.le_trans Z0 KP.1) i (by decide) (by decide) (by decide)) o_bz aM fun _ bP bQ B bl=> ?_
   obtain ⟨rfl,bm,e71⟩:=bl
   have bn:=Fr.app bk bm
   refine o_k [_] ?_
   refine o_bk 127 80 B b ?_
   refine o_l 129 81 B b ?_
   refine o_c 130 82 B b ?_
   refine o_d 132 83 B b ?_
   refine o_e 133 84 B b ?_
   refine o_d 135 85 B b ?_
   refine o_F 138 5 0 1 3 86 240 241 24 242 B b (o_mW l Z a0 hw [] k E a ka x0 x1 sh ((x0.toUInt32>>>(((32:Int32)-sh)&&&31).toUInt32).toInt32) (0:Int32) (0:Int32) L n0 (Nat.le_trans Z0 KP.1) i J ag f v) o_c9 e71 fun _ bo bR u bp=> ?_
   obtain ⟨rfl,bq,ah,br⟩:=bp
   have bt:=Fr.app bn bq
   have KP:=KP.trans ah (allS (Or.inr I) all0)
   have f:=f.keep ah (ninS ag nin0)
   have A:=A.keep ah
   refine o_k [] ?_
   have v:Arv Z bo.heap k E .int (3:Int32) [(.int ((x0.toUInt32>>>(((32:Int32)-sh)&&&31).toUInt32).toInt32)),(.int ((x0<<<(sh&&&31))|||((x1.toUInt32>>>(((32:Int32)-sh)&&&31).toUInt32).toInt32))),(.int (0:Int32))] (.int (0:Int32)):=br
   refine o_l 140 87 u b ?_
   refine o_d 142 88 u b ?_
   refine o_d 144 89 u b ?_
   refine o_v 145 90 u b (z:=(2:Int32)) ?_
   refine o_c 146 91 u b ?_
   refine o_d 148 92 u b ?_
   refine o_Q 149 93 u b rfl f (x:=x1) ?_
   refine o_e 150 94 u b ?_
   refine o_aS 151 95 u b ?_
   refine o_8 152 2 96 u b rfl v fun bS bu ai bv aN bw=> ?_
   have bx:=Fr.snoc ai bt J
   have KP:=KP.wr aN (Or.inr I)
   have A:=A.wr aN
   have v:Arv Z bu k E .int (3:Int32) [(.int ((x0.toUInt32>>>(((32:Int32)-sh)&&&31).toUInt32).toInt32)),(.int ((x0<<<(sh&&&31))|||((x1.toUInt32>>>(((32:Int32)-sh)&&&31).toUInt32).toInt32))),(.int (x1<<<(sh&&&31)))] (.int (0:Int32)):=bw
   refine o_l 154 97 ai b ?_
   exact o_K 98 ai b hret N (by rw[bv];exact ⟨k,E,rfl,bx,KP,J,I,Or.inr ⟨_,_,_,v,hh0,o_g6 hs h1s hk,A⟩⟩)
def o_m5 (Z:State)(a:Addr)(ka:ClassId)(x0 y:Int32)(h0:Heap)(n0:Nat)(v:Option Value)(h:Heap)(L:List Loc):Prop:= ∃(x a:Addr) (k:ClassId),v=some (.ref x)∧Fr n0 L∧Keep h0 h []∧(o_bM Z h x a k (o_a x0*o_a y)∨o_aY Z h x a k (o_a x0*o_a y))
theorem o_m6 (l:Launch)(Z:State)(a0:Array Value)(hw: ∀d∈tables_1,d.before a0 Z=true)(ws:List Jvm.Cond)(a:Addr)(ka:ClassId)(x0 y:Int32)(h0:Heap)(n0:Nat)(Z0:n0≤h0.size)(h:Old Z n0 h0)(A:Arv Z h0 a ka .int (1:Int32) [(.int x0)] (.int (0:Int32)))(hx0: ¬x0=0)(hy: ¬y=0):
  o_q l (⟨"java/math/BigInteger","multiplyByInt","([III)Ljava/math/BigInteger;"⟩:MethodName) (Jvm.Cond.code (⟨"java/math/BigInteger","multiplyByInt","([III)Ljava/math/BigInteger;"⟩:MethodName) jdk_2097_method_43_code 13 (some (.object "java/math/BigInteger"))::ws) ({frames:=3,cells:=3,slots:=15,locals:=80}:Room) #[(.ref a),(.int y),(.int (1:Int32))] Z h0 (o_m5 Z a ka x0 y h0 n0):=by
 refine o_u (plainFor_of_name o_Y) (fun m=>o_lr m a y (1:Int32)) fun p e s m b' ca c s₁ hx aA J a7 (K:s.vm.findClass "java/math/BigInteger"=some m.cls) hnm hret X0 hZ e0=> ?_
 have D:=o_S aA o_c0
 have b:=o_t hx aA o_c0 K hZ a7 hw
 have N0:=Fr.nil n0
 have KP:Keep h0 h0 []:=Keep.refl _ _
 refine o_e 1 0 X0 b ?_
 refine o_F 4 1 0 0 0 1 45 46 47 48 X0 b (o_f9 l Z a0 hw [] y h0 n0 (Nat.le_trans Z0 KP.1) h) o_aN e0 fun _ cb cd r a8=> ?_
 obtain ⟨rb,rfl,a9,e74,hbc⟩:=a8
 have aB:=Fr.app N0 a9
 refine o_k [_] ?_
 refine o_g 5 2 1 r b ?_
 by_cases hb1:rb=(1:Int32)
 ·refine o_E 8 3 r b rfl (teq hb1).2 ?_
  obtain ⟨ce,F,L,a_,W,aC,X,-,aD⟩:=newO r hx hZ K (o_b hw 71 rfl) (o_b hw 72 rfl) (o_b hw 24 rfl) e74 (g:=(mkF m 8 #[rv a,iv y,iv 1,.unset,.unset,.unset,.unset,.unset,.unset,.unset,.unset,.unset,.unset] [])) rfl (D 4 rfl) (by decide) (by decide)
  obtain ⟨q,aE⟩: ∃z,z=h0.size:=⟨_,rfl⟩
  rw[←aE] at aC X aD
  have Y:h0.size≤q:=Nat.le_trans KP.1 (Nat.le_of_eq aE.symm)
  have aF:n0≤q:=Nat.le_trans Z0 Y
  have h:=h.ext W
  have KP:=KP.ext W
  have A:=A.ext W
  have G:Exa Z F q "java/math/BigInteger":=aC
  have M:Fld Z F q "java/math/BigInteger" "signum" "I" (.int (0:Int32)):=X (Or.inr (o_b hw 39 rfl)) (ty:= .int) (by decide)
  have N:Fld Z F q "java/math/BigInteger" "mag" "[I" .null:=X (Or.inr (o_b hw 41 rfl)) (ty:=(.array .int)) (by decide)
  refine o_i (mkF m 11 #[rv a,iv y,iv 1,.unset,.unset,.unset,.unset,.unset,.unset,.unset,.unset,.unset,.unset] [(.ref q)]) aD ?_
  refine o_ab 12 5 L b ?_
  refine o_c 13 6 L b ?_
  refine o_e 14 7 L b ?_
  obtain ⟨ks,hk,hu,hs⟩:=o_eo (hbc hb1)
  refine o_F 17 1 3 1 6 8 197 198 47 199 L b (o_f_ l Z a0 hw [] y F n0 (Nat.le_trans Z0 KP.1) h) o_aN a_ fun _ T76 cg X76 a'=> ?_
  obtain ⟨rfl,bd,be⟩:=a'
  have bf:=Fr.app aB bd
  refine o_k [_,_,_,_] ?_
  have aG:=G.lt
  refine o_F 20 2 2 2 8 9 200 201 24 202 X76 b (o_m2 l Z a0 hw [] a ka x0 (o_bi y) ks F n0 (Nat.le_trans Z0 KP.1) h A hx0 hs hk) o_fS be fun _ aH ci O bg=> ?_
  obtain ⟨bb,B,rfl,bh,H,bj,ae,bk⟩:=bg
  have aI:=Fr.app bf bh
  have h:=h.keep H all0
  have KP:=KP.trans H all0
  have G:=G.keep H
  have M:=M.keep H nin0
  have N:=N.keep H nin0
  rcases bk with ⟨w0,j,hw0,hv,k⟩|⟨w0,w1,j,hw0,hv,k⟩
  ·refine o_k [_,_,_] ?_
   have I:q≠bb:=Nat.ne_of_lt (Nat.lt_of_lt_of_le aG ae)
   refine o_e 21 10 O b ?_
   refine o_7 24 2 1 2 8 11 73 74 24 76 O b (o_aG l Z a0 hw [] q bb aH.heap n0 (Nat.le_trans Z0 KP.1) h aF G M N B (1:Int32) _ (Ne.symm I) j (by decide) (by decide)) o_aw rfl rfl fun _ cj ck bl bm=> ?_
   obtain ⟨rfl,bn,af,bo,bp,bq⟩:=bm
   have br:=Fr.app aI bn
   have KP:=KP.trans af (allS (Or.inr Y) all0)
   have j:=j.keep af (ninS (Ne.symm I) nin0)
   have k:=k.keep af
   refine o_k [_] ?_
   exact o_K 12 bl b hret J (by exact ⟨q,bb,B,rfl,br,KP,Or.inl ⟨_,⟨bo,bp,bq,j,k⟩,hw0,by rw[hu];exact hv⟩⟩)
  ·refine o_k [_,_,_] ?_
   have I:q≠bb:=Nat.ne_of_lt (Nat.lt_of_lt_of_le aG ae)
   refine o_e 21 10 O b ?_
   refine o_7 24 2 1 2 8 11 73 74 24 76 O b (o_aG l Z a0 hw [] q bb aH.heap n0 (Nat.le_trans Z0 KP.1) h aF G M N B (2:Int32) _ (Ne.symm I) j (by decide) (by decide)) o_aw rfl rfl fun _ T79 cl X79 bt=> ?_
   obtain ⟨rfl,bu,ag,bv,bw,bx⟩:=bt
   have bz:=Fr.app aI bu
   have KP:=KP.trans ag (allS (Or.inr Y) all0)
   have j:=j.keep ag (ninS (Ne.symm I) nin0)
   have k:=k.keep ag
   refine o_k [_] ?_
   exact o_K 12 X79 b hret J (by exact ⟨q,bb,B,rfl,bz,KP,Or.inr ⟨_,_,⟨bv,bw,bx,j,k⟩,hw0,by rw[hu];exact hv⟩⟩)
 ·refine o_z 25 3 r b rfl (feq hb1).2 ?_
  refine o_c 26 13 r b ?_
  refine o_C 27 14 r b e74 A ?_
  refine o_O 28 15 #[_,_,_,_,_,_,_,_,_,_,_,_,_] r b ?_
  refine o_e 29 16 r b ?_
  refine o_g 30 17 1 r b ?_
  refine o_v 31 18 r b (z:=(2:Int32)) ?_
  obtain ⟨cm,aJ,C,f,ah,ai,aK,aL,aM⟩:=newPE r hx hZ (o_b hw 52 rfl) e74 (g:=(mkF m 31 #[rv a,iv y,iv 1,iv 1,.unset,.unset,.unset,.unset,.unset,.unset,.unset,.unset,.unset] [(.int (2:Int32))])) rfl (D 19 rfl) rfl (by decide) (cap:=2) (by decide) (by decide) (by decide) (by decide) (ad:="[I") (by decide)
  obtain ⟨n,aN⟩: ∃z,z=h0.size:=⟨_,rfl⟩
  rw[←aN] at aK aL aM
  have aj:h0.size≤n:=Nat.le_trans KP.1 (Nat.le_of_eq aN.symm)
  have P:n0≤n:=Nat.le_trans Z0 aj
  have h:=h.ext ai
  have KP:=KP.ext ai
  have A:=A.ext ai
  have t:Exa Z aJ n "[I":=aL
  have o:Arv Z aJ n C .int (2:Int32) [(.int (0:Int32)),(.int (0:Int32))] (.int (0:Int32)):=(Arv.new aK (by decide)).pad (pad_rep [] (.int (0:Int32)) 2)
  refine o_i (mkF m 33 #[rv a,iv y,iv 1,iv 1,.unset,.unset,.unset,.unset,.unset,.unset,.unset,.unset,.unset] [(.ref n)]) aM ?_
  refine o_1 35 20 #[_,_,_,_,_,_,_,_,_,_,_,_,_] f b ?_
  refine o_ac 36 21 0 f b ?_
  refine o_H 38 22 #[_,_,_,_,_,_,_,_,_,_,_,_,_] f b ?_
  refine o_e 39 23 f b ?_
  refine o_D 40 24 f b ?_
  refine o_y 43 53 25 f b ?_
  refine o_A 44 26 f b ?_
  refine o_H 46 27 #[_,_,_,_,_,_,_,_,_,_,_,_,_] f b ?_
  refine o_l 48 28 f b ?_
  refine o_C 49 29 f b ah o ?_
  refine o_g 50 30 1 f b ?_
  refine o_J 51 31 f b (z:=(1:Int32)) ?_
  refine o_o 53 32 #[_,_,_,_,_,_,_,_,_,_,_,_,_] f b ?_
  refine o_e 54 33 f b ?_
  refine o_g 55 34 1 f b ?_
  refine o_J 56 35 f b (z:=(0:Int32)) ?_
  refine o_o 58 36 #[_,_,_,_,_,_,_,_,_,_,_,_,_] f b ?_
  refine o_d 60 37 f b ?_
  refine o_r 63 38 f b rfl ((if0 _ _).trans (flt (by decide: ¬((0:Int32)<(0:Int32)))).1) ?_
  refine o_c 64 39 f b ?_
  refine o_d 66 40 f b ?_
  refine o_Q 67 41 f b ah A (x:=x0) ?_
  refine o_D 68 42 f b ?_
  refine o_y 71 53 43 f b ?_
  refine o_A 72 44 f b ?_
  refine o_j 74 45 f b ?_
  refine o_ah 75 46 f b ?_
  refine o_j 77 47 f b ?_
  refine o_4 78 48 f b ?_
  generalize bA:((((x0.toInt64)&&&(4294967295:Int64))*((y.toInt64)&&&(4294967295:Int64)))+(0:Int64))=w
  refine o_H 80 49 #[_,_,_,_,_,_,_,_,_,_,_,_,_] f b ?_
  refine o_l 82 50 f b ?_
  refine o_d 84 51 f b ?_
  refine o_G 87 52 #[_,_,_,_,_,_,_,_,_,iv 0,_,_,_] f b ?_
  refine o_j 89 53 f b ?_
  refine o_X 90 54 f b ?_
  refine o_8 91 1 55 f b ah o fun cn aO i ak al bB=> ?_
  have aP:=Fr.snoc i aB P
  have h:=h.wr al P
  have KP:=KP.wr al (Or.inr aj)
  have t:=t.wr al
  have o:Arv Z aO n C .int (2:Int32) [(.int (0:Int32)),(.int (w.toInt32))] (.int (0:Int32)):=bB
  refine o_j 93 56 i b ?_
  refine o_B 95 57 32 i b ?_
  refine o_ak 96 58 i b ?_
  generalize bC:((w.toUInt64>>>((32:Int32)&&&0x3f).toInt64.toUInt64).toInt64)=E
  have MB:=o_g9 bA bC
  refine o_H 98 59 #[_,_,_,_,_,_,_,_,_,_,_,_,_] i b ?_
  refine o_G 101 60 #[_,_,_,_,_,_,_,_,_,_,iv (-1:Int32),_,_] i b ?_
  refine o_w 58 61 i b ?_
  refine o_d 60 37 i b ?_
  refine o_p 104 38 i b rfl ((if0 _ _).trans (tlt (by decide:(-1:Int32)<(0:Int32))).1) ?_
  refine o_j 106 62 i b ?_
  refine o_ac 107 63 0 i b ?_
  refine o_3 108 64 i b ?_
  by_cases hc0:(lcmpW E (0:Int64))=(0:Int32)
  ·refine o_r 111 65 i b rfl ((if0 _ _).trans (teq hc0).2) ?_
   refine o_l 113 66 i b ?_
   refine o_g 114 67 1 i b ?_
   refine o_l 116 68 i b ?_
   refine o_C 117 69 i b ak o ?_
   refine o_F 120 3 0 2 3 70 54 55 56 57 i b (o_mJ l Z a0 hw [] n C (0:Int32) (w.toInt32) aO n0 (Nat.le_trans Z0 KP.1) h o) o_bf ak fun _ bD co am bE=> ?_
   obtain ⟨bb,B,rfl,bF,aQ,bj,ae,j,k⟩:=bE
   have bG:=Fr.app aP bF
   have h:=h.keep aQ all0
   have KP:=KP.trans aQ all0
   refine o_k [_] ?_
   have CZ:=o_eu hc0 MB.2
   refine o_1 122 71 #[_,_,_,_,_,_,_,_,_,_,_,_,_] am b ?_
   refine o_w 133 72 am b ?_
   obtain ⟨cp,Q,R,bH,S,aS,ao,-,aT⟩:=newO am hx hZ K (o_b hw 71 rfl) (o_b hw 72 rfl) (o_b hw 24 rfl) rfl (g:=(mkF m 133 #[rv a,iv y,iv 1,iv 1,rv bb,.val (.long E),.second,.val (.long ((y.toInt64)&&&(4294967295:Int64))),.second,iv 0,iv (-1:Int32),.val (.long w),.second] [])) rfl (D 78 rfl) (by decide) (by decide)
   obtain ⟨u,aq⟩: ∃z,z=bD.heap.size:=⟨_,rfl⟩
   rw[←aq] at aS ao aT
   have aU:h0.size≤u:=Nat.le_trans KP.1 (Nat.le_of_eq aq.symm)
   have bI:n0≤u:=Nat.le_trans Z0 aU
   have aV:bb≠u:=Nat.ne_of_lt (Nat.lt_of_lt_of_le j.lt (Nat.le_of_eq aq.symm))
   have h:=h.ext S
   have KP:=KP.ext S
   have j:=j.ext S
   have k:=k.ext S
   have bJ:Exa Z Q u "java/math/BigInteger":=aS
   have bK:Fld Z Q u "java/math/BigInteger" "signum" "I" (.int (0:Int32)):=ao (Or.inr (o_b hw 39 rfl)) (ty:= .int) (by decide)
   have bL:Fld Z Q u "java/math/BigInteger" "mag" "[I" .null:=ao (Or.inr (o_b hw 41 rfl)) (ty:=(.array .int)) (by decide)
   refine o_i (mkF m 136 #[rv a,iv y,iv 1,iv 1,rv bb,.val (.long E),.second,.val (.long ((y.toInt64)&&&(4294967295:Int64))),.second,iv 0,iv (-1:Int32),.val (.long w),.second] [(.ref u)]) aT ?_
   refine o_ab 137 79 R b ?_
   refine o_l 139 80 R b ?_
   refine o_e 140 81 R b ?_
   refine o_7 143 2 1 3 9 82 73 74 24 76 R b (o_aG l Z a0 hw [] u bb Q n0 (Nat.le_trans Z0 KP.1) h bI bJ bK bL B (1:Int32) _ aV j (by decide) (by decide)) o_aw bH rfl fun _ T87 cq X87 bM=> ?_
   obtain ⟨rfl,bN,au,bO,bP,bQ⟩:=bM
   have bR:=Fr.app bG bN
   have KP:=KP.trans au (allS (Or.inr aU) all0)
   have j:=j.keep au (ninS aV nin0)
   have k:=k.keep au
   refine o_k [_] ?_
   exact o_K 83 X87 b hret J (by exact ⟨u,bb,B,rfl,bR,KP,Or.inl ⟨_,⟨bO,bP,bQ,j,k⟩,o_ha hx0 hy MB CZ,o_g' MB CZ⟩⟩)
  ·refine o_p 125 65 i b rfl ((if0 _ _).trans (feq hc0).2) ?_
   refine o_l 127 73 i b ?_
   refine o_d 129 74 i b ?_
   refine o_j 131 75 i b ?_
   refine o_X 132 76 i b ?_
   refine o_8 133 0 77 i b ak o fun cr aW aX bS av bT=> ?_
   have bU:=Fr.snoc aX aP P
   have h:=h.wr av P
   have KP:=KP.wr av (Or.inr aj)
   have t:=t.wr av
   have o:Arv Z aW n C .int (2:Int32) [(.int (E.toInt32)),(.int (w.toInt32))] (.int (0:Int32)):=bT
   obtain ⟨ct,T,U,bV,V,aY,aw,-,aZ⟩:=newO aX hx hZ K (o_b hw 71 rfl) (o_b hw 72 rfl) (o_b hw 24 rfl) bS (g:=(mkF m 133 #[rv a,iv y,iv 1,iv 1,rv n,.val (.long E),.second,.val (.long ((y.toInt64)&&&(4294967295:Int64))),.second,iv 0,iv (-1:Int32),.val (.long w),.second] [])) rfl (D 78 rfl) (by decide) (by decide)
   obtain ⟨v,ax⟩: ∃z,z=aW.size:=⟨_,rfl⟩
   rw[←ax] at aY aw aZ
   have a5:h0.size≤v:=Nat.le_trans KP.1 (Nat.le_of_eq ax.symm)
   have bW:n0≤v:=Nat.le_trans Z0 a5
   have a6:n≠v:=Nat.ne_of_lt (Nat.lt_of_lt_of_le t.lt (Nat.le_of_eq ax.symm))
   have h:=h.ext V
   have KP:=KP.ext V
   have t:=t.ext V
   have o:=o.ext V
   have bX:Exa Z T v "java/math/BigInteger":=aY
   have bY:Fld Z T v "java/math/BigInteger" "signum" "I" (.int (0:Int32)):=aw (Or.inr (o_b hw 39 rfl)) (ty:= .int) (by decide)
   have bZ:Fld Z T v "java/math/BigInteger" "mag" "[I" .null:=aw (Or.inr (o_b hw 41 rfl)) (ty:=(.array .int)) (by decide)
   refine o_i (mkF m 136 #[rv a,iv y,iv 1,iv 1,rv n,.val (.long E),.second,.val (.long ((y.toInt64)&&&(4294967295:Int64))),.second,iv 0,iv (-1:Int32),.val (.long w),.second] [(.ref v)]) aZ ?_
   refine o_ab 137 79 U b ?_
   refine o_l 139 80 U b ?_
   refine o_e 140 81 U b ?_
   refine o_7 143 2 1 2 8 82 73 74 24 76 U b (o_aG l Z a0 hw [] v n T n0 (Nat.le_trans Z0 KP.1) h bW bX bY bZ C (2:Int32) _ a6 o (by decide) (by decide)) o_aw bV rfl fun _ cu cv b0 b5=> ?_
   obtain ⟨rfl,b6,ay,b7,b8,b9⟩:=b5
   have b_:=Fr.app bU b6
   have KP:=KP.trans ay (allS (Or.inr a5) all0)
   have t:=t.keep ay
   have o:=o.keep ay (ninS a6 nin0)
   refine o_k [_] ?_
   exact o_K 83 b0 b hret J (by exact ⟨v,n,C,rfl,b_,KP,Or.inr ⟨_,_,⟨b7,b8,b9,o,t⟩,o_et hc0 MB.2,MB.1⟩⟩)
def o_m7 (Z:State)(a:Addr)(ka:ClassId)(x0 x1 y:Int32)(h0:Heap)(n0:Nat)(v:Option Value)(h:Heap)(L:List Loc):Prop:= ∃(x a:Addr) (k:ClassId),v=some (.ref x)∧Fr n0 L∧Keep h0 h []∧(o_aY Z h x a k ((o_a x0*4294967296+o_a x1)*o_a y)∨o_bq Z h x a k ((o_a x0*4294967296+o_a x1)*o_a y))
theorem o_f' (l:Launch)(Z:State)(a0:Array Value)(hw: ∀d∈tables_1,d.before a0 Z=true)(ws:List Jvm.Cond)(a:Addr)(ka:ClassId)(x0 x1 y:Int32)(h0:Heap)(n0:Nat)(Z0:n0≤h0.size)(h:Old Z n0 h0)(t:Arv Z h0 a ka .int (2:Int32) [(.int x0),(.int x1)] (.int (0:Int32)))(hx0: ¬x0=0)(hy: ¬y=0):
  o_q l (⟨"java/math/BigInteger","multiplyByInt","([III)Ljava/math/BigInteger;"⟩:MethodName) (Jvm.Cond.code (⟨"java/math/BigInteger","multiplyByInt","([III)Ljava/math/BigInteger;"⟩:MethodName) jdk_2097_method_43_code 13 (some (.object "java/math/BigInteger"))::ws) ({frames:=3,cells:=3,slots:=18,locals:=80}:Room) #[(.ref a),(.int y),(.int (1:Int32))] Z h0 (o_m7 Z a ka x0 x1 y h0 n0):=by
 refine o_u (plainFor_of_name o_Y) (fun m=>o_ls m a y (1:Int32)) fun p e s m cg ci c s₁ hx aB J a7 (K:s.vm.findClass "java/math/BigInteger"=some m.cls) hnm hret X0 hZ e0=> ?_
 have D:=o_S aB o_c0
 have b:=o_t hx aB o_c0 K hZ a7 hw
 have N0:=Fr.nil n0
 have KP:Keep h0 h0 []:=Keep.refl _ _
 refine o_e 1 0 X0 b ?_
 refine o_F 4 1 0 0 0 1 45 46 47 48 X0 b (o_f9 l Z a0 hw [] y h0 n0 (Nat.le_trans Z0 KP.1) h) o_aN e0 fun _ cj ck u a8=> ?_
 obtain ⟨rb,rfl,a9,X,hbc⟩:=a8
 have aC:=Fr.app N0 a9
 refine o_k [_] ?_
 refine o_g 5 2 1 u b ?_
 by_cases hb1:rb=(1:Int32)
 ·refine o_E 8 3 u b rfl (teq hb1).2 ?_
  obtain ⟨cl,F,L,a_,Y,aD,ae,-,aE⟩:=newO u hx hZ K (o_b hw 71 rfl) (o_b hw 72 rfl) (o_b hw 24 rfl) X (g:=(mkF m 8 #[rv a,iv y,iv 1,.unset,.unset,.unset,.unset,.unset,.unset,.unset,.unset,.unset,.unset] [])) rfl (D 4 rfl) (by decide) (by decide)
  obtain ⟨q,aF⟩: ∃z,z=h0.size:=⟨_,rfl⟩
  rw[←aF] at aD ae aE
  have af:h0.size≤q:=Nat.le_trans KP.1 (Nat.le_of_eq aF.symm)
  have aG:n0≤q:=Nat.le_trans Z0 af
  have h:=h.ext Y
  have KP:=KP.ext Y
  have t:=t.ext Y
  have G:Exa Z F q "java/math/BigInteger":=aD
  have M:Fld Z F q "java/math/BigInteger" "signum" "I" (.int (0:Int32)):=ae (Or.inr (o_b hw 39 rfl)) (ty:= .int) (by decide)
  have N:Fld Z F q "java/math/BigInteger" "mag" "[I" .null:=ae (Or.inr (o_b hw 41 rfl)) (ty:=(.array .int)) (by decide)
  refine o_i (mkF m 11 #[rv a,iv y,iv 1,.unset,.unset,.unset,.unset,.unset,.unset,.unset,.unset,.unset,.unset] [(.ref q)]) aE ?_
  refine o_ab 12 5 L b ?_
  refine o_c 13 6 L b ?_
  refine o_e 14 7 L b ?_
  obtain ⟨ks,hk,hu,hs⟩:=o_eo (hbc hb1)
  refine o_F 17 1 3 1 6 8 197 198 47 199 L b (o_f_ l Z a0 hw [] y F n0 (Nat.le_trans Z0 KP.1) h) o_aN a_ fun _ cm cn a' bd=> ?_
  obtain ⟨rfl,be,e90⟩:=bd
  have bf:=Fr.app aC be
  refine o_k [_,_,_,_] ?_
  have aH:=G.lt
  refine o_F 20 2 2 2 9 9 200 201 24 202 a' b (o_m4 l Z a0 hw [] a ka x0 x1 (o_bi y) ks F n0 (Nat.le_trans Z0 KP.1) h t hx0 hs hk) o_fS e90 fun _ aI co O bg=> ?_
  obtain ⟨bb,A,rfl,bh,H,bj,ag,bk⟩:=bg
  have aJ:=Fr.app bf bh
  have h:=h.keep H all0
  have KP:=KP.trans H all0
  have G:=G.keep H
  have M:=M.keep H nin0
  have N:=N.keep H nin0
  rcases bk with ⟨w0,w1,j,hw0,hv,o⟩|⟨w0,w1,w2,j,hw0,hv,o⟩
  ·refine o_k [_,_,_] ?_
   have I:q≠bb:=Nat.ne_of_lt (Nat.lt_of_lt_of_le aH ag)
   refine o_e 21 10 O b ?_
   refine o_7 24 2 1 2 9 11 73 74 24 76 O b (o_aG l Z a0 hw [] q bb aI.heap n0 (Nat.le_trans Z0 KP.1) h aG G M N A (2:Int32) _ (Ne.symm I) j (by decide) (by decide)) o_aw rfl rfl fun _ T92 cp X92 bl=> ?_
   obtain ⟨rfl,bm,ah,bn,bo,bp⟩:=bl
   have bq:=Fr.app aJ bm
   have KP:=KP.trans ah (allS (Or.inr af) all0)
   have j:=j.keep ah (ninS (Ne.symm I) nin0)
   have o:=o.keep ah
   refine o_k [_] ?_
   exact o_K 12 X92 b hret J (by exact ⟨q,bb,A,rfl,bq,KP,Or.inl ⟨_,_,⟨bn,bo,bp,j,o⟩,hw0,by rw[hu];exact hv⟩⟩)
  ·refine o_k [_,_,_] ?_
   have I:q≠bb:=Nat.ne_of_lt (Nat.lt_of_lt_of_le aH ag)
   refine o_e 21 10 O b ?_
   refine o_7 24 2 1 2 9 11 73 74 24 76 O b (o_aG l Z a0 hw [] q bb aI.heap n0 (Nat.le_trans Z0 KP.1) h aG G M N A (3:Int32) _ (Ne.symm I) j (by decide) (by decide)) o_aw rfl rfl fun _ cq cr br bt=> ?_
   obtain ⟨rfl,bu,ai,bv,bw,bx⟩:=bt
   have bz:=Fr.app aJ bu
   have KP:=KP.trans ai (allS (Or.inr af) all0)
   have j:=j.keep ai (ninS (Ne.symm I) nin0)
   have o:=o.keep ai
   refine o_k [_] ?_
   exact o_K 12 br b hret J (by exact ⟨q,bb,A,rfl,bz,KP,Or.inr ⟨_,_,_,⟨bv,bw,bx,j,o⟩,hw0,by rw[hu];exact hv⟩⟩)
 ·refine o_z 25 3 u b rfl (feq hb1).2 ?_
  refine o_c 26 13 u b ?_
  refine o_C 27 14 u b X t ?_
  refine o_O 28 15 #[_,_,_,_,_,_,_,_,_,_,_,_,_] u b ?_
  refine o_e 29 16 u b ?_
  refine o_g 30 17 1 u b ?_
  refine o_v 31 18 u b (z:=(3:Int32)) ?_
  obtain ⟨ct,aK,B,f,e94,aj,aL,aM,aN⟩:=newPE u hx hZ (o_b hw 52 rfl) X (g:=(mkF m 31 #[rv a,iv y,iv 1,iv 2,.unset,.unset,.unset,.unset,.unset,.unset,.unset,.unset,.unset] [(.int (3:Int32))])) rfl (D 19 rfl) rfl (by decide) (cap:=3) (by decide) (by decide) (by decide) (by decide) (ad:="[I") (by decide)
  obtain ⟨k,ak⟩: ∃z,z=h0.size:=⟨_,rfl⟩
  rw[←ak] at aL aM aN
  have P:h0.size≤k:=Nat.le_trans KP.1 (Nat.le_of_eq ak.symm)
  have C:n0≤k:=Nat.le_trans Z0 P
  have bA:a≠k:=Nat.ne_of_lt (Nat.lt_of_lt_of_le t.lt (Nat.le_of_eq ak.symm))
  have h:=h.ext aj
  have KP:=KP.ext aj
  have t:=t.ext aj
  have r:Exa Z aK k "[I":=aM
  have n:Arv Z aK k B .int (3:Int32) [(.int (0:Int32)),(.int (0:Int32)),(.int (0:Int32))] (.int (0:Int32)):=(Arv.new aL (by decide)).pad (pad_rep [] (.int (0:Int32)) 3)
  refine o_i (mkF m 33 #[rv a,iv y,iv 1,iv 2,.unset,.unset,.unset,.unset,.unset,.unset,.unset,.unset,.unset] [(.ref k)]) aN ?_
  refine o_1 35 20 #[_,_,_,_,_,_,_,_,_,_,_,_,_] f b ?_
  refine o_ac 36 21 0 f b ?_
  refine o_H 38 22 #[_,_,_,_,_,_,_,_,_,_,_,_,_] f b ?_
  refine o_e 39 23 f b ?_
  refine o_D 40 24 f b ?_
  refine o_y 43 53 25 f b ?_
  refine o_A 44 26 f b ?_
  refine o_H 46 27 #[_,_,_,_,_,_,_,_,_,_,_,_,_] f b ?_
  refine o_l 48 28 f b ?_
  refine o_C 49 29 f b e94 n ?_
  refine o_g 50 30 1 f b ?_
  refine o_J 51 31 f b (z:=(2:Int32)) ?_
  refine o_o 53 32 #[_,_,_,_,_,_,_,_,_,_,_,_,_] f b ?_
  refine o_e 54 33 f b ?_
  refine o_g 55 34 1 f b ?_
  refine o_J 56 35 f b (z:=(1:Int32)) ?_
  refine o_o 58 36 #[_,_,_,_,_,_,_,_,_,_,_,_,_] f b ?_
  refine o_d 60 37 f b ?_
  refine o_r 63 38 f b rfl ((if0 _ _).trans (flt (by decide: ¬((1:Int32)<(0:Int32)))).1) ?_
  refine o_c 64 39 f b ?_
  refine o_d 66 40 f b ?_
  refine o_Q 67 41 f b e94 t (x:=x1) ?_
  refine o_D 68 42 f b ?_
  refine o_y 71 53 43 f b ?_
  refine o_A 72 44 f b ?_
  refine o_j 74 45 f b ?_
  refine o_ah 75 46 f b ?_
  refine o_j 77 47 f b ?_
  refine o_4 78 48 f b ?_
  generalize bB:((((x1.toInt64)&&&(4294967295:Int64))*((y.toInt64)&&&(4294967295:Int64)))+(0:Int64))=pr1
  refine o_H 80 49 #[_,_,_,_,_,_,_,_,_,_,_,_,_] f b ?_
  refine o_l 82 50 f b ?_
  refine o_d 84 51 f b ?_
  refine o_G 87 52 #[_,_,_,_,_,_,_,_,_,iv 1,_,_,_] f b ?_
  refine o_j 89 53 f b ?_
  refine o_X 90 54 f b ?_
  refine o_8 91 2 55 f b e94 n fun cu bC i e95 Q bD=> ?_
  have bE:=Fr.snoc i aC C
  have h:=h.wr Q C
  have KP:=KP.wr Q (Or.inr P)
  have t:=t.other Q bA
  have r:=r.wr Q
  have n:Arv Z bC k B .int (3:Int32) [(.int (0:Int32)),(.int (0:Int32)),(.int (pr1.toInt32))] (.int (0:Int32)):=bD
  refine o_j 93 56 i b ?_
  refine o_B 95 57 32 i b ?_
  refine o_ak 96 58 i b ?_
  generalize bF:((pr1.toUInt64>>>((32:Int32)&&&0x3f).toInt64.toUInt64).toInt64)=bG
  refine o_H 98 59 #[_,_,_,_,_,_,_,_,_,_,_,_,_] i b ?_
  refine o_G 101 60 #[_,_,_,_,_,_,_,_,_,_,iv 0,_,_] i b ?_
  refine o_w 58 61 i b ?_
  refine o_d 60 37 i b ?_
  refine o_r 63 38 i b rfl ((if0 _ _).trans (flt (by decide: ¬((0:Int32)<(0:Int32)))).1) ?_
  refine o_c 64 39 i b ?_
  refine o_d 66 40 i b ?_
  refine o_Q 67 41 i b e95 t (x:=x0) ?_
  refine o_D 68 42 i b ?_
  refine o_y 71 53 43 i b ?_
  refine o_A 72 44 i b ?_
  refine o_j 74 45 i b ?_
  refine o_ah 75 46 i b ?_
  refine o_j 77 47 i b ?_
  refine o_4 78 48 i b ?_
  generalize bH:((((x0.toInt64)&&&(4294967295:Int64))*((y.toInt64)&&&(4294967295:Int64)))+bG)=w
  refine o_H 80 49 #[_,_,_,_,_,_,_,_,_,_,_,_,_] i b ?_
  refine o_l 82 50 i b ?_
  refine o_d 84 51 i b ?_
  refine o_G 87 52 #[_,_,_,_,_,_,_,_,_,iv 0,_,_,_] i b ?_
  refine o_j 89 53 i b ?_
  refine o_X 90 54 i b ?_
  refine o_8 91 1 55 i b e95 n fun T96 aO X96 al am bI=> ?_
  have aP:=Fr.snoc X96 bE C
  have h:=h.wr am C
  have KP:=KP.wr am (Or.inr P)
  have r:=r.wr am
  have n:Arv Z aO k B .int (3:Int32) [(.int (0:Int32)),(.int (w.toInt32)),(.int (pr1.toInt32))] (.int (0:Int32)):=bI
  refine o_j 93 56 X96 b ?_
  refine o_B 95 57 32 X96 b ?_
  refine o_ak 96 58 X96 b ?_
  generalize bJ:((w.toUInt64>>>((32:Int32)&&&0x3f).toInt64.toUInt64).toInt64)=E
  have MB:=o_g_ bB bF bH bJ
  refine o_H 98 59 #[_,_,_,_,_,_,_,_,_,_,_,_,_] X96 b ?_
  refine o_G 101 60 #[_,_,_,_,_,_,_,_,_,_,iv (-1:Int32),_,_] X96 b ?_
  refine o_w 58 61 X96 b ?_
  refine o_d 60 37 X96 b ?_
  refine o_p 104 38 X96 b rfl ((if0 _ _).trans (tlt (by decide:(-1:Int32)<(0:Int32))).1) ?_
  refine o_j 106 62 X96 b ?_
  refine o_ac 107 63 0 X96 b ?_
  refine o_3 108 64 X96 b ?_
  by_cases hc0:(lcmpW E (0:Int64))=(0:Int32)
  ·refine o_r 111 65 X96 b rfl ((if0 _ _).trans (teq hc0).2) ?_
   refine o_l 113 66 X96 b ?_
   refine o_g 114 67 1 X96 b ?_
   refine o_l 116 68 X96 b ?_
   refine o_C 117 69 X96 b al n ?_
   refine o_F 120 3 0 2 5 70 54 55 56 57 X96 b (o_mN l Z a0 hw [] k B (0:Int32) (w.toInt32) (pr1.toInt32) aO n0 (Nat.le_trans Z0 KP.1) h n) o_bf al fun _ bK cv ao bL=> ?_
   obtain ⟨bb,A,rfl,bM,aQ,bj,ag,j,o⟩:=bL
   have bN:=Fr.app aP bM
   have h:=h.keep aQ all0
   have KP:=KP.trans aQ all0
   refine o_k [_] ?_
   have CZ:=o_eu hc0 MB.2.1
   refine o_1 122 71 #[_,_,_,_,_,_,_,_,_,_,_,_,_] ao b ?_
   refine o_w 133 72 ao b ?_
   obtain ⟨cw,R,S,bO,T,aS,aq,-,aT⟩:=newO ao hx hZ K (o_b hw 71 rfl) (o_b hw 72 rfl) (o_b hw 24 rfl) rfl (g:=(mkF m 133 #[rv a,iv y,iv 1,iv 2,rv bb,.val (.long E),.second,.val (.long ((y.toInt64)&&&(4294967295:Int64))),.second,iv 0,iv (-1:Int32),.val (.long w),.second] [])) rfl (D 78 rfl) (by decide) (by decide)
   obtain ⟨b101,au⟩: ∃z,z=bK.heap.size:=⟨_,rfl⟩
   rw[←au] at aS aq aT
   have aU:h0.size≤b101:=Nat.le_trans KP.1 (Nat.le_of_eq au.symm)
   have bP:n0≤b101:=Nat.le_trans Z0 aU
   have aV:bb≠b101:=Nat.ne_of_lt (Nat.lt_of_lt_of_le j.lt (Nat.le_of_eq au.symm))
   have h:=h.ext T
   have KP:=KP.ext T
   have j:=j.ext T
   have o:=o.ext T
   have bQ:Exa Z R b101 "java/math/BigInteger":=aS
   have bR:Fld Z R b101 "java/math/BigInteger" "signum" "I" (.int (0:Int32)):=aq (Or.inr (o_b hw 39 rfl)) (ty:= .int) (by decide)
   have bS:Fld Z R b101 "java/math/BigInteger" "mag" "[I" .null:=aq (Or.inr (o_b hw 41 rfl)) (ty:=(.array .int)) (by decide)
   refine o_i (mkF m 136 #[rv a,iv y,iv 1,iv 2,rv bb,.val (.long E),.second,.val (.long ((y.toInt64)&&&(4294967295:Int64))),.second,iv 0,iv (-1:Int32),.val (.long w),.second] [(.ref b101)]) aT ?_
   refine o_ab 137 79 S b ?_
   refine o_l 139 80 S b ?_
   refine o_e 140 81 S b ?_
   refine o_7 143 2 1 3 11 82 73 74 24 76 S b (o_aG l Z a0 hw [] b101 bb R n0 (Nat.le_trans Z0 KP.1) h bP bQ bR bS A (2:Int32) _ aV j (by decide) (by decide)) o_aw bO rfl fun _ cx cy bT bU=> ?_
   obtain ⟨rfl,bV,av,bW,bX,bY⟩:=bU
   have bZ:=Fr.app bN bV
   have KP:=KP.trans av (allS (Or.inr aU) all0)
   have j:=j.keep av (ninS aV nin0)
   have o:=o.keep av
   refine o_k [_] ?_
   exact o_K 83 bT b hret J (by exact ⟨b101,bb,A,rfl,bZ,KP,Or.inl ⟨_,_,⟨bW,bX,bY,j,o⟩,o_hc hx0 hy MB CZ,o_hb MB CZ⟩⟩)
  ·refine o_p 125 65 X96 b rfl ((if0 _ _).trans (feq hc0).2) ?_
   refine o_l 127 73 X96 b ?_
   refine o_d 129 74 X96 b ?_
   refine o_j 131 75 X96 b ?_
   refine o_X 132 76 X96 b ?_
   refine o_8 133 0 77 X96 b al n fun cz aW aX e97 aw b0=> ?_
   have b5:=Fr.snoc aX aP C
   have h:=h.wr aw C
   have KP:=KP.wr aw (Or.inr P)
   have r:=r.wr aw
   have n:Arv Z aW k B .int (3:Int32) [(.int (E.toInt32)),(.int (w.toInt32)),(.int (pr1.toInt32))] (.int (0:Int32)):=b0
   obtain ⟨cA,U,V,e98,W,aY,ax,-,aZ⟩:=newO aX hx hZ K (o_b hw 71 rfl) (o_b hw 72 rfl) (o_b hw 24 rfl) e97 (g:=(mkF m 133 #[rv a,iv y,iv 1,iv 2,rv k,.val (.long E),.second,.val (.long ((y.toInt64)&&&(4294967295:Int64))),.second,iv 0,iv (-1:Int32),.val (.long w),.second] [])) rfl (D 78 rfl) (by decide) (by decide)
   obtain ⟨v,ay⟩: ∃z,z=aW.size:=⟨_,rfl⟩
   rw[←ay] at aY ax aZ
   have a5:h0.size≤v:=Nat.le_trans KP.1 (Nat.le_of_eq ay.symm)
   have b6:n0≤v:=Nat.le_trans Z0 a5
   have a6:k≠v:=Nat.ne_of_lt (Nat.lt_of_lt_of_le r.lt (Nat.le_of_eq ay.symm))
   have h:=h.ext W
   have KP:=KP.ext W
   have r:=r.ext W
   have n:=n.ext W
   have b7:Exa Z U v "java/math/BigInteger":=aY
   have b8:Fld Z U v "java/math/BigInteger" "signum" "I" (.int (0:Int32)):=ax (Or.inr (o_b hw 39 rfl)) (ty:= .int) (by decide)
   have b9:Fld Z U v "java/math/BigInteger" "mag" "[I" .null:=ax (Or.inr (o_b hw 41 rfl)) (ty:=(.array .int)) (by decide)
   refine o_i (mkF m 136 #[rv a,iv y,iv 1,iv 2,rv k,.val (.long E),.second,.val (.long ((y.toInt64)&&&(4294967295:Int64))),.second,iv 0,iv (-1:Int32),.val (.long w),.second] [(.ref v)]) aZ ?_
   refine o_ab 137 79 V b ?_
   refine o_l 139 80 V b ?_
   refine o_e 140 81 V b ?_
   refine o_7 143 2 1 2 9 82 73 74 24 76 V b (o_aG l Z a0 hw [] v k U n0 (Nat.le_trans Z0 KP.1) h b6 b7 b8 b9 B (3:Int32) _ a6 n (by decide) (by decide)) o_aw e98 rfl fun _ T99 cB X99 b_=> ?_
   obtain ⟨rfl,b',aA,ca,cb,cd⟩:=b_
   have ce:=Fr.app b5 b'
   have KP:=KP.trans aA (allS (Or.inr a5) all0)
   have r:=r.keep aA
   have n:=n.keep aA (ninS a6 nin0)
   refine o_k [_] ?_
   exact o_K 83 X99 b hret J (by exact ⟨v,k,B,rfl,ce,KP,Or.inr ⟨_,_,_,⟨ca,cb,cd,n,r⟩,o_et hc0 MB.2.1,MB.1⟩⟩)
def o_m8 (Z:State)(o1:Addr)(h0:Heap)(n0:Nat)(v:Option Value)(h:Heap)(L:List Loc):Prop:=v=some (.ref o1)∧Fr n0 L∧h=h0
theorem o_m9 (l:Launch)(Z:State)(a0:Array Value)(hw: ∀d∈tables_1,d.before a0 Z=true)(ws:List Jvm.Cond)(o1:Addr)(h0:Heap)(n0:Nat)(Z0:n0≤h0.size)(i:Old Z n0 h0):
  o_q l (⟨"java/util/Objects","requireNonNull","(Ljava/lang/Object;)Ljava/lang/Object;"⟩:MethodName) (Jvm.Cond.code (⟨"java/util/Objects","requireNonNull","(Ljava/lang/Object;)Ljava/lang/Object;"⟩:MethodName) jdk_31_method_10_code 1 (some (.object "java/lang/Object"))::ws) ({frames:=0,cells:=0,slots:=0,locals:=0}:Room) #[(.ref o1)] Z h0 (o_m8 Z o1 h0 n0):=by
 refine o_u (plainFor_of_name o_f5) (fun m=>o_lt m o1) fun p e s m j n c s₁ hx b f g (h:s.vm.findClass "java/util/Objects"=some m.cls) hnm hret X0 hZ e0=> ?_
 have D:=o_S b o_fx
 have a:=o_t hx b o_fx h hZ g hw
 have N0:=Fr.nil n0
 refine o_c 1 0 X0 a ?_
 refine o_i (T':=s₁) (mkF m 12 #[rv o1] []) (fun _ k=>XS.ifnonnullYes X0.here hx rfl (pc0:=1) (pc':=12) rfl (D 1 rfl) rfl (by decide) (by decide) k) ?_
 refine o_c 13 6 X0 a ?_
 exact o_K 7 X0 a hret f (by rw[e0];exact ⟨rfl,N0,rfl⟩)
def o_m_ (Z:State)(a:Addr)(h0:Heap)(n0:Nat)(v:Option Value)(h:Heap)(L:List Loc):Prop:=v=none∧Fr n0 L∧h=h0
theorem o_ga (l:Launch)(Z:State)(a0:Array Value)(hw: ∀d∈tables_1,d.before a0 Z=true)(ws:List Jvm.Cond)(a:Addr)(h0:Heap)(n0:Nat)(Z0:n0≤h0.size)(f:Old Z n0 h0)(ka:ClassId)(vs:List Value)(g:Arv Z h0 a ka .int (2:Int32) vs (.int (0:Int32))):
  o_q l (⟨"java/math/BigInteger","multiplyToLenCheck","([II)V"⟩:MethodName) (Jvm.Cond.code (⟨"java/math/BigInteger","multiplyToLenCheck","([II)V"⟩:MethodName) jdk_2097_method_47_code 2 none::ws) ({frames:=1,cells:=0,slots:=0,locals:=14}:Room) #[(.ref a),(.int (2:Int32))] Z h0 (o_m_ Z a h0 n0):=by
 refine o_u (plainFor_of_name o_Y) (fun m=>o_lu m a (2:Int32)) fun p e s m r t c s₁ hx h i j (k:s.vm.findClass "java/math/BigInteger"=some m.cls) hnm hret X0 hZ e0=> ?_
 have b:=o_t hx h o_jB k hZ j hw
 have N0:=Fr.nil n0
 have KP:Keep h0 h0 []:=Keep.refl _ _
 refine o_e 1 0 X0 b ?_
 refine o_p 5 1 X0 b rfl ((if0 _ _).trans (tlt (by decide:(0:Int32)<(2:Int32))).2.2.1) ?_
 refine o_c 6 3 X0 b ?_
 refine o_F 9 1 0 0 0 4 252 253 234 254 X0 b (o_m9 l Z a0 hw [] a h0 n0 (Nat.le_trans Z0 KP.1) f) o_kU e0 fun _ T103 u X103 n=> ?_
 obtain ⟨rfl,o,e103⟩:=n
 have q:=Fr.app N0 o
 refine o_k [_] ?_
 refine o_bk 10 5 X103 b ?_
 refine o_e 11 6 X103 b ?_
 refine o_c 12 7 X103 b ?_
 refine o_C 13 8 X103 b e103 g ?_
 refine o_z 27 9 X103 b rfl (flt (by decide: ¬((2:Int32)<(2:Int32)))).2.2.2 ?_
 exact o_al 17 X103 b hret i (by rw[e103];exact ⟨rfl,q,rfl⟩)
def o_m' (Z:State)(a:Addr)(ka:ClassId)(x0 x1:Int32)(cc:Addr)(kc:ClassId)(y0 y1:Int32)(h0:Heap)(n0:Nat)(v:Option Value)(h:Heap)(L:List Loc):Prop:= ∃(b:Addr) (kb:ClassId) (z0 z1 z2 z3:Int32),v=some (.ref b)∧Fr n0 L∧Keep h0 h []∧n0≤b∧h0.size≤b∧Arv Z h b kb .int (4:Int32) [(.int z0),(.int z1),(.int z2),(.int z3)] (.int (0:Int32))∧(o_a x0*4294967296+o_a x1)*(o_a y0*4294967296+o_a y1)=((o_a z0*4294967296+o_a z1)*4294967296+o_a z2)*4294967296+o_a z3∧(z0=0→ ¬z1=0)∧Exa Z h b "[I"
theorem o_na (l:Launch)(Z:State)(a0:Array Value)(hw: ∀d∈tables_1,d.before a0 Z=true)(ws:List Jvm.Cond)(a:Addr)(ka:ClassId)(x0 x1:Int32)(cc:Addr)(kc:ClassId)(y0 y1:Int32)(h0:Heap)(n0:Nat)(Z0:n0≤h0.size)(OL:Old Z n0 h0)(n:Arv Z h0 a ka .int (2:Int32) [(.int x0),(.int x1)] (.int (0:Int32)))(o:Arv Z h0 cc kc .int (2:Int32) [(.int y0),(.int y1)] (.int (0:Int32)))(hx0: ¬x0=0)(hy0: ¬y0=0):
  o_q l (⟨"java/math/BigInteger","implMultiplyToLen","([II[II[I)[I"⟩:MethodName) (Jvm.Cond.code (⟨"java/math/BigInteger","implMultiplyToLen","([II[II[I)[I"⟩:MethodName) jdk_2097_method_46_code 14 (some (.array .int))::ws) ({frames:=0,cells:=1,slots:=4,locals:=0}:Room) #[(.ref a),(.int (2:Int32)),(.ref cc),(.int (2:Int32)),.null] Z h0 (o_m' Z a ka x0 x1 cc kc y0 y1 h0 n0):=by
 refine o_u (plainFor_of_name o_Y) (fun m=>o_lv m a (2:Int32) cc (2:Int32)) fun p e s m aP aQ c s₁ hx S ae af (ag:s.vm.findClass "java/math/BigInteger"=some m.cls) hnm hret X0 hZ e0=> ?_
 have D:=o_S S o_fy
 have b:=o_t hx S o_fy ag hZ af hw
 have N0:=Fr.nil n0
 have KP:Keep h0 h0 []:=Keep.refl _ _
 refine o_e 1 0 X0 b ?_
 refine o_g 2 1 1 X0 b ?_
 refine o_J 3 2 X0 b (z:=(1:Int32)) ?_
 refine o_o 5 3 #[_,_,_,_,_,_,_,_,_,_,_,_,_,_] X0 b ?_
 refine o_e 6 4 X0 b ?_
 refine o_g 7 5 1 X0 b ?_
 refine o_J 8 6 X0 b (z:=(1:Int32)) ?_
 refine o_o 10 7 #[_,_,_,_,_,_,_,_,_,_,_,_,_,_] X0 b ?_
 refine o_l 12 8 X0 b ?_
 refine o_i (T':=s₁) (mkF m 24 #[rv a,iv 2,rv cc,iv 2,.val .null,iv 1,iv 1,.unset,.unset,.unset,.unset,.unset,.unset,.unset] []) (fun _ k=>XS.ifnullYes X0.here hx rfl (pc0:=12) (pc':=24) rfl (D 9 rfl) rfl (by decide) (by decide) k) ?_
 refine o_e 25 16 X0 b ?_
 refine o_e 26 17 X0 b ?_
 refine o_v 27 18 X0 b (z:=(4:Int32)) ?_
 obtain ⟨aR,T,w,i,e104,P,U,V,W⟩:=newPE X0 hx hZ (o_b hw 52 rfl) e0 (g:=(mkF m 27 #[rv a,iv 2,rv cc,iv 2,.val .null,iv 1,iv 1,.unset,.unset,.unset,.unset,.unset,.unset,.unset] [(.int (4:Int32))])) rfl (D 19 rfl) rfl (by decide) (cap:=4) (by decide) (by decide) (by decide) (by decide) (ad:="[I") (by decide)
 obtain ⟨u,F⟩: ∃z,z=h0.size:=⟨_,rfl⟩
 rw[←F] at U V W
 have y:h0.size≤u:=Nat.le_trans KP.1 (Nat.le_of_eq F.symm)
 have A:n0≤u:=Nat.le_trans Z0 y
 have G:a≠u:=Nat.ne_of_lt (Nat.lt_of_lt_of_le n.lt (Nat.le_of_eq F.symm))
 have H:cc≠u:=Nat.ne_of_lt (Nat.lt_of_lt_of_le o.lt (Nat.le_of_eq F.symm))
 have KP:=KP.ext P
 have n:=n.ext P
 have o:=o.ext P
 have v:Exa Z T u "[I":=V
 have q:Arv Z T u w .int (4:Int32) [(.int (0:Int32)),(.int (0:Int32)),(.int (0:Int32)),(.int (0:Int32))] (.int (0:Int32)):=(Arv.new U (by decide)).pad (pad_rep [] (.int (0:Int32)) 4)
 refine o_i (mkF m 29 #[rv a,iv 2,rv cc,iv 2,.val .null,iv 1,iv 1,.unset,.unset,.unset,.unset,.unset,.unset,.unset] [(.ref u)]) W ?_
 refine o_1 31 20 #[_,_,_,_,_,_,_,_,_,_,_,_,_,_] i b ?_
 refine o_ac 32 21 0 i b ?_
 refine o_H 34 22 #[_,_,_,_,_,_,_,_,_,_,_,_,_,_] i b ?_
 refine o_d 36 23 i b ?_
 refine o_o 38 24 #[_,_,_,_,_,_,_,_,_,_,_,_,_,_] i b ?_
 refine o_d 40 25 i b ?_
 refine o_g 41 26 1 i b ?_
 refine o_v 42 27 i b (z:=(2:Int32)) ?_
 refine o_d 44 28 i b ?_
 refine o_v 45 29 i b (z:=(3:Int32)) ?_
 refine o_o 47 30 #[_,_,_,_,_,_,_,_,_,_,_,_,_,_] i b ?_
 refine o_d 49 31 i b ?_
 refine o_r 52 32 i b rfl ((if0 _ _).trans (flt (by decide: ¬((1:Int32)<(0:Int32)))).1) ?_
 refine o_c 53 33 i b ?_
 refine o_d 55 34 i b ?_
 refine o_Q 56 35 i b e104 o (x:=y1) ?_
 refine o_D 57 36 i b ?_
 refine o_y 60 53 37 i b ?_
 refine o_A 61 38 i b ?_
 refine o_c 62 39 i b ?_
 refine o_d 64 40 i b ?_
 refine o_Q 65 41 i b e104 n (x:=x1) ?_
 refine o_D 66 42 i b ?_
 refine o_y 69 53 43 i b ?_
 refine o_A 70 44 i b ?_
 refine o_ah 71 45 i b ?_
 refine o_j 73 46 i b ?_
 refine o_4 74 47 i b ?_
 generalize ah:((((y1.toInt64)&&&(4294967295:Int64))*((x1.toInt64)&&&(4294967295:Int64)))+(0:Int64))=B
 refine o_H 76 48 #[_,_,_,_,_,_,_,_,_,_,_,_,_,_] i b ?_
 refine o_l 78 49 i b ?_
 refine o_d 80 50 i b ?_
 refine o_j 82 51 i b ?_
 refine o_X 83 52 i b ?_
 refine o_8 84 3 53 i b e104 q fun aS h105 j Q I ai=> ?_
 have aj:=Fr.snoc j N0 A
 have KP:=KP.wr I (Or.inr y)
 have n:=n.other I G
 have o:=o.other I H
 have v:=v.wr I
 have q:Arv Z h105 u w .int (4:Int32) [(.int (0:Int32)),(.int (0:Int32)),(.int (0:Int32)),(.int (B.toInt32))] (.int (0:Int32)):=ai
 refine o_j 86 54 j b ?_
 refine o_B 88 55 32 j b ?_
 refine o_ak 89 56 j b ?_
 generalize ak:((B.toUInt64>>>((32:Int32)&&&0x3f).toInt64.toUInt64).toInt64)=al
 refine o_H 91 57 #[_,_,_,_,_,_,_,_,_,_,_,_,_,_] j b ?_
 refine o_G 94 58 #[_,_,_,_,_,_,_,_,_,iv 0,_,_,_,_] j b ?_
 refine o_G 97 59 #[_,_,_,_,_,_,_,_,_,_,iv 2,_,_,_] j b ?_
 refine o_w 47 60 j b ?_
 refine o_d 49 31 j b ?_
 refine o_r 52 32 j b rfl ((if0 _ _).trans (flt (by decide: ¬((0:Int32)<(0:Int32)))).1) ?_
 refine o_c 53 33 j b ?_
 refine o_d 55 34 j b ?_
 refine o_Q 56 35 j b Q o (x:=y0) ?_
 refine o_D 57 36 j b ?_
 refine o_y 60 53 37 j b ?_
 refine o_A 61 38 j b ?_
 refine o_c 62 39 j b ?_
 refine o_d 64 40 j b ?_
 refine o_Q 65 41 j b Q n (x:=x1) ?_
 refine o_D 66 42 j b ?_
 refine o_y 69 53 43 j b ?_
 refine o_A 70 44 j b ?_
 refine o_ah 71 45 j b ?_
 refine o_j 73 46 j b ?_
 refine o_4 74 47 j b ?_
 generalize am:((((y0.toInt64)&&&(4294967295:Int64))*((x1.toInt64)&&&(4294967295:Int64)))+al)=E
 refine o_H 76 48 #[_,_,_,_,_,_,_,_,_,_,_,_,_,_] j b ?_
 refine o_l 78 49 j b ?_
 refine o_d 80 50 j b ?_
 refine o_j 82 51 j b ?_
 refine o_X 83 52 j b ?_
 refine o_8 84 2 53 j b Q q fun aT ao r aq J au=> ?_
 have av:=Fr.snoc r aj A
 have KP:=KP.wr J (Or.inr y)
 have n:=n.other J G
 have o:=o.other J H
 have v:=v.wr J
 have q:Arv Z ao u w .int (4:Int32) [(.int (0:Int32)),(.int (0:Int32)),(.int (E.toInt32)),(.int (B.toInt32))] (.int (0:Int32)):=au
 refine o_j 86 54 r b ?_
 refine o_B 88 55 32 r b ?_
 refine o_ak 89 56 r b ?_
 generalize aw:((E.toUInt64>>>((32:Int32)&&&0x3f).toInt64.toUInt64).toInt64)=K
 refine o_H 91 57 #[_,_,_,_,_,_,_,_,_,_,_,_,_,_] r b ?_
 refine o_G 94 58 #[_,_,_,_,_,_,_,_,_,iv (-1:Int32),_,_,_,_] r b ?_
 refine o_G 97 59 #[_,_,_,_,_,_,_,_,_,_,iv 1,_,_,_] r b ?_
 refine o_w 47 60 r b ?_
 refine o_d 49 31 r b ?_
 refine o_p 100 32 r b rfl ((if0 _ _).trans (tlt (by decide:(-1:Int32)<(0:Int32))).1) ?_
 refine o_l 102 61 r b ?_
 refine o_d 104 62 r b ?_
 refine o_j 106 63 r b ?_
 refine o_X 107 64 r b ?_
 refine o_8 108 1 65 r b aq q fun aU ax f e107 L ay=> ?_
 have aA:=Fr.snoc f av A
 have KP:=KP.wr L (Or.inr y)
 have n:=n.other L G
 have o:=o.other L H
 have v:=v.wr L
 have q:Arv Z ax u w .int (4:Int32) [(.int (0:Int32)),(.int (K.toInt32)),(.int (E.toInt32)),(.int (B.toInt32))] (.int (0:Int32)):=ay
 refine o_d 110 66 f b ?_
 refine o_g 111 67 1 f b ?_
 refine o_J 112 68 f b (z:=(0:Int32)) ?_
 refine o_o 114 69 #[_,_,_,_,_,_,_,_,_,_,_,_,_,_] f b ?_
 refine o_d 116 70 f b ?_
 refine o_r 119 71 f b rfl ((if0 _ _).trans (flt (by decide: ¬((0:Int32)<(0:Int32)))).1) ?_
 refine o_ac 120 72 0 f b ?_
 refine o_H 122 73 #[_,_,_,_,_,_,_,_,_,_,_,_,_,_] f b ?_
 refine o_d 124 74 f b ?_
 refine o_o 126 75 #[_,_,_,_,_,_,_,_,_,_,_,_,_,_] f b ?_
 refine o_d 128 76 f b ?_
 refine o_g 129 77 1 f b ?_
 refine o_v 130 78 f b (z:=(2:Int32)) ?_
 refine o_d 132 79 f b ?_
 refine o_v 133 80 f b (z:=(2:Int32)) ?_
 refine o_o 135 81 #[_,_,_,_,_,_,_,_,_,_,_,_,_,_] f b ?_
 refine o_d 137 82 f b ?_
 refine o_r 140 83 f b rfl ((if0 _ _).trans (flt (by decide: ¬((1:Int32)<(0:Int32)))).1) ?_
 refine o_c 141 84 f b ?_
 refine o_d 143 85 f b ?_
 refine o_Q 144 86 f b e107 o (x:=y1) ?_
 refine o_D 145 87 f b ?_
 refine o_y 148 53 88 f b ?_
 refine o_A 149 89 f b ?_
 refine o_c 150 90 f b ?_
 refine o_d 152 91 f b ?_
 refine o_Q 153 92 f b e107 n (x:=x0) ?_
 refine o_D 154 93 f b ?_
 refine o_y 157 53 94 f b ?_
 refine o_A 158 95 f b ?_
 refine o_ah 159 96 f b ?_
 refine o_l 161 97 f b ?_
 refine o_d 163 98 f b ?_
 refine o_Q 164 99 f b e107 q (x:=(E.toInt32)) ?_
 refine o_D 165 100 f b ?_
 refine o_y 168 53 101 f b ?_
 refine o_A 169 102 f b ?_
 refine o_4 170 103 f b ?_
 refine o_j 172 104 f b ?_
 refine o_4 173 105 f b ?_
 generalize aB:(((((y1.toInt64)&&&(4294967295:Int64))*((x0.toInt64)&&&(4294967295:Int64)))+(((E.toInt32).toInt64)&&&(4294967295:Int64)))+(0:Int64))=M
 refine o_H 175 106 #[_,_,_,_,_,_,_,_,_,_,_,_,_,_] f b ?_
 refine o_l 177 107 f b ?_
 refine o_d 179 108 f b ?_
 refine o_j 181 109 f b ?_
 refine o_X 182 110 f b ?_
 refine o_8 183 2 111 f b e107 q fun aV h108 h N O aC=> ?_
 have aD:=Fr.snoc h aA A
 have KP:=KP.wr O (Or.inr y)
 have n:=n.other O G
 have o:=o.other O H
 have v:=v.wr O
 have q:Arv Z h108 u w .int (4:Int32) [(.int (0:Int32)),(.int (K.toInt32)),(.int (M.toInt32)),(.int (B.toInt32))] (.int (0:Int32)):=aC
 refine o_j 185 112 h b ?_
 refine o_B 187 113 32 h b ?_
 refine o_ak 188 114 h b ?_
 generalize aE:((M.toUInt64>>>((32:Int32)&&&0x3f).toInt64.toUInt64).toInt64)=cb1
 refine o_H 190 115 #[_,_,_,_,_,_,_,_,_,_,_,_,_,_] h b ?_
 refine o_G 193 116 #[_,_,_,_,_,_,_,_,_,_,iv 0,_,_,_] h b ?_
 refine o_G 196 117 #[_,_,_,_,_,_,_,_,_,_,_,iv 1,_,_] h b ?_
 refine o_w 135 118 h b ?_
 refine o_d 137 82 h b ?_
 refine o_r 140 83 h b rfl ((if0 _ _).trans (flt (by decide: ¬((0:Int32)<(0:Int32)))).1) ?_
 refine o_c 141 84 h b ?_
 refine o_d 143 85 h b ?_
 refine o_Q 144 86 h b N o (x:=y0) ?_
 refine o_D 145 87 h b ?_
 refine o_y 148 53 88 h b ?_
 refine o_A 149 89 h b ?_
 refine o_c 150 90 h b ?_
 refine o_d 152 91 h b ?_
 refine o_Q 153 92 h b N n (x:=x0) ?_
 refine o_D 154 93 h b ?_
 refine o_y 157 53 94 h b ?_
 refine o_A 158 95 h b ?_
 refine o_ah 159 96 h b ?_
 refine o_l 161 97 h b ?_
 refine o_d 163 98 h b ?_
 refine o_Q 164 99 h b N q (x:=(K.toInt32)) ?_
 refine o_D 165 100 h b ?_
 refine o_y 168 53 101 h b ?_
 refine o_A 169 102 h b ?_
 refine o_4 170 103 h b ?_
 refine o_j 172 104 h b ?_
 refine o_4 173 105 h b ?_
 generalize aF:(((((y0.toInt64)&&&(4294967295:Int64))*((x0.toInt64)&&&(4294967295:Int64)))+(((K.toInt32).toInt64)&&&(4294967295:Int64)))+cb1)=R
 refine o_H 175 106 #[_,_,_,_,_,_,_,_,_,_,_,_,_,_] h b ?_
 refine o_l 177 107 h b ?_
 refine o_d 179 108 h b ?_
 refine o_j 181 109 h b ?_
 refine o_X 182 110 h b ?_
 refine o_8 183 1 111 h b N q fun aW aG t e109 X aH=> ?_
 have aI:=Fr.snoc t aD A
 have KP:=KP.wr X (Or.inr y)
 have v:=v.wr X
 have q:Arv Z aG u w .int (4:Int32) [(.int (0:Int32)),(.int (R.toInt32)),(.int (M.toInt32)),(.int (B.toInt32))] (.int (0:Int32)):=aH
 refine o_j 185 112 t b ?_
 refine o_B 187 113 32 t b ?_
 refine o_ak 188 114 t b ?_
 generalize aJ:((R.toUInt64>>>((32:Int32)&&&0x3f).toInt64.toUInt64).toInt64)=aK
 refine o_H 190 115 #[_,_,_,_,_,_,_,_,_,_,_,_,_,_] t b ?_
 refine o_G 193 116 #[_,_,_,_,_,_,_,_,_,_,iv (-1:Int32),_,_,_] t b ?_
 refine o_G 196 117 #[_,_,_,_,_,_,_,_,_,_,_,iv 0,_,_] t b ?_
 refine o_w 135 118 t b ?_
 refine o_d 137 82 t b ?_
 refine o_p 199 83 t b rfl ((if0 _ _).trans (tlt (by decide:(-1:Int32)<(0:Int32))).1) ?_
 refine o_l 201 119 t b ?_
 refine o_d 203 120 t b ?_
 refine o_j 205 121 t b ?_
 refine o_X 206 122 t b ?_
 refine o_8 207 0 123 t b e109 q fun aX h110 C aL Y aM=> ?_
 have aN:=Fr.snoc C aI A
 have KP:=KP.wr Y (Or.inr y)
 have v:=v.wr Y
 have q:Arv Z h110 u w .int (4:Int32) [(.int (aK.toInt32)),(.int (R.toInt32)),(.int (M.toInt32)),(.int (B.toInt32))] (.int (0:Int32)):=aM
 refine o_G 210 124 #[_,_,_,_,_,_,_,_,_,iv (-1:Int32),_,_,_,_] C b ?_
 refine o_w 114 125 C b ?_
 refine o_d 116 70 C b ?_
 refine o_p 213 71 C b rfl ((if0 _ _).trans (tlt (by decide:(-1:Int32)<(0:Int32))).1) ?_
 refine o_l 215 126 C b ?_
 have MT:=o_hd ah ak am aw aB aE aF aJ hx0 hy0
 exact o_K 127 C b hret ae (by rw[aL];exact ⟨u,w,_,_,_,_,rfl,aN,KP,A,y,q,MT.1,MT.2,v⟩)
def o_nb (Z:State)(a:Addr)(ka:ClassId)(x0 x1:Int32)(cc:Addr)(kc:ClassId)(y0 y1:Int32)(h0:Heap)(n0:Nat)(v:Option Value)(h:Heap)(L:List Loc):Prop:= ∃(b:Addr) (kb:ClassId) (z0 z1 z2 z3:Int32),v=some (.ref b)∧Fr n0 L∧Keep h0 h []∧n0≤b∧h0.size≤b∧Arv Z h b kb .int (4:Int32) [(.int z0),(.int z1),(.int z2),(.int z3)] (.int (0:Int32))∧(o_a x0*4294967296+o_a x1)*(o_a y0*4294967296+o_a y1)=((o_a z0*4294967296+o_a z1)*4294967296+o_a z2)*4294967296+o_a z3∧(z0=0→ ¬z1=0)∧Exa Z h b "[I"
theorem o_nc (l:Launch)(Z:State)(a0:Array Value)(hw: ∀d∈tables_1,d.before a0 Z=true)(ws:List Jvm.Cond)(a:Addr)(ka:ClassId)(x0 x1:Int32)(cc:Addr)(kc:ClassId)(y0 y1:Int32)(h0:Heap)(n0:Nat)(Z0:n0≤h0.size)(f:Old Z n0 h0)(h:Arv Z h0 a ka .int (2:Int32) [(.int x0),(.int x1)] (.int (0:Int32)))(i:Arv Z h0 cc kc .int (2:Int32) [(.int y0),(.int y1)] (.int (0:Int32)))(hx0: ¬x0=0)(hy0: ¬y0=0):
  o_q l (⟨"java/math/BigInteger","multiplyToLen","([II[II[I)[I"⟩:MethodName) (Jvm.Cond.code (⟨"java/math/BigInteger","multiplyToLen","([II[II[I)[I"⟩:MethodName) jdk_2097_method_45_code 5 (some (.array .int))::ws) ({frames:=2,cells:=1,slots:=4,locals:=30}:Room) #[(.ref a),(.int (2:Int32)),(.ref cc),(.int (2:Int32)),.null] Z h0 (o_nb Z a ka x0 x1 cc kc y0 y1 h0 n0):=by
 refine o_u (plainFor_of_name o_Y) (fun m=>o_lw m a (2:Int32) cc (2:Int32)) fun p e s m I J c s₁ hx j k n (o:s.vm.findClass "java/math/BigInteger"=some m.cls) hnm hret X0 hZ e0=> ?_
 have b:=o_t hx j o_jH o hZ n hw
 have N0:=Fr.nil n0
 have KP:Keep h0 h0 []:=Keep.refl _ _
 refine o_c 1 0 X0 b ?_
 refine o_e 2 1 X0 b ?_
 refine o_F 5 2 0 0 0 2 249 250 24 251 X0 b (o_ga l Z a0 hw [] a h0 n0 (Nat.le_trans Z0 KP.1) f ka _ h) o_aw e0 fun _ K L g q=> ?_
 obtain ⟨rfl,r,e111⟩:=q
 have t:=Fr.app N0 r
 refine o_k [] ?_
 refine o_c 6 3 g b ?_
 refine o_e 7 4 g b ?_
 refine o_F 10 2 0 0 0 5 249 250 24 251 g b (o_ga l Z a0 hw [] cc h0 n0 (Nat.le_trans Z0 KP.1) f kc _ i) o_aw e111 fun _ T112 M X112 u=> ?_
 obtain ⟨rfl,v,e112⟩:=u
 have w:=Fr.app t v
 refine o_k [] ?_
 refine o_c 11 6 X112 b ?_
 refine o_e 12 7 X112 b ?_
 refine o_c 13 8 X112 b ?_
 refine o_e 14 9 X112 b ?_
 refine o_l 16 10 X112 b ?_
 have x:=KP
 refine o_F 19 5 0 1 4 11 255 256 24 257 X112 b (o_na l Z a0 hw [] a ka x0 x1 cc kc y0 y1 h0 n0 (Nat.le_trans Z0 KP.1) f h i hx0 hy0) o_fT e112 fun _ N O y z=> ?_
 obtain ⟨bb,A,z0,z1,z2,z3,rfl,B,C,D,E,F⟩:=z
 have G:=Fr.app w B
 have KP:=KP.trans C all0
 refine o_k [_] ?_
 have H:h0.size≤bb:=Nat.le_trans x.1 E
 exact o_K 12 y b hret k (by exact ⟨bb,A,z0,z1,z2,z3,rfl,G,KP,D,H,F⟩)
def o_nd (Z:State)(a:Addr)(ka:ClassId)(z0 z1 z2 z3:Int32)(h0:Heap)(n0:Nat)(v:Option Value)(h:Heap)(L:List Loc):Prop:=v=some (.ref a)∧Fr n0 L∧h=h0
theorem o_ne (l:Launch)(Z:State)(a0:Array Value)(hw: ∀d∈tables_1,d.before a0 Z=true)(ws:List Jvm.Cond)(a:Addr)(ka:ClassId)(z0 z1 z2 z3:Int32)(h0:Heap)(n0:Nat)(Z0:n0≤h0.size)(k:Old Z n0 h0)(f:Arv Z h0 a ka .int (4:Int32) [(.int z0),(.int z1),(.int z2),(.int z3)] (.int (0:Int32)))(hz0: ¬z0=0):
  o_q l (⟨"java/math/BigInteger","trustedStripLeadingZeroInts","([I)[I"⟩:MethodName) (Jvm.Cond.code (⟨"java/math/BigInteger","trustedStripLeadingZeroInts","([I)[I"⟩:MethodName) jdk_2097_method_140_code 3 (some (.array .int))::ws) ({frames:=0,cells:=0,slots:=0,locals:=0}:Room) #[(.ref a)] Z h0 (o_nd Z a ka z0 z1 z2 z3 h0 n0):=by
 refine o_u (plainFor_of_name o_Y) (fun m=>o_lx m a) fun p e s m n o c s₁ hx g h i (j:s.vm.findClass "java/math/BigInteger"=some m.cls) hnm hret X0 hZ e0=> ?_
 have b:=o_t hx g o_fz j hZ i hw
 have N0:=Fr.nil n0
 refine o_c 1 0 X0 b ?_
 refine o_C 2 1 X0 b e0 f ?_
 refine o_O 3 2 #[_,_,_] X0 b ?_
 refine o_g 4 3 0 X0 b ?_
 refine o_O 5 4 #[_,_,_] X0 b ?_
 refine o_e 6 5 X0 b ?_
 refine o_e 7 6 X0 b ?_
 refine o_E 10 7 X0 b rfl (tlt (by decide:(0:Int32)<(4:Int32))).2.1 ?_
 refine o_c 11 8 X0 b ?_
 refine o_e 12 9 X0 b ?_
 refine o_Q 13 10 X0 b e0 f (x:=z0) ?_
 refine o_p 22 11 X0 b rfl ((if0 _ _).trans (feq hz0).2) ?_
 refine o_e 23 14 X0 b ?_
 refine o_r 26 15 X0 b rfl ((if0 _ _).trans (teq (by decide:(0:Int32)=(0:Int32))).2) ?_
 refine o_c 27 16 X0 b ?_
 refine o_w 36 17 X0 b ?_
 exact o_K 22 X0 b hret h (by rw[e0];exact ⟨rfl,N0,rfl⟩)
def o_nf (Z:State)(a:Addr)(ka:ClassId)(z0 z1 z2 z3:Int32)(h0:Heap)(n0:Nat)(v:Option Value)(h:Heap)(L:List Loc):Prop:= ∃(b:Addr) (kb:ClassId),v=some (.ref b)∧Fr n0 L∧Keep h0 h []∧n0≤b∧h0.size≤b∧Arv Z h b kb .int (3:Int32) [(.int z1),(.int z2),(.int z3)] (.int (0:Int32))∧Exa Z h b "[I"
theorem o_ng (l:Launch)(Z:State)(a0:Array Value)(hw: ∀d∈tables_1,d.before a0 Z=true)(ws:List Jvm.Cond)(a:Addr)(ka:ClassId)(z0 z1 z2 z3:Int32)(h0:Heap)(n0:Nat)(Z0:n0≤h0.size)(g:Old Z n0 h0)(f:Arv Z h0 a ka .int (4:Int32) [(.int z0),(.int z1),(.int z2),(.int z3)] (.int (0:Int32)))(hz0:z0=0)(hz1: ¬z1=0):
  o_q l (⟨"java/math/BigInteger","trustedStripLeadingZeroInts","([I)[I"⟩:MethodName) (Jvm.Cond.code (⟨"java/math/BigInteger","trustedStripLeadingZeroInts","([I)[I"⟩:MethodName) jdk_2097_method_140_code 3 (some (.array .int))::ws) ({frames:=3,cells:=1,slots:=3,locals:=80}:Room) #[(.ref a)] Z h0 (o_nf Z a ka z0 z1 z2 z3 h0 n0):=by
 refine o_u (plainFor_of_name o_Y) (fun m=>o_ly m a) fun p e s m B C c s₁ hx h i j (k:s.vm.findClass "java/math/BigInteger"=some m.cls) hnm hret X0 hZ e0=> ?_
 have b:=o_t hx h o_fz k hZ j hw
 have N0:=Fr.nil n0
 have KP:Keep h0 h0 []:=Keep.refl _ _
 refine o_c 1 0 X0 b ?_
 refine o_C 2 1 X0 b e0 f ?_
 refine o_O 3 2 #[_,_,_] X0 b ?_
 refine o_g 4 3 0 X0 b ?_
 refine o_O 5 4 #[_,_,_] X0 b ?_
 refine o_e 6 5 X0 b ?_
 refine o_e 7 6 X0 b ?_
 refine o_E 10 7 X0 b rfl (tlt (by decide:(0:Int32)<(4:Int32))).2.1 ?_
 refine o_c 11 8 X0 b ?_
 refine o_e 12 9 X0 b ?_
 refine o_Q 13 10 X0 b e0 f (x:=z0) ?_
 refine o_r 16 11 X0 b rfl ((if0 _ _).trans (teq hz0).2) ?_
 refine o_G 19 12 #[_,_,iv 1] X0 b ?_
 refine o_w 5 13 X0 b ?_
 refine o_e 6 5 X0 b ?_
 refine o_e 7 6 X0 b ?_
 refine o_E 10 7 X0 b rfl (tlt (by decide:(1:Int32)<(4:Int32))).2.1 ?_
 refine o_c 11 8 X0 b ?_
 refine o_e 12 9 X0 b ?_
 refine o_Q 13 10 X0 b e0 f (x:=z1) ?_
 refine o_p 22 11 X0 b rfl ((if0 _ _).trans (feq hz1).2) ?_
 refine o_e 23 14 X0 b ?_
 refine o_p 30 15 X0 b rfl ((if0 _ _).trans (feq (by decide: ¬((1:Int32)=(0:Int32)))).2) ?_
 refine o_c 31 18 X0 b ?_
 refine o_e 32 19 X0 b ?_
 refine o_e 33 20 X0 b ?_
 have n:=KP
 refine o_F 36 3 0 1 3 21 54 55 56 57 X0 b (o_mR l Z a0 hw [] a ka z0 z1 z2 z3 h0 n0 (Nat.le_trans Z0 KP.1) g f) o_bf e0 fun _ D E o q=> ?_
 obtain ⟨bb,r,rfl,t,u,v,w,y⟩:=q
 have z:=Fr.app N0 t
 have KP:=KP.trans u all0
 refine o_k [_] ?_
 have A:h0.size≤bb:=Nat.le_trans n.1 w
 exact o_K 22 o b hret i (by exact ⟨bb,r,rfl,z,KP,v,A,y⟩)
theorem o_nh (l:Launch)(Z:State)(a0:Array Value)(hw: ∀d∈tables_1,d.before a0 Z=true)(ws:List Jvm.Cond)(cx ca:Addr)(kc:ClassId)(c0:Int32)(px pa:Addr)(kp:ClassId)(d0:Int32)(h0:Heap)(n0:Nat)(Z0:n0≤h0.size)(I:Old Z n0 h0)(J:o_U Z h0 cx ca kc [c0])(K:o_U Z h0 px pa kp [d0])(hc0: ¬c0=0)(hd0: ¬d0=0):
  o_q l (⟨"java/math/BigInteger","multiply","(Ljava/math/BigInteger;ZZI)Ljava/math/BigInteger;"⟩:MethodName) (Jvm.Cond.code (⟨"java/math/BigInteger","multiply","(Ljava/math/BigInteger;ZZI)Ljava/math/BigInteger;"⟩:MethodName) jdk_2097_method_42_code 9 (some (.object "java/math/BigInteger"))::ws) ({frames:=4,cells:=3,slots:=22,locals:=110}:Room) #[(.ref cx),(.ref px),(.int (0:Int32)),(.int (0:Int32)),(.int (0:Int32))] Z h0 (o_aF Z (fun h x a k=>o_bM Z h x a k (o_a c0*o_a d0)∨o_aY Z h x a k (o_a c0*o_a d0)) h0 n0):=by
 refine o_u (plainFor_of_name o_Y) (fun m=>o_lz m cx px (0:Int32) (0:Int32) (0:Int32)) fun p e s m L X c s₁ hx y M N (O:s.vm.findClass "java/math/BigInteger"=some m.cls) hnm hret X0 hZ e0=> ?_
 have D:=o_S y o_by
 have b:=o_t hx y o_by O hZ N hw
 have N0:=Fr.nil n0
 have KP:Keep h0 h0 []:=Keep.refl _ _
 obtain ⟨Y,z,A,r,ad⟩:=id J
 have r:Arv Z h0 ca kc .int (1:Int32) [(.int c0)] (.int (0:Int32)):=r
 obtain ⟨ae,B,u,n,af⟩:=id K
 have n:Arv Z h0 pa kp .int (1:Int32) [(.int d0)] (.int (0:Int32)):=n
 refine o_c 1 0 X0 b ?_
 refine o_h 4 1 38 X0 b e0 B fun T115 X115 e115=> ?_
 refine o_r 7 2 X115 b rfl ((if0 _ _).trans (feq (by decide: ¬((1:Int32)=(0:Int32)))).1) ?_
 refine o_c 8 3 X115 b ?_
 refine o_h 11 4 38 X115 b e115 z fun ag v P=> ?_
 refine o_p 18 5 v b rfl ((if0 _ _).trans (feq (by decide: ¬((1:Int32)=(0:Int32)))).2) ?_
 refine o_c 19 8 v b ?_
 refine o_h 22 9 40 v b P A fun w f e117=> ?_
 refine o_C 23 10 f b e117 r ?_
 refine o_o 25 11 #[_,_,_,_,_,_,_,_,_] f b ?_
 refine o_c 26 12 f b ?_
 refine o_c 27 13 f b ?_
 suffices C:o_f p e L (o_V s (o_aF Z (fun h x a k=>o_bM Z h x a k (o_a c0*o_a d0)∨o_aY Z h x a k (o_a c0*o_a d0)) h0 n0) ({frames:=4,cells:=3,slots:=22,locals:=110}:Room).cells ({frames:=4,cells:=3,slots:=22,locals:=110}:Room).slots) w (mkF m 46 #[rv cx,rv px,iv 0,iv 0,iv 0,iv 1,.unset,.unset,.unset] []) from by
  by_cases hal:px=cx
  ·refine o_i (T':=w) (mkF m 30 #[rv cx,rv px,iv 0,iv 0,iv 0,iv 1,.unset,.unset,.unset] []) (fun _ k=>Jvm.RoadKit.acmp (g:=(mkF m 27 #[rv cx,rv px,iv 0,iv 0,iv 0,iv 1,.unset,.unset,.unset] [(.ref cx),(.ref px)])) f hx rfl rfl rfl (pc0:=27) (pc':=30) (same:=true) rfl (D 14 rfl) rfl (decide_eq_true (congrArg Value.ref hal)) (by decide) (by decide) k) ?_
   refine o_d 32 15 f b ?_
   refine o_B 34 16 20 f b ?_
   refine o_z 46 17 f b rfl (flt (by decide: ¬((20:Int32)<(1:Int32)))).2.2.2 ?_
   exact C
  ·refine o_i (T':=w) (mkF m 46 #[rv cx,rv px,iv 0,iv 0,iv 0,iv 1,.unset,.unset,.unset] []) (fun _ k=>Jvm.RoadKit.acmp (g:=(mkF m 27 #[rv cx,rv px,iv 0,iv 0,iv 0,iv 1,.unset,.unset,.unset] [(.ref cx),(.ref px)])) f hx rfl rfl rfl (pc0:=27) (pc':=46) (same:=false) rfl (D 14 rfl) rfl (decide_eq_false fun q=>hal (Value.ref.inj q)) (by decide) (by decide) k) ?_
   exact C
 refine o_c 47 24 f b ?_
 refine o_h 50 25 40 f b e117 u fun ah i E=> ?_
 refine o_C 51 26 i b E n ?_
 refine o_o 53 27 #[_,_,_,_,_,_,_,_,_] i b ?_
 refine o_d 55 28 i b ?_
 refine o_B 57 29 80 i b ?_
 refine o_z 67 30 i b rfl (tlt (by decide:(1:Int32)<(80:Int32))).1 ?_
 refine o_c 68 34 i b ?_
 refine o_h 71 35 38 i b E z fun ai F e120=> ?_
 refine o_c 72 36 F b ?_
 refine o_h 75 37 38 F b e120 B fun aj j Q=> ?_
 refine o_E 78 38 j b rfl (teq (by decide:(1:Int32)=(1:Int32))).2 ?_
 refine o_g 79 39 1 j b ?_
 refine o_w 83 40 j b ?_
 refine o_o 85 42 #[_,_,_,_,_,_,_,_,_] j b ?_
 refine o_c 86 43 j b ?_
 refine o_h 89 44 40 j b Q u fun ak o e122=> ?_
 refine o_C 90 45 o b e122 n ?_
 refine o_g 91 46 1 o b ?_
 refine o_E 94 47 o b rfl (teq (by decide:(1:Int32)=(1:Int32))).2 ?_
 refine o_c 95 48 o b ?_
 refine o_h 98 49 40 o b e122 A fun al G e123=> ?_
 refine o_c 99 50 G b ?_
 refine o_h 102 51 40 G b e123 u fun am t H=> ?_
 refine o_g 103 52 0 t b ?_
 refine o_Q 104 53 t b H n (x:=d0) ?_
 refine o_d 106 54 t b ?_
 refine o_F 109 3 0 3 15 55 42 43 24 44 t b (o_m6 l Z a0 hw [] ca kc c0 d0 h0 n0 (Nat.le_trans Z0 KP.1) I r hc0 hd0) o_dV H fun _ ao aq R S=> ?_
 obtain ⟨rx,ra,rk,rfl,T,U,V⟩:=S
 have W:=Fr.app N0 T
 have KP:=KP.trans U all0
 refine o_k [_] ?_
 exact o_K 56 R b hret M (by exact ⟨rx,ra,rk,rfl,W,KP,V⟩)
theorem o_ni (l:Launch)(Z:State)(a0:Array Value)(hw: ∀d∈tables_1,d.before a0 Z=true)(ws:List Jvm.Cond)(cx ca:Addr)(kc:ClassId)(c0:Int32)(px pa:Addr)(kp:ClassId)(d0 d1:Int32)(h0:Heap)(n0:Nat)(Z0:n0≤h0.size)(L:Old Z n0 h0)(M:o_U Z h0 cx ca kc [c0])(N:o_U Z h0 px pa kp [d0,d1])(hc0: ¬c0=0)(hd0: ¬d0=0):
  o_q l (⟨"java/math/BigInteger","multiply","(Ljava/math/BigInteger;ZZI)Ljava/math/BigInteger;"⟩:MethodName) (Jvm.Cond.code (⟨"java/math/BigInteger","multiply","(Ljava/math/BigInteger;ZZI)Ljava/math/BigInteger;"⟩:MethodName) jdk_2097_method_42_code 9 (some (.object "java/math/BigInteger"))::ws) ({frames:=4,cells:=3,slots:=22,locals:=110}:Room) #[(.ref cx),(.ref px),(.int (0:Int32)),(.int (0:Int32)),(.int (0:Int32))] Z h0 (o_aF Z (fun h x a k=>o_aY Z h x a k (o_a c0*(o_a d0*4294967296+o_a d1))∨o_bq Z h x a k (o_a c0*(o_a d0*4294967296+o_a d1))) h0 n0):=by
 refine o_u (plainFor_of_name o_Y) (fun m=>o_lA m cx px (0:Int32) (0:Int32) (0:Int32)) fun p e s m O af c s₁ hx A P Q (R:s.vm.findClass "java/math/BigInteger"=some m.cls) hnm hret X0 hZ e0=> ?_
 have D:=o_S A o_by
 have b:=o_t hx A o_by R hZ Q hw
 have N0:=Fr.nil n0
 have KP:Keep h0 h0 []:=Keep.refl _ _
 obtain ⟨ag,B,u,j,ah⟩:=id M
 have j:Arv Z h0 ca kc .int (1:Int32) [(.int c0)] (.int (0:Int32)):=j
 obtain ⟨ai,C,v,n,aj⟩:=id N
 have n:Arv Z h0 pa kp .int (2:Int32) [(.int d0),(.int d1)] (.int (0:Int32)):=n
 refine o_c 1 0 X0 b ?_
 refine o_h 4 1 38 X0 b e0 C fun ak w S=> ?_
 refine o_r 7 2 w b rfl ((if0 _ _).trans (feq (by decide: ¬((1:Int32)=(0:Int32)))).1) ?_
 refine o_c 8 3 w b ?_
 refine o_h 11 4 38 w b S B fun al y e127=> ?_
 refine o_p 18 5 y b rfl ((if0 _ _).trans (feq (by decide: ¬((1:Int32)=(0:Int32)))).2) ?_
 refine o_c 19 8 y b ?_
 refine o_h 22 9 40 y b e127 u fun z f E=> ?_
 refine o_C 23 10 f b E j ?_
 refine o_o 25 11 #[_,_,_,_,_,_,_,_,_] f b ?_
 refine o_c 26 12 f b ?_
 refine o_c 27 13 f b ?_
 suffices F:o_f p e O (o_V s (o_aF Z (fun h x a k=>o_aY Z h x a k (o_a c0*(o_a d0*4294967296+o_a d1))∨o_bq Z h x a k (o_a c0*(o_a d0*4294967296+o_a d1))) h0 n0) ({frames:=4,cells:=3,slots:=22,locals:=110}:Room).cells ({frames:=4,cells:=3,slots:=22,locals:=110}:Room).slots) z (mkF m 46 #[rv cx,rv px,iv 0,iv 0,iv 0,iv 1,.unset,.unset,.unset] []) from by
  by_cases hal:px=cx
  ·refine o_i (T':=z) (mkF m 30 #[rv cx,rv px,iv 0,iv 0,iv 0,iv 1,.unset,.unset,.unset] []) (fun _ k=>Jvm.RoadKit.acmp (g:=(mkF m 27 #[rv cx,rv px,iv 0,iv 0,iv 0,iv 1,.unset,.unset,.unset] [(.ref cx),(.ref px)])) f hx rfl rfl rfl (pc0:=27) (pc':=30) (same:=true) rfl (D 14 rfl) rfl (decide_eq_true (congrArg Value.ref hal)) (by decide) (by decide) k) ?_
   refine o_d 32 15 f b ?_
   refine o_B 34 16 20 f b ?_
   refine o_z 46 17 f b rfl (flt (by decide: ¬((20:Int32)<(1:Int32)))).2.2.2 ?_
   exact F
  ·refine o_i (T':=z) (mkF m 46 #[rv cx,rv px,iv 0,iv 0,iv 0,iv 1,.unset,.unset,.unset] []) (fun _ k=>Jvm.RoadKit.acmp (g:=(mkF m 27 #[rv cx,rv px,iv 0,iv 0,iv 0,iv 1,.unset,.unset,.unset] [(.ref cx),(.ref px)])) f hx rfl rfl rfl (pc0:=27) (pc':=46) (same:=false) rfl (D 14 rfl) rfl (decide_eq_false fun q=>hal (Value.ref.inj q)) (by decide) (by decide) k) ?_
   exact F
 refine o_c 47 24 f b ?_
 refine o_h 50 25 40 f b E v fun am i G=> ?_
 refine o_C 51 26 i b G n ?_
 refine o_o 53 27 #[_,_,_,_,_,_,_,_,_] i b ?_
 refine o_d 55 28 i b ?_
 refine o_B 57 29 80 i b ?_
 refine o_z 67 30 i b rfl (tlt (by decide:(1:Int32)<(80:Int32))).1 ?_
 refine o_c 68 34 i b ?_
 refine o_h 71 35 38 i b G B fun ao H T=> ?_
 refine o_c 72 36 H b ?_
 refine o_h 75 37 38 H b T C fun T132 X132 U=> ?_
 refine o_E 78 38 X132 b rfl (teq (by decide:(1:Int32)=(1:Int32))).2 ?_
 refine o_g 79 39 1 X132 b ?_
 refine o_w 83 40 X132 b ?_
 refine o_o 85 42 #[_,_,_,_,_,_,_,_,_] X132 b ?_
 refine o_c 86 43 X132 b ?_
 refine o_h 89 44 40 X132 b U v fun aq o I=> ?_
 refine o_C 90 45 o b I n ?_
 refine o_g 91 46 1 o b ?_
 refine o_z 110 47 o b rfl (feq (by decide: ¬((2:Int32)=(1:Int32)))).2 ?_
 refine o_c 111 57 o b ?_
 refine o_h 114 58 40 o b I u fun au r J=> ?_
 refine o_C 115 59 r b J j ?_
 refine o_g 116 60 1 r b ?_
 refine o_E 119 61 r b rfl (teq (by decide:(1:Int32)=(1:Int32))).2 ?_
 refine o_c 120 62 r b ?_
 refine o_h 123 63 40 r b J v fun av K V=> ?_
 refine o_c 124 64 K b ?_
 refine o_h 127 65 40 K b V u fun aw t e136=> ?_
 refine o_g 128 66 0 t b ?_
 refine o_Q 129 67 t b e136 j (x:=c0) ?_
 refine o_d 131 68 t b ?_
 refine o_F 134 3 0 3 18 69 42 43 24 44 t b (o_f' l Z a0 hw [] pa kp d0 d1 c0 h0 n0 (Nat.le_trans Z0 KP.1) L n hd0 hc0) o_dV e136 fun _ T137 ax X137 W=> ?_
 obtain ⟨rx,ra,rk,rfl,X,Y,ad⟩:=W
 have ae:=Fr.app N0 X
 have KP:=KP.trans Y all0
 refine o_k [_] ?_
 exact o_K 70 X137 b hret P (by exact ⟨rx,ra,rk,rfl,ae,KP,by rw[Int.mul_comm];exact ad⟩)
theorem o_nj (l:Launch)(Z:State)(a0:Array Value)(hw: ∀d∈tables_1,d.before a0 Z=true)(ws:List Jvm.Cond)(cx ca:Addr)(kc:ClassId)(c0 c1:Int32)(px pa:Addr)(kp:ClassId)(d0:Int32)(h0:Heap)(n0:Nat)(Z0:n0≤h0.size)(J:Old Z n0 h0)(K:o_U Z h0 cx ca kc [c0,c1])(L:o_U Z h0 px pa kp [d0])(hc0: ¬c0=0)(hd0: ¬d0=0):
  o_q l (⟨"java/math/BigInteger","multiply","(Ljava/math/BigInteger;ZZI)Ljava/math/BigInteger;"⟩:MethodName) (Jvm.Cond.code (⟨"java/math/BigInteger","multiply","(Ljava/math/BigInteger;ZZI)Ljava/math/BigInteger;"⟩:MethodName) jdk_2097_method_42_code 9 (some (.object "java/math/BigInteger"))::ws) ({frames:=4,cells:=3,slots:=22,locals:=110}:Room) #[(.ref cx),(.ref px),(.int (0:Int32)),(.int (0:Int32)),(.int (0:Int32))] Z h0 (o_aF Z (fun h x a k=>o_aY Z h x a k ((o_a c0*4294967296+o_a c1)*o_a d0)∨o_bq Z h x a k ((o_a c0*4294967296+o_a c1)*o_a d0)) h0 n0):=by
 refine o_u (plainFor_of_name o_Y) (fun m=>o_lB m cx px (0:Int32) (0:Int32) (0:Int32)) fun p e s m M ae c s₁ hx y N O (P:s.vm.findClass "java/math/BigInteger"=some m.cls) hnm hret X0 hZ e0=> ?_
 have D:=o_S y o_by
 have b:=o_t hx y o_by P hZ O hw
 have N0:=Fr.nil n0
 have KP:Keep h0 h0 []:=Keep.refl _ _
 obtain ⟨af,z,A,o,ag⟩:=id K
 have o:Arv Z h0 ca kc .int (2:Int32) [(.int c0),(.int c1)] (.int (0:Int32)):=o
 obtain ⟨ah,B,t,j,ai⟩:=id L
 have j:Arv Z h0 pa kp .int (1:Int32) [(.int d0)] (.int (0:Int32)):=j
 refine o_c 1 0 X0 b ?_
 refine o_h 4 1 38 X0 b e0 B fun aj u Q=> ?_
 refine o_r 7 2 u b rfl ((if0 _ _).trans (feq (by decide: ¬((1:Int32)=(0:Int32)))).1) ?_
 refine o_c 8 3 u b ?_
 refine o_h 11 4 38 u b Q z fun ak v R=> ?_
 refine o_p 18 5 v b rfl ((if0 _ _).trans (feq (by decide: ¬((1:Int32)=(0:Int32)))).2) ?_
 refine o_c 19 8 v b ?_
 refine o_h 22 9 40 v b R A fun w f C=> ?_
 refine o_C 23 10 f b C o ?_
 refine o_o 25 11 #[_,_,_,_,_,_,_,_,_] f b ?_
 refine o_c 26 12 f b ?_
 refine o_c 27 13 f b ?_
 suffices E:o_f p e M (o_V s (o_aF Z (fun h x a k=>o_aY Z h x a k ((o_a c0*4294967296+o_a c1)*o_a d0)∨o_bq Z h x a k ((o_a c0*4294967296+o_a c1)*o_a d0)) h0 n0) ({frames:=4,cells:=3,slots:=22,locals:=110}:Room).cells ({frames:=4,cells:=3,slots:=22,locals:=110}:Room).slots) w (mkF m 46 #[rv cx,rv px,iv 0,iv 0,iv 0,iv 2,.unset,.unset,.unset] []) from by
  by_cases hal:px=cx
  ·refine o_i (T':=w) (mkF m 30 #[rv cx,rv px,iv 0,iv 0,iv 0,iv 2,.unset,.unset,.unset] []) (fun _ k=>Jvm.RoadKit.acmp (g:=(mkF m 27 #[rv cx,rv px,iv 0,iv 0,iv 0,iv 2,.unset,.unset,.unset] [(.ref cx),(.ref px)])) f hx rfl rfl rfl (pc0:=27) (pc':=30) (same:=true) rfl (D 14 rfl) rfl (decide_eq_true (congrArg Value.ref hal)) (by decide) (by decide) k) ?_
   refine o_d 32 15 f b ?_
   refine o_B 34 16 20 f b ?_
   refine o_z 46 17 f b rfl (flt (by decide: ¬((20:Int32)<(2:Int32)))).2.2.2 ?_
   exact E
  ·refine o_i (T':=w) (mkF m 46 #[rv cx,rv px,iv 0,iv 0,iv 0,iv 2,.unset,.unset,.unset] []) (fun _ k=>Jvm.RoadKit.acmp (g:=(mkF m 27 #[rv cx,rv px,iv 0,iv 0,iv 0,iv 2,.unset,.unset,.unset] [(.ref cx),(.ref px)])) f hx rfl rfl rfl (pc0:=27) (pc':=46) (same:=false) rfl (D 14 rfl) rfl (decide_eq_false fun q=>hal (Value.ref.inj q)) (by decide) (by decide) k) ?_
   exact E
 refine o_c 47 24 f b ?_
 refine o_h 50 25 40 f b C t fun al i e142=> ?_
 refine o_C 51 26 i b e142 j ?_
 refine o_o 53 27 #[_,_,_,_,_,_,_,_,_] i b ?_
 refine o_d 55 28 i b ?_
 refine o_B 57 29 80 i b ?_
 refine o_z 67 30 i b rfl (tlt (by decide:(2:Int32)<(80:Int32))).1 ?_
 refine o_c 68 34 i b ?_
 refine o_h 71 35 38 i b e142 z fun am F S=> ?_
 refine o_c 72 36 F b ?_
 refine o_h 75 37 38 F b S B fun T144 X144 T=> ?_
 refine o_E 78 38 X144 b rfl (teq (by decide:(1:Int32)=(1:Int32))).2 ?_
 refine o_g 79 39 1 X144 b ?_
 refine o_w 83 40 X144 b ?_
 refine o_o 85 42 #[_,_,_,_,_,_,_,_,_] X144 b ?_
 refine o_c 86 43 X144 b ?_
 refine o_h 89 44 40 X144 b T t fun ao n G=> ?_
 refine o_C 90 45 n b G j ?_
 refine o_g 91 46 1 n b ?_
 refine o_E 94 47 n b rfl (teq (by decide:(1:Int32)=(1:Int32))).2 ?_
 refine o_c 95 48 n b ?_
 refine o_h 98 49 40 n b G A fun aq H U=> ?_
 refine o_c 99 50 H b ?_
 refine o_h 102 51 40 H b U t fun au r I=> ?_
 refine o_g 103 52 0 r b ?_
 refine o_Q 104 53 r b I j (x:=d0) ?_
 refine o_d 106 54 r b ?_
 refine o_F 109 3 0 3 18 55 42 43 24 44 r b (o_f' l Z a0 hw [] ca kc c0 c1 d0 h0 n0 (Nat.le_trans Z0 KP.1) J o hc0 hd0) o_dV I fun _ T148 av X148 V=> ?_
 obtain ⟨rx,ra,rk,rfl,W,X,Y⟩:=V
 have ad:=Fr.app N0 W
 have KP:=KP.trans X all0
 refine o_k [_] ?_
 exact o_K 56 X148 b hret N (by exact ⟨rx,ra,rk,rfl,ad,KP,Y⟩)
theorem o_nk (l:Launch)(Z:State)(a0:Array Value)(hw: ∀d∈tables_1,d.before a0 Z=true)(ws:List Jvm.Cond)(cx ca:Addr)(kc:ClassId)(c0 c1:Int32)(px pa:Addr)(kp:ClassId)(d0 d1:Int32)(h0:Heap)(n0:Nat)(Z0:n0≤h0.size)(f:Old Z n0 h0)(aG:o_U Z h0 cx ca kc [c0,c1])(aH:o_U Z h0 px pa kp [d0,d1])(hc0: ¬c0=0)(hd0: ¬d0=0):
  o_q l (⟨"java/math/BigInteger","multiply","(Ljava/math/BigInteger;ZZI)Ljava/math/BigInteger;"⟩:MethodName) (Jvm.Cond.code (⟨"java/math/BigInteger","multiply","(Ljava/math/BigInteger;ZZI)Ljava/math/BigInteger;"⟩:MethodName) jdk_2097_method_42_code 9 (some (.object "java/math/BigInteger"))::ws) ({frames:=4,cells:=3,slots:=22,locals:=110}:Room) #[(.ref cx),(.ref px),(.int (0:Int32)),(.int (0:Int32)),(.int (0:Int32))] Z h0 (o_aF Z (fun h x a k=>o_bq Z h x a k ((o_a c0*4294967296+o_a c1)*(o_a d0*4294967296+o_a d1))∨o_dz Z h x a k ((o_a c0*4294967296+o_a c1)*(o_a d0*4294967296+o_a d1))) h0 n0):=by
 refine o_u (plainFor_of_name o_Y) (fun m=>o_lC m cx px (0:Int32) (0:Int32) (0:Int32)) fun p e s m aI bx c s₁ hx ad ae aJ (L:s.vm.findClass "java/math/BigInteger"=some m.cls) hnm hret X0 hZ e0=> ?_
 have D:=o_S ad o_by
 have b:=o_t hx ad o_by L hZ aJ hw
 have N0:=Fr.nil n0
 have KP:Keep h0 h0 []:=Keep.refl _ _
 obtain ⟨bz,af,M,u,bA⟩:=id aG
 have u:Arv Z h0 ca kc .int (2:Int32) [(.int c0),(.int c1)] (.int (0:Int32)):=u
 obtain ⟨bB,ag,N,v,bC⟩:=id aH
 have v:Arv Z h0 pa kp .int (2:Int32) [(.int d0),(.int d1)] (.int (0:Int32)):=v
 refine o_c 1 0 X0 b ?_
 refine o_h 4 1 38 X0 b e0 ag fun bD O aK=> ?_
 refine o_r 7 2 O b rfl ((if0 _ _).trans (feq (by decide: ¬((1:Int32)=(0:Int32)))).1) ?_
 refine o_c 8 3 O b ?_
 refine o_h 11 4 38 O b aK af fun bE P aL=> ?_
 refine o_p 18 5 P b rfl ((if0 _ _).trans (feq (by decide: ¬((1:Int32)=(0:Int32)))).2) ?_
 refine o_c 19 8 P b ?_
 refine o_h 22 9 40 P b aL M fun Q i ah=> ?_
 refine o_C 23 10 i b ah u ?_
 refine o_o 25 11 #[_,_,_,_,_,_,_,_,_] i b ?_
 refine o_c 26 12 i b ?_
 refine o_c 27 13 i b ?_
 suffices ai:o_f p e aI (o_V s (o_aF Z (fun h x a k=>o_bq Z h x a k ((o_a c0*4294967296+o_a c1)*(o_a d0*4294967296+o_a d1))∨o_dz Z h x a k ((o_a c0*4294967296+o_a c1)*(o_a d0*4294967296+o_a d1))) h0 n0) ({frames:=4,cells:=3,slots:=22,locals:=110}:Room).cells ({frames:=4,cells:=3,slots:=22,locals:=110}:Room).slots) Q (mkF m 46 #[rv cx,rv px,iv 0,iv 0,iv 0,iv 2,.unset,.unset,.unset] []) from by
  by_cases hal:px=cx
  ·refine o_i (T':=Q) (mkF m 30 #[rv cx,rv px,iv 0,iv 0,iv 0,iv 2,.unset,.unset,.unset] []) (fun _ k=>Jvm.RoadKit.acmp (g:=(mkF m 27 #[rv cx,rv px,iv 0,iv 0,iv 0,iv 2,.unset,.unset,.unset] [(.ref cx),(.ref px)])) i hx rfl rfl rfl (pc0:=27) (pc':=30) (same:=true) rfl (D 14 rfl) rfl (decide_eq_true (congrArg Value.ref hal)) (by decide) (by decide) k) ?_
   refine o_d 32 15 i b ?_
   refine o_B 34 16 20 i b ?_
   refine o_z 46 17 i b rfl (flt (by decide: ¬((20:Int32)<(2:Int32)))).2.2.2 ?_
   exact ai
  ·refine o_i (T':=Q) (mkF m 46 #[rv cx,rv px,iv 0,iv 0,iv 0,iv 2,.unset,.unset,.unset] []) (fun _ k=>Jvm.RoadKit.acmp (g:=(mkF m 27 #[rv cx,rv px,iv 0,iv 0,iv 0,iv 2,.unset,.unset,.unset] [(.ref cx),(.ref px)])) i hx rfl rfl rfl (pc0:=27) (pc':=46) (same:=false) rfl (D 14 rfl) rfl (decide_eq_false fun q=>hal (Value.ref.inj q)) (by decide) (by decide) k) ?_
   exact ai
 refine o_c 47 24 i b ?_
 refine o_h 50 25 40 i b ah N fun bF r aj=> ?_
 refine o_C 51 26 r b aj v ?_
 refine o_o 53 27 #[_,_,_,_,_,_,_,_,_] r b ?_
 refine o_d 55 28 r b ?_
 refine o_B 57 29 80 r b ?_
 refine o_z 67 30 r b rfl (tlt (by decide:(2:Int32)<(80:Int32))).1 ?_
 refine o_c 68 34 r b ?_
 refine o_h 71 35 38 r b aj af fun bG ak aM=> ?_
 refine o_c 72 36 ak b ?_
 refine o_h 75 37 38 ak b aM ag fun T155 X155 aN=> ?_
 refine o_E 78 38 X155 b rfl (teq (by decide:(1:Int32)=(1:Int32))).2 ?_
 refine o_g 79 39 1 X155 b ?_
 refine o_w 83 40 X155 b ?_
 refine o_o 85 42 #[_,_,_,_,_,_,_,_,_] X155 b ?_
 refine o_c 86 43 X155 b ?_
 refine o_h 89 44 40 X155 b aN N fun bH w al=> ?_
 refine o_C 90 45 w b al v ?_
 refine o_g 91 46 1 w b ?_
 refine o_z 110 47 w b rfl (feq (by decide: ¬((2:Int32)=(1:Int32)))).2 ?_
 refine o_c 111 57 w b ?_
 refine o_h 114 58 40 w b al M fun bI y am=> ?_
 refine o_C 115 59 y b am u ?_
 refine o_g 116 60 1 y b ?_
 refine o_z 135 61 y b rfl (feq (by decide: ¬((2:Int32)=(1:Int32)))).2 ?_
 refine o_c 136 71 y b ?_
 refine o_h 139 72 40 y b am M fun T158 X158 aO=> ?_
 refine o_d 141 73 X158 b ?_
 refine o_c 142 74 X158 b ?_
 refine o_h 145 75 40 X158 b aO N fun bJ R aP=> ?_
 refine o_d 147 76 R b ?_
 refine o_cJ 148 77 R b ?_
 have aQ:=KP
 refine o_F 151 5 0 1 4 78 246 247 24 248 R b (o_nc l Z a0 hw [] ca kc c0 c1 pa kp d0 d1 h0 n0 (Nat.le_trans Z0 KP.1) f u v hc0 hd0) o_fT aP fun _ S bK C aR=> ?_
 obtain ⟨bb,E,z0,z1,z2,z3,rfl,aS,ao,bL,bM,j,hv,hz,A⟩:=aR
 have aq:=Fr.app N0 aS
 have f:=f.keep ao all0
 have KP:=KP.trans ao all0
 refine o_k [_] ?_
 refine o_1 153 79 #[_,_,_,_,_,_,_,_,_] C b ?_
 refine o_l 155 80 C b ?_
 by_cases hz0:z0=0
 ·have aQ:=KP
  refine o_F 158 1 0 2 7 81 258 259 24 260 C b (o_ng l Z a0 hw [] bb E z0 z1 z2 z3 S.heap n0 (Nat.le_trans Z0 KP.1) f j hz0 (hz hz0)) o_fU rfl fun _ aT bN au aU=> ?_
  obtain ⟨bc,av,rfl,aV,aw,bO,bP,t,B⟩:=aU
  have aW:=Fr.app aq aV
  have f:=f.keep aw all0
  have KP:=KP.trans aw all0
  refine o_k [_] ?_
  refine o_1 160 82 #[_,_,_,_,_,_,_,_,_] au b ?_
  obtain ⟨bQ,F,G,aX,H,ax,T,-,ay⟩:=newO au hx hZ L (o_b hw 71 rfl) (o_b hw 72 rfl) (o_b hw 24 rfl) rfl (g:=(mkF m 160 #[rv cx,rv px,iv 0,iv 0,iv 0,iv 2,iv 2,iv 1,rv bc] [])) rfl (D 83 rfl) (by decide) (by decide)
  obtain ⟨n,U⟩: ∃z,z=aT.heap.size:=⟨_,rfl⟩
  rw[←U] at ax T ay
  have aA:h0.size≤n:=Nat.le_trans KP.1 (Nat.le_of_eq U.symm)
  have aY:n0≤n:=Nat.le_trans Z0 aA
  have aB:bc≠n:=Nat.ne_of_lt (Nat.lt_of_lt_of_le t.lt (Nat.le_of_eq U.symm))
  have f:=f.ext H
  have KP:=KP.ext H
  have t:=t.ext H
  have B:=B.ext H
  have aZ:Exa Z F n "java/math/BigInteger":=ax
  have a5:Fld Z F n "java/math/BigInteger" "signum" "I" (.int (0:Int32)):=T (Or.inr (o_b hw 39 rfl)) (ty:= .int) (by decide)
  have a6:Fld Z F n "java/math/BigInteger" "mag" "[I" .null:=T (Or.inr (o_b hw 41 rfl)) (ty:=(.array .int)) (by decide)
  refine o_i (mkF m 163 #[rv cx,rv px,iv 0,iv 0,iv 0,iv 2,iv 2,iv 1,rv bc] [(.ref n)]) ay ?_
  refine o_ab 164 84 G b ?_
  refine o_l 166 85 G b ?_
  refine o_d 168 86 G b ?_
  refine o_7 171 2 1 3 13 87 73 74 24 76 G b (o_aG l Z a0 hw [] n bc F n0 (Nat.le_trans Z0 KP.1) f aY aZ a5 a6 av (3:Int32) _ aB t (by decide) (by decide)) o_aw aX rfl fun _ bR bS a7 a8=> ?_
  obtain ⟨rfl,a9,V,a_,a',bd⟩:=a8
  have be:=Fr.app aW a9
  have KP:=KP.trans V (allS (Or.inr aA) all0)
  have t:=t.keep V (ninS aB nin0)
  have B:=B.keep V
  refine o_k [_] ?_
  exact o_K 88 a7 b hret ae (by exact ⟨n,bc,av,rfl,be,KP,Or.inl ⟨z1,z2,z3,⟨a_,a',bd,t,B⟩,hz hz0,o_he hz0 hv⟩⟩)
 ·refine o_F 158 1 0 1 4 81 258 259 24 260 C b (o_ne l Z a0 hw [] bb E z0 z1 z2 z3 S.heap n0 (Nat.le_trans Z0 KP.1) f j hz0) o_fU rfl fun _ T161 bT X161 bf=> ?_
  obtain ⟨rfl,bg,bh⟩:=bf
  have bj:=Fr.app aq bg
  refine o_k [_] ?_
  refine o_1 160 82 #[_,_,_,_,_,_,_,_,_] X161 b ?_
  obtain ⟨bU,I,J,bk,K,aC,W,-,aD⟩:=newO X161 hx hZ L (o_b hw 71 rfl) (o_b hw 72 rfl) (o_b hw 24 rfl) bh (g:=(mkF m 160 #[rv cx,rv px,iv 0,iv 0,iv 0,iv 2,iv 2,iv 1,rv bb] [])) rfl (D 83 rfl) (by decide) (by decide)
  obtain ⟨o,X⟩: ∃z,z=S.heap.size:=⟨_,rfl⟩
  rw[←X] at aC W aD
  have aE:h0.size≤o:=Nat.le_trans KP.1 (Nat.le_of_eq X.symm)
  have bl:n0≤o:=Nat.le_trans Z0 aE
  have aF:bb≠o:=Nat.ne_of_lt (Nat.lt_of_lt_of_le j.lt (Nat.le_of_eq X.symm))
  have f:=f.ext K
  have KP:=KP.ext K
  have j:=j.ext K
  have A:=A.ext K
  have bm:Exa Z I o "java/math/BigInteger":=aC
  have bn:Fld Z I o "java/math/BigInteger" "signum" "I" (.int (0:Int32)):=W (Or.inr (o_b hw 39 rfl)) (ty:= .int) (by decide)
  have bo:Fld Z I o "java/math/BigInteger" "mag" "[I" .null:=W (Or.inr (o_b hw 41 rfl)) (ty:=(.array .int)) (by decide)
  refine o_i (mkF m 163 #[rv cx,rv px,iv 0,iv 0,iv 0,iv 2,iv 2,iv 1,rv bb] [(.ref o)]) aD ?_
  refine o_ab 164 84 J b ?_
  refine o_l 166 85 J b ?_
  refine o_d 168 86 J b ?_
  refine o_7 171 2 1 2 10 87 73 74 24 76 J b (o_aG l Z a0 hw [] o bb I n0 (Nat.le_trans Z0 KP.1) f bl bm bn bo E (4:Int32) _ aF j (by decide) (by decide)) o_aw bk rfl fun _ bV bW bp bq=> ?_
  obtain ⟨rfl,br,Y,bt,bu,bv⟩:=bq
  have bw:=Fr.app bj br
  have KP:=KP.trans Y (allS (Or.inr aE) all0)
  have j:=j.keep Y (ninS aF nin0)
  have A:=A.keep Y
  refine o_k [_] ?_
  exact o_K 88 bp b hret ae (by exact ⟨o,bb,E,rfl,bw,KP,Or.inr ⟨z0,z1,z2,z3,⟨bt,bu,bv,j,A⟩,hz0,hv⟩⟩)
theorem o_nl (l:Launch)(Z:State)(a0:Array Value)(hw: ∀d∈tables_1,d.before a0 Z=true)(ws:List Jvm.Cond)(cx px:Addr)(PP:Heap→Addr→Addr→ClassId→Prop)(h0:Heap)(n0:Nat)(Z0:n0≤h0.size)(t:Old Z n0 h0)(b:Exa Z h0 cx "java/math/BigInteger")(hM:o_q l (⟨"java/math/BigInteger","multiply","(Ljava/math/BigInteger;ZZI)Ljava/math/BigInteger;"⟩:MethodName) [Jvm.Cond.code (⟨"java/math/BigInteger","multiply","(Ljava/math/BigInteger;ZZI)Ljava/math/BigInteger;"⟩:MethodName) jdk_2097_method_42_code 9 (some (.object "java/math/BigInteger"))] ({frames:=4,cells:=3,slots:=22,locals:=110}:Room) #[(.ref cx),(.ref px),(.int (0:Int32)),(.int (0:Int32)),(.int (0:Int32))] Z h0 (o_aF Z PP h0 n0)):
  o_q l (⟨"java/math/BigInteger","multiply","(Ljava/math/BigInteger;)Ljava/math/BigInteger;"⟩:MethodName) (Jvm.Cond.code (⟨"java/math/BigInteger","multiply","(Ljava/math/BigInteger;)Ljava/math/BigInteger;"⟩:MethodName) jdk_2097_method_40_code 2 (some (.object "java/math/BigInteger"))::ws) ({frames:=5,cells:=3,slots:=22,locals:=135}:Room) #[(.ref cx),(.ref px)] Z h0 (o_aF Z PP h0 n0):=by
 refine o_u (plainFor_of_name o_Y) (fun m=>o_lD m cx px) fun p e s m u v c s₁ hx f g h (i:s.vm.findClass "java/math/BigInteger"=some m.cls) hnm hret X0 hZ e0=> ?_
 have a:=o_t hx f o_jO i hZ h hw
 have N0:=Fr.nil n0
 have KP:Keep h0 h0 []:=Keep.refl _ _
 refine o_c 1 0 X0 a ?_
 refine o_c 2 1 X0 a ?_
 refine o_g 3 2 0 X0 a ?_
 refine o_g 4 3 0 X0 a ?_
 refine o_g 5 4 0 X0 a ?_
 refine o_aD 8 4 0 3 22 5 33 34 36 35 24 37 X0 a hM o_kV e0 b fun _ w x j k=> ?_
 obtain ⟨rx,ra,rk,rfl,n,o,q⟩:=k
 have r:=Fr.app N0 n
 have KP:=KP.trans o all0
 refine o_k [_] ?_
 exact o_K 6 j a hret g (by exact ⟨rx,ra,rk,rfl,r,KP,q⟩)
def o_cj (Z:State)(y:Int32)(h0:Heap)(n0:Nat)(v:Option Value)(h:Heap)(L:List Loc):Prop:= ∃r:Int32,v=some (.int r)∧Fr n0 L∧h=h0∧o_aR (o_a y) r
theorem o_di (l:Launch)(Z:State)(a0:Array Value)(hw: ∀d∈tables_1,d.before a0 Z=true)(ws:List Jvm.Cond)(y:Int32)(h0:Heap)(n0:Nat)(Z0:n0≤h0.size)(R:Old Z n0 h0):
  o_q l (⟨"java/lang/Integer","numberOfLeadingZeros","(I)I"⟩:MethodName) (Jvm.Cond.code (⟨"java/lang/Integer","numberOfLeadingZeros","(I)I"⟩:MethodName) jdk_33_method_47_code 2 (some .int)::ws) ({frames:=0,cells:=0,slots:=0,locals:=0}:Room) #[(.int y)] Z h0 (o_cj Z y h0 n0):=by
 refine o_u (plainFor_of_name o_dY) (fun m=>o_lE m y) fun p e s m b S c s₁ hx o g r (u:s.vm.findClass "java/lang/Integer"=some m.cls) hnm hret X0 hZ e0=> ?_
 have a:=o_t hx o o_jQ u hZ r hw
 have N0:=Fr.nil n0
 refine o_e 1 0 X0 a ?_
 by_cases hp:(0:Int32)<y
 ·refine o_p 15 1 X0 a rfl ((if0 _ _).trans (tlt hp).2.2.1) ?_
  have hY:=(Int32.lt_iff_toInt_lt.mp hp:(0:Int32).toInt<y.toInt)
  have v:=o_hp hp
  refine o_B 17 8 31 X0 a ?_
  refine o_O 18 9 #[_,_] X0 a ?_
  refine o_e 19 10 X0 a ?_
  refine o_bN 22 218 11 X0 a ?_
  suffices h: ∀i1:Int32,(y<(65536:Int32)→i1=y)→(¬(y<(65536:Int32))→i1=((y.toUInt32>>>((16:Int32)&&&31).toUInt32).toInt32))→ ∀n1:Int32,(y<(65536:Int32)→n1=(31:Int32))→(¬(y<(65536:Int32))→n1=(15:Int32))→o_f p e b (o_V s (o_cj Z y h0 n0) ({frames:=0,cells:=0,slots:=0,locals:=0}:Room).cells ({frames:=0,cells:=0,slots:=0,locals:=0}:Room).slots) s₁ (mkF m 33 #[iv i1,iv n1] []) from by
   by_cases hj0:y<(65536:Int32)
   ·refine o_z 33 12 X0 a rfl (tlt hj0).1 ?_
    exact h y (fun _=>rfl) (fun q=>absurd hj0 q) (31:Int32) (fun _=>rfl) (fun q=>absurd hj0 q)
   ·refine o_E 25 12 X0 a rfl (flt hj0).1 ?_
    refine o_G 28 13 #[_,iv 15] X0 a ?_
    refine o_e 29 14 X0 a ?_
    refine o_B 31 15 16 X0 a ?_
    refine o_af 32 16 X0 a ?_
    refine o_O 33 17 #[_,_] X0 a ?_
    exact h ((y.toUInt32>>>((16:Int32)&&&31).toUInt32).toInt32) (fun q=>absurd q hj0) (fun _=>rfl) (15:Int32) (fun q=>absurd q hj0) (fun _=>rfl)
  intro i1 w x n1 z A
  have B:o_br y.toInt i1 n1 65536:=o_cC (t:=65536) (q:=16) (kk:= -16) (k:=16) v (by decide) (by decide) rfl rfl rfl rfl (by decide) (rng32 y).2 w x z A
  refine o_e 34 18 X0 a ?_
  refine o_eA 37 19 256 X0 a ?_
  suffices i: ∀i2:Int32,(i1<(256:Int32)→i2=i1)→(¬(i1<(256:Int32))→i2=((i1.toUInt32>>>((8:Int32)&&&31).toUInt32).toInt32))→ ∀n2:Int32,(i1<(256:Int32)→n2=n1)→(¬(i1<(256:Int32))→n2=(n1+(-8:Int32)))→o_f p e b (o_V s (o_cj Z y h0 n0) ({frames:=0,cells:=0,slots:=0,locals:=0}:Room).cells ({frames:=0,cells:=0,slots:=0,locals:=0}:Room).slots) s₁ (mkF m 48 #[iv i2,iv n2] []) from by
   by_cases hj1:i1<(256:Int32)
   ·refine o_z 48 20 X0 a rfl (tlt hj1).1 ?_
    exact i i1 (fun _=>rfl) (fun q=>absurd hj1 q) n1 (fun _=>rfl) (fun q=>absurd hj1 q)
   ·refine o_E 40 20 X0 a rfl (flt hj1).1 ?_
    refine o_G 43 21 #[_,iv (n1+(-8:Int32))] X0 a ?_
    refine o_e 44 22 X0 a ?_
    refine o_B 46 23 8 X0 a ?_
    refine o_af 47 24 X0 a ?_
    refine o_O 48 25 #[_,_] X0 a ?_
    exact i ((i1.toUInt32>>>((8:Int32)&&&31).toUInt32).toInt32) (fun q=>absurd q hj1) (fun _=>rfl) (n1+(-8:Int32)) (fun q=>absurd q hj1) (fun _=>rfl)
  intro i2 C D n2 E F
  have G:o_br y.toInt i2 n2 256:=o_cC (t:=256) (q:=8) (kk:= -8) (k:=8) B (by decide) (by decide) rfl rfl rfl rfl (by decide) (rng32 y).2 C D E F
  refine o_e 49 26 X0 a ?_
  refine o_B 51 27 16 X0 a ?_
  suffices j: ∀i3:Int32,(i2<(16:Int32)→i3=i2)→(¬(i2<(16:Int32))→i3=((i2.toUInt32>>>((4:Int32)&&&31).toUInt32).toInt32))→ ∀n3:Int32,(i2<(16:Int32)→n3=n2)→(¬(i2<(16:Int32))→n3=(n2+(-4:Int32)))→o_f p e b (o_V s (o_cj Z y h0 n0) ({frames:=0,cells:=0,slots:=0,locals:=0}:Room).cells ({frames:=0,cells:=0,slots:=0,locals:=0}:Room).slots) s₁ (mkF m 61 #[iv i3,iv n3] []) from by
   by_cases hj2:i2<(16:Int32)
   ·refine o_z 61 28 X0 a rfl (tlt hj2).1 ?_
    exact j i2 (fun _=>rfl) (fun q=>absurd hj2 q) n2 (fun _=>rfl) (fun q=>absurd hj2 q)
   ·refine o_E 54 28 X0 a rfl (flt hj2).1 ?_
    refine o_G 57 29 #[_,iv (n2+(-4:Int32))] X0 a ?_
    refine o_e 58 30 X0 a ?_
    refine o_g 59 31 4 X0 a ?_
    refine o_af 60 32 X0 a ?_
    refine o_O 61 33 #[_,_] X0 a ?_
    exact j ((i2.toUInt32>>>((4:Int32)&&&31).toUInt32).toInt32) (fun q=>absurd q hj2) (fun _=>rfl) (n2+(-4:Int32)) (fun q=>absurd q hj2) (fun _=>rfl)
  intro i3 H I n3 J K
  have L:o_br y.toInt i3 n3 16:=o_cC (t:=16) (q:=4) (kk:= -4) (k:=4) G (by decide) (by decide) rfl rfl rfl rfl (by decide) (rng32 y).2 H I J K
  refine o_e 62 34 X0 a ?_
  refine o_g 63 35 4 X0 a ?_
  suffices n: ∀i4:Int32,(i3<(4:Int32)→i4=i3)→(¬(i3<(4:Int32))→i4=((i3.toUInt32>>>((2:Int32)&&&31).toUInt32).toInt32))→ ∀n4:Int32,(i3<(4:Int32)→n4=n3)→(¬(i3<(4:Int32))→n4=(n3+(-2:Int32)))→o_f p e b (o_V s (o_cj Z y h0 n0) ({frames:=0,cells:=0,slots:=0,locals:=0}:Room).cells ({frames:=0,cells:=0,slots:=0,locals:=0}:Room).slots) s₁ (mkF m 73 #[iv i4,iv n4] []) from by
   by_cases hj3:i3<(4:Int32)
   ·refine o_z 73 36 X0 a rfl (tlt hj3).1 ?_
    exact n i3 (fun _=>rfl) (fun q=>absurd hj3 q) n3 (fun _=>rfl) (fun q=>absurd hj3 q)
   ·refine o_E 66 36 X0 a rfl (flt hj3).1 ?_
    refine o_G 69 37 #[_,iv (n3+(-2:Int32))] X0 a ?_
    refine o_e 70 38 X0 a ?_
    refine o_g 71 39 2 X0 a ?_
    refine o_af 72 40 X0 a ?_
    refine o_O 73 41 #[_,_] X0 a ?_
    exact n ((i3.toUInt32>>>((2:Int32)&&&31).toUInt32).toInt32) (fun q=>absurd q hj3) (fun _=>rfl) (n3+(-2:Int32)) (fun q=>absurd q hj3) (fun _=>rfl)
  intro i4 M N n4 O P
  have Q:o_br y.toInt i4 n4 4:=o_cC (t:=4) (q:=2) (kk:= -2) (k:=2) L (by decide) (by decide) rfl rfl rfl rfl (by decide) (rng32 y).2 M N O P
  refine o_e 74 42 X0 a ?_
  refine o_e 75 43 X0 a ?_
  refine o_g 76 44 1 X0 a ?_
  refine o_af 77 45 X0 a ?_
  refine o_J 78 46 X0 a ?_
  exact o_W 47 X0 a hret g (by rw[e0];exact ⟨_,rfl,N0,rfl,o_hm hY Q⟩)
 ·refine o_r 4 1 X0 a rfl ((if0 _ _).trans (flt hp).2.2.1) ?_
  refine o_e 5 2 X0 a ?_
  by_cases f:y=(0:Int32)
  ·refine o_r 8 3 X0 a rfl ((if0 _ _).trans (teq f).2) ?_
   refine o_B 10 4 32 X0 a ?_
   refine o_w 14 5 X0 a ?_
   exact o_W 7 X0 a hret g (by rw[e0];exact ⟨_,rfl,N0,rfl,o_hn f⟩)
  ·refine o_p 13 3 X0 a rfl ((if0 _ _).trans (feq f).2) ?_
   refine o_g 14 6 0 X0 a ?_
   exact o_W 7 X0 a hret g (by rw[e0];exact ⟨_,rfl,N0,rfl,o_ho hp f⟩)
def o_nm (Z:State)(mb:Addr)(aa bb:Int64)(h0:Heap)(n0:Nat)(v:Option Value)(h:Heap)(L:List Loc):Prop:=Fr n0 L∧h=h0∧((v=some (.int 1)∧o_s bb<o_s aa)∨(v=some (.int 0)∧o_s aa≤o_s bb))
theorem o_dj (l:Launch)(Z:State)(a0:Array Value)(hw: ∀d∈tables_1,d.before a0 Z=true)(ws:List Jvm.Cond)(mb:Addr)(aa bb:Int64)(h0:Heap)(n0:Nat)(Z0:n0≤h0.size)(i:Old Z n0 h0):
  o_q l (⟨"java/math/MutableBigInteger","unsignedLongCompare","(JJ)Z"⟩:MethodName) (Jvm.Cond.code (⟨"java/math/MutableBigInteger","unsignedLongCompare","(JJ)Z"⟩:MethodName) jdk_2101_method_69_code 5 (some .boolean)::ws) ({frames:=0,cells:=0,slots:=0,locals:=0}:Room) #[(.ref mb),(.long aa),(.long bb)] Z h0 (o_nm Z mb aa bb h0 n0):=by
 refine o_u (plainFor_of_name o_ag) (fun m=>o_lF m mb aa bb) fun p e s m j k c s₁ hx b f g (h:s.vm.findClass "java/math/MutableBigInteger"=some m.cls) hnm hret X0 hZ e0=> ?_
 have D:=o_S b o_fA
 have a:=o_t hx b o_fA h hZ g hw
 have N0:=Fr.nil n0
 refine o_P 1 0 X0 a ?_
 refine o_y 4 275 1 X0 a ?_
 refine o_4 5 2 X0 a ?_
 refine o_P 6 3 X0 a ?_
 refine o_y 9 275 4 X0 a ?_
 refine o_4 10 5 X0 a ?_
 refine o_3 11 6 X0 a ?_
 by_cases hc:(0:Int32)<(lcmpW (aa+(-9223372036854775808:Int64)) (bb+(-9223372036854775808:Int64)))
 ·refine o_r 14 7 X0 a rfl ((if0 _ _).trans (tlt hc).2.2.2) ?_
  refine o_g 15 8 1 X0 a ?_
  refine o_w 19 9 X0 a ?_
  exact o_cm X0 hx (t:= .boolean) hret (by simp) f (D 11 rfl) (by decide) (by decide) (by rw[e0];exact ⟨N0,rfl,Or.inl ⟨rfl,o_hq hc⟩⟩)
 ·refine o_p 18 7 X0 a rfl ((if0 _ _).trans (flt hc).2.2.2) ?_
  refine o_g 19 10 0 X0 a ?_
  exact o_cm X0 hx (t:= .boolean) hret (by simp) f (D 11 rfl) (by decide) (by decide) (by rw[e0];exact ⟨N0,rfl,Or.inr ⟨rfl,o_hr hc⟩⟩)
def o_nn (Z:State)(nn:Int64)(dd:Int32)(h0:Heap)(n0:Nat)(v:Option Value)(h:Heap)(L:List Loc):Prop:= ∃r:Int64,v=some (.long r)∧Fr n0 L∧h=h0∧o_a r.toInt32=o_s nn/o_a dd∧o_s r/4294967296=o_s nn%o_a dd
theorem o_d1 (l:Launch)(Z:State)(a0:Array Value)(hw: ∀d∈tables_1,d.before a0 Z=true)(ws:List Jvm.Cond)(nn:Int64)(dd:Int32)(h0:Heap)(n0:Nat)(Z0:n0≤h0.size)(w:Old Z n0 h0)(hd:2147483648≤o_a dd)(hN:o_s nn<o_a dd*4294967296):
  o_q l (⟨"java/math/MutableBigInteger","divWord","(JI)J"⟩:MethodName) (Jvm.Cond.code (⟨"java/math/MutableBigInteger","divWord","(JI)J"⟩:MethodName) jdk_2101_method_70_code 9 (some .long)::ws) ({frames:=0,cells:=0,slots:=0,locals:=0}:Room) #[(.long nn),(.int dd)] Z h0 (o_nn Z nn dd h0 n0):=by
 refine o_u (plainFor_of_name o_ag) (fun m=>o_lG m nn dd) fun p e s m x y c s₁ hx f b g (h:s.vm.findClass "java/math/MutableBigInteger"=some m.cls) hnm hret X0 hZ e0=> ?_
 have D:=o_S f o_fB
 have a:=o_t hx f o_fB h hZ g hw
 have N0:=Fr.nil n0
 refine o_e 1 0 X0 a ?_
 refine o_D 2 1 X0 a ?_
 refine o_y 5 214 2 X0 a ?_
 refine o_A 6 3 X0 a ?_
 generalize i:((dd.toInt64)&&&(4294967295:Int64))=dl
 have eD:dl.toInt=o_a dd:=i▸o_2 dd
 refine o_bl 7 4 #[_,_,_,_,_,_,_,_,_] X0 a ?_
 refine o_P 8 5 X0 a ?_
 refine o_ac 9 6 1 X0 a ?_
 refine o_3 10 7 X0 a ?_
 refine o_p 34 8 X0 a rfl ((if0 _ _).trans (feq (o_hs eD hd)).2) ?_
 refine o_P 35 23 X0 a ?_
 refine o_g 36 24 1 X0 a ?_
 refine o_ak 37 25 X0 a ?_
 refine o_P 38 26 X0 a ?_
 refine o_g 39 27 1 X0 a ?_
 refine o_ak 40 28 X0 a ?_
 refine o_i (T':=s₁) (mkF m 41 #[.val (.long nn),.second,iv dd,.val (.long dl),.second,.unset,.unset,.unset,.unset] [(.long (((nn.toUInt64>>>((1:Int32)&&&0x3f).toInt64.toUInt64).toInt64)/((dl.toUInt64>>>((1:Int32)&&&0x3f).toInt64.toUInt64).toInt64)))]) (fun _ k=>XS.ldiv X0.here hx rfl (D 29 rfl) rfl (o_ht eD hd) k) ?_
 generalize j:(((nn.toUInt64>>>((1:Int32)&&&0x3f).toInt64.toUInt64).toInt64)/((dl.toUInt64>>>((1:Int32)&&&0x3f).toInt64.toUInt64).toInt64))=q0
 refine o_H 43 30 #[_,_,_,_,_,_,_,_,_] X0 a ?_
 refine o_P 44 31 X0 a ?_
 refine o_j 46 32 X0 a ?_
 refine o_P 47 33 X0 a ?_
 refine o_ah 48 34 X0 a ?_
 refine o_aK 49 35 X0 a ?_
 generalize n:(nn-(q0*dl))=r0
 have I0:=o_hu eD hd hN j n
 refine o_H 51 36 #[_,_,_,_,_,_,_,_,_] X0 a ?_
 refine o_j 53 37 X0 a ?_
 refine o_ac 54 38 0 X0 a ?_
 refine o_3 55 39 X0 a ?_
 by_cases hr0:(lcmpW r0 (0:Int64))<(0:Int32)
 ·refine o_r 58 40 X0 a rfl ((if0 _ _).trans (tlt hr0).2.1) ?_
  refine o_j 60 41 X0 a ?_
  refine o_P 61 42 X0 a ?_
  refine o_4 62 43 X0 a ?_
  generalize o:(r0+dl)=r1
  refine o_H 64 44 #[_,_,_,_,_,_,_,_,_] X0 a ?_
  refine o_j 66 45 X0 a ?_
  refine o_ac 67 46 1 X0 a ?_
  refine o_aK 68 47 X0 a ?_
  generalize q:(q0-(1:Int64))=q1
  have I1:=o_dE eD hd I0 hr0 o q ⟨by decide,by decide⟩
  refine o_H 70 48 #[_,_,_,_,_,_,_,_,_] X0 a ?_
  refine o_w 51 49 X0 a ?_
  refine o_j 53 37 X0 a ?_
  refine o_ac 54 38 0 X0 a ?_
  refine o_3 55 39 X0 a ?_
  by_cases hr1:(lcmpW r1 (0:Int64))<(0:Int32)
  ·refine o_r 58 40 X0 a rfl ((if0 _ _).trans (tlt hr1).2.1) ?_
   refine o_j 60 41 X0 a ?_
   refine o_P 61 42 X0 a ?_
   refine o_4 62 43 X0 a ?_
   generalize r:(r1+dl)=r2
   refine o_H 64 44 #[_,_,_,_,_,_,_,_,_] X0 a ?_
   refine o_j 66 45 X0 a ?_
   refine o_ac 67 46 1 X0 a ?_
   refine o_aK 68 47 X0 a ?_
   generalize t:(q1-(1:Int64))=q2
   have I2:=o_dE eD hd I1 hr1 r t ⟨by decide,by decide⟩
   refine o_H 70 48 #[_,_,_,_,_,_,_,_,_] X0 a ?_
   refine o_w 51 49 X0 a ?_
   refine o_j 53 37 X0 a ?_
   refine o_ac 54 38 0 X0 a ?_
   refine o_3 55 39 X0 a ?_
   by_cases hr2:(lcmpW r2 (0:Int64))<(0:Int32)
   ·refine o_r 58 40 X0 a rfl ((if0 _ _).trans (tlt hr2).2.1) ?_
    refine o_j 60 41 X0 a ?_
    refine o_P 61 42 X0 a ?_
    refine o_4 62 43 X0 a ?_
    generalize u:(r2+dl)=r3
    refine o_H 64 44 #[_,_,_,_,_,_,_,_,_] X0 a ?_
    refine o_j 66 45 X0 a ?_
    refine o_ac 67 46 1 X0 a ?_
    refine o_aK 68 47 X0 a ?_
    generalize v:(q2-(1:Int64))=q3
    have I3:=o_dE eD hd I2 hr2 u v ⟨by decide,by decide⟩
    refine o_H 70 48 #[_,_,_,_,_,_,_,_,_] X0 a ?_
    refine o_w 51 49 X0 a ?_
    refine o_j 53 37 X0 a ?_
    refine o_ac 54 38 0 X0 a ?_
    refine o_3 55 39 X0 a ?_
    refine o_p 73 40 X0 a rfl ((if0 _ _).trans (flt (o_ey eD I3)).2.1) ?_
    refine o_j 75 50 X0 a ?_
    refine o_P 76 51 X0 a ?_
    refine o_3 77 52 X0 a ?_
    refine o_p 95 53 X0 a rfl ((if0 _ _).trans (tlt (o_cE eD I3)).1) ?_
    refine o_j 97 63 X0 a ?_
    refine o_B 99 64 32 X0 a ?_
    refine o_ay 100 65 X0 a ?_
    refine o_j 102 66 X0 a ?_
    refine o_y 105 214 67 X0 a ?_
    refine o_A 106 68 X0 a ?_
    refine o_a0 107 69 X0 a ?_
    exact o_a1 70 X0 a hret b (by rw[e0];exact ⟨_,rfl,N0,rfl,o_cF eD hd hN I3 (o_ey eD I3)⟩)
   ·refine o_p 73 40 X0 a rfl ((if0 _ _).trans (flt hr2).2.1) ?_
    refine o_j 75 50 X0 a ?_
    refine o_P 76 51 X0 a ?_
    refine o_3 77 52 X0 a ?_
    refine o_p 95 53 X0 a rfl ((if0 _ _).trans (tlt (o_cE eD I2)).1) ?_
    refine o_j 97 63 X0 a ?_
    refine o_B 99 64 32 X0 a ?_
    refine o_ay 100 65 X0 a ?_
    refine o_j 102 66 X0 a ?_
    refine o_y 105 214 67 X0 a ?_
    refine o_A 106 68 X0 a ?_
    refine o_a0 107 69 X0 a ?_
    exact o_a1 70 X0 a hret b (by rw[e0];exact ⟨_,rfl,N0,rfl,o_cF eD hd hN I2 hr2⟩)
  ·refine o_p 73 40 X0 a rfl ((if0 _ _).trans (flt hr1).2.1) ?_
   refine o_j 75 50 X0 a ?_
   refine o_P 76 51 X0 a ?_
   refine o_3 77 52 X0 a ?_
   refine o_p 95 53 X0 a rfl ((if0 _ _).trans (tlt (o_cE eD I1)).1) ?_
   refine o_j 97 63 X0 a ?_
   refine o_B 99 64 32 X0 a ?_
   refine o_ay 100 65 X0 a ?_
   refine o_j 102 66 X0 a ?_
   refine o_y 105 214 67 X0 a ?_
   refine o_A 106 68 X0 a ?_
   refine o_a0 107 69 X0 a ?_
   exact o_a1 70 X0 a hret b (by rw[e0];exact ⟨_,rfl,N0,rfl,o_cF eD hd hN I1 hr1⟩)
 ·refine o_p 73 40 X0 a rfl ((if0 _ _).trans (flt hr0).2.1) ?_
  refine o_j 75 50 X0 a ?_
  refine o_P 76 51 X0 a ?_
  refine o_3 77 52 X0 a ?_
  refine o_p 95 53 X0 a rfl ((if0 _ _).trans (tlt (o_cE eD I0)).1) ?_
  refine o_j 97 63 X0 a ?_
  refine o_B 99 64 32 X0 a ?_
  refine o_ay 100 65 X0 a ?_
  refine o_j 102 66 X0 a ?_
  refine o_y 105 214 67 X0 a ?_
  refine o_A 106 68 X0 a ?_
  refine o_a0 107 69 X0 a ?_
  exact o_a1 70 X0 a hret b (by rw[e0];exact ⟨_,rfl,N0,rfl,o_cF eD hd hN I0 hr0⟩)
def o_no (Z:State)(mb:Addr)(h0:Heap)(n0:Nat)(v:Option Value)(h:Heap)(L:List Loc):Prop:=v=none∧Fr n0 L∧Keep h0 h [mb]∧ ∃(a:Addr) (k:ClassId),n0≤a∧h0.size≤a∧Exa Z h mb "java/math/MutableBigInteger"∧Fld Z h mb "java/math/MutableBigInteger" "offset" "I" (.int (0:Int32))∧Fld Z h mb "java/math/MutableBigInteger" "value" "[I" (.ref a)∧Fld Z h mb "java/math/MutableBigInteger" "intLen" "I" (.int (0:Int32))∧Arv Z h a k .int (1:Int32) [(.int (0:Int32))] (.int (0:Int32))∧Exa Z h a "[I"
theorem o_dk (l:Launch)(Z:State)(a0:Array Value)(hw: ∀d∈tables_1,d.before a0 Z=true)(ws:List Jvm.Cond)(mb:Addr)(h0:Heap)(n0:Nat)(Z0:n0≤h0.size)(OL:Old Z n0 h0)(x:n0≤mb)(a:Exa Z h0 mb "java/math/MutableBigInteger")(f:Fld Z h0 mb "java/math/MutableBigInteger" "offset" "I" (.int (0:Int32)))(h:Fld Z h0 mb "java/math/MutableBigInteger" "value" "[I" .null)(j:Fld Z h0 mb "java/math/MutableBigInteger" "intLen" "I" (.int (0:Int32))):
  o_q l (⟨"java/math/MutableBigInteger","<init>","()V"⟩:MethodName) (Jvm.Cond.code (⟨"java/math/MutableBigInteger","<init>","()V"⟩:MethodName) jdk_2101_method_1_code 1 none::ws) ({frames:=1,cells:=1,slots:=1,locals:=12}:Room) #[(.ref mb)] Z h0 (o_no Z mb h0 n0):=by
 refine o_u (plainFor_of_name o_ag) (fun m=>o_lH m mb) fun p e s m am ao c s₁ hx B O C (E:s.vm.findClass "java/math/MutableBigInteger"=some m.cls) hnm hret X0 hZ e0=> ?_
 have D:=o_S B o_fC
 have b:=o_t hx B o_fC E hZ C hw
 have N0:=Fr.nil n0
 have KP:Keep h0 h0 [mb]:=Keep.refl _ _
 refine o_c 1 0 X0 b ?_
 obtain ⟨aq,y,P,Q⟩:=initO X0 hx hZ E (o_b hw 108 rfl) (o_b hw 84 rfl) (o_b hw 85 rfl) e0 (g:=(mkF m 1 #[rv mb] [(.ref mb)])) rfl (by rw[C];rfl) rfl (D 1 rfl) (by decide) (W:=0) (by show 2*0+_≤_;exact Nat.le_of_eq rfl) (by decide)
 refine o_i (mkF m 4 #[rv mb] []) Q ?_
 refine o_c 5 2 y b ?_
 refine o_g 6 3 0 y b ?_
 refine o_R 9 4 109 102 y b P f a (Or.inl (o_b hw 110 rfl)) (ty:= .int) fun au F w R q=> ?_
 have S:=Fr.snoc w N0 x
 have T:Fld Z F mb "java/math/MutableBigInteger" "offset" "I" (.int (0:Int32)):=f.same q
 have KP:=KP.wr q (Or.inl (List.mem_of_getElem? (i:=0) rfl))
 have a:=a.wr q
 have h:=h.other q (Or.inr (slot_ne (Or.inl (o_b hw 112 rfl)) (Or.inl (o_b hw 110 rfl)) (by decide) (t:=(.array .int)) (t':= .int) (by decide) (by decide)))
 have j:=j.other q (Or.inr (slot_ne (Or.inl (o_b hw 114 rfl)) (Or.inl (o_b hw 110 rfl)) (by decide) (t:= .int) (t':= .int) (by decide) (by decide)))
 have f:=T
 refine o_c 10 5 w b ?_
 refine o_g 11 6 1 w b ?_
 obtain ⟨av,G,H,U,V,r,I,J,K⟩:=newPE w hx hZ (o_b hw 52 rfl) R (g:=(mkF m 11 #[rv mb] [(.int (1:Int32)),(.ref mb)])) rfl (D 7 rfl) rfl (by decide) (cap:=1) (by decide) (by decide) (by decide) (by decide) (ad:="[I") (by decide)
 obtain ⟨k,A⟩: ∃z,z=F.size:=⟨_,rfl⟩
 rw[←A] at I J K
 have L:h0.size≤k:=Nat.le_trans KP.1 (Nat.le_of_eq A.symm)
 have X:n0≤k:=Nat.le_trans Z0 L
 have M:mb≠k:=Nat.ne_of_lt (Nat.lt_of_lt_of_le a.lt (Nat.le_of_eq A.symm))
 have KP:=KP.ext r
 have a:=a.ext r
 have f:=f.ext r
 have h:=h.ext r
 have j:=j.ext r
 have u:Exa Z G k "[I":=J
 have v:Arv Z G k H .int (1:Int32) [(.int (0:Int32))] (.int (0:Int32)):=(Arv.new I (by decide)).pad (pad_rep [] (.int (0:Int32)) 1)
 refine o_i (mkF m 13 #[rv mb] [(.ref k),(.ref mb)]) K ?_
 refine o_R 16 8 111 102 U b V h a (Or.inl (o_b hw 112 rfl)) (ty:=(.array .int)) fun T175 Y X175 ae n=> ?_
 have af:=Fr.snoc X175 S x
 have ag:Fld Z Y mb "java/math/MutableBigInteger" "value" "[I" (.ref k):=h.same n
 have KP:=KP.wr n (Or.inl (List.mem_of_getElem? (i:=0) rfl))
 have a:=a.wr n
 have f:=f.other n (Or.inr (slot_ne (Or.inl (o_b hw 110 rfl)) (Or.inl (o_b hw 112 rfl)) (by decide) (t:= .int) (t':=(.array .int)) (by decide) (by decide)))
 have j:=j.other n (Or.inr (slot_ne (Or.inl (o_b hw 114 rfl)) (Or.inl (o_b hw 112 rfl)) (by decide) (t:= .int) (t':=(.array .int)) (by decide) (by decide)))
 have u:=u.wr n
 have v:=v.other n (Ne.symm M)
 have h:=ag
 refine o_c 17 9 X175 b ?_
 refine o_g 18 10 0 X175 b ?_
 refine o_R 21 11 113 102 X175 b ae j a (Or.inl (o_b hw 114 rfl)) (ty:= .int) fun aw ah N ai o=> ?_
 have aj:=Fr.snoc N af x
 have ak:Fld Z ah mb "java/math/MutableBigInteger" "intLen" "I" (.int (0:Int32)):=j.same o
 have KP:=KP.wr o (Or.inl (List.mem_of_getElem? (i:=0) rfl))
 have a:=a.wr o
 have f:=f.other o (Or.inr (slot_ne (Or.inl (o_b hw 110 rfl)) (Or.inl (o_b hw 114 rfl)) (by decide) (t:= .int) (t':= .int) (by decide) (by decide)))
 have h:=h.other o (Or.inr (slot_ne (Or.inl (o_b hw 112 rfl)) (Or.inl (o_b hw 114 rfl)) (by decide) (t:=(.array .int)) (t':= .int) (by decide) (by decide)))
 have u:=u.wr o
 have v:=v.other o (Ne.symm M)
 have j:=ak
 exact o_al 12 N b hret O (by rw[ai];exact ⟨rfl,aj,KP,k,H,X,L,a,f,h,j,v,u⟩)
def o_np (Z:State)(mb a:Addr)(zz:Int32)(h0:Heap)(n0:Nat)(v:Option Value)(h:Heap)(L:List Loc):Prop:=v=none∧Fr n0 L∧Keep h0 h [mb]∧Exa Z h mb "java/math/MutableBigInteger"∧Fld Z h mb "java/math/MutableBigInteger" "offset" "I" (.int (0:Int32))∧Fld Z h mb "java/math/MutableBigInteger" "value" "[I" (.ref a)∧Fld Z h mb "java/math/MutableBigInteger" "intLen" "I" (.int zz)
theorem o_dl (l:Launch)(Z:State)(a0:Array Value)(hw: ∀d∈tables_1,d.before a0 Z=true)(ws:List Jvm.Cond)(mb a:Addr)(zz:Int32)(h0:Heap)(n0:Nat)(Z0:n0≤h0.size)(S:Old Z n0 h0)(w:n0≤mb)(f:Exa Z h0 mb "java/math/MutableBigInteger")(h:Fld Z h0 mb "java/math/MutableBigInteger" "offset" "I" (.int (0:Int32)))(j:Fld Z h0 mb "java/math/MutableBigInteger" "value" "[I" .null)(k:Fld Z h0 mb "java/math/MutableBigInteger" "intLen" "I" (.int (0:Int32)))(ka:ClassId)(vs:List Value)(y:a≠mb)(q:Arv Z h0 a ka .int zz vs (.int (0:Int32))):
  o_q l (⟨"java/math/MutableBigInteger","<init>","([I)V"⟩:MethodName) (Jvm.Cond.code (⟨"java/math/MutableBigInteger","<init>","([I)V"⟩:MethodName) jdk_2101_method_3_code 2 none::ws) ({frames:=1,cells:=0,slots:=0,locals:=12}:Room) #[(.ref mb),(.ref a)] Z h0 (o_np Z mb a zz h0 n0):=by
 refine o_u (plainFor_of_name o_ag) (fun m=>o_lI m mb a) fun p e s m T U c s₁ hx z E A (B:s.vm.findClass "java/math/MutableBigInteger"=some m.cls) hnm hret X0 hZ e0=> ?_
 have D:=o_S z o_fD
 have b:=o_t hx z o_fD B hZ A hw
 have N0:=Fr.nil n0
 have KP:Keep h0 h0 [mb]:=Keep.refl _ _
 refine o_c 1 0 X0 b ?_
 obtain ⟨V,x,F,G⟩:=initO X0 hx hZ B (o_b hw 108 rfl) (o_b hw 84 rfl) (o_b hw 85 rfl) e0 (g:=(mkF m 1 #[rv mb,rv a] [(.ref mb)])) rfl (by rw[A];rfl) rfl (D 1 rfl) (by decide) (W:=0) (by show 2*0+_≤_;exact Nat.le_of_eq rfl) (by decide)
 refine o_i (mkF m 4 #[rv mb,rv a] []) G ?_
 refine o_c 5 2 x b ?_
 refine o_g 6 3 0 x b ?_
 refine o_R 9 4 109 102 x b F h f (Or.inl (o_b hw 110 rfl)) (ty:= .int) fun X H v I n=> ?_
 have J:=Fr.snoc v N0 w
 have K:Fld Z H mb "java/math/MutableBigInteger" "offset" "I" (.int (0:Int32)):=h.same n
 have KP:=KP.wr n (Or.inl (List.mem_of_getElem? (i:=0) rfl))
 have f:=f.wr n
 have j:=j.other n (Or.inr (slot_ne (Or.inl (o_b hw 112 rfl)) (Or.inl (o_b hw 110 rfl)) (by decide) (t:=(.array .int)) (t':= .int) (by decide) (by decide)))
 have k:=k.other n (Or.inr (slot_ne (Or.inl (o_b hw 114 rfl)) (Or.inl (o_b hw 110 rfl)) (by decide) (t:= .int) (t':= .int) (by decide) (by decide)))
 have q:=q.other n y
 have h:=K
 refine o_c 10 5 v b ?_
 refine o_c 11 6 v b ?_
 refine o_R 14 7 111 102 v b I j f (Or.inl (o_b hw 112 rfl)) (ty:=(.array .int)) fun Y L r C o=> ?_
 have M:=Fr.snoc r J w
 have N:Fld Z L mb "java/math/MutableBigInteger" "value" "[I" (.ref a):=j.same o
 have KP:=KP.wr o (Or.inl (List.mem_of_getElem? (i:=0) rfl))
 have f:=f.wr o
 have h:=h.other o (Or.inr (slot_ne (Or.inl (o_b hw 110 rfl)) (Or.inl (o_b hw 112 rfl)) (by decide) (t:= .int) (t':=(.array .int)) (by decide) (by decide)))
 have k:=k.other o (Or.inr (slot_ne (Or.inl (o_b hw 114 rfl)) (Or.inl (o_b hw 112 rfl)) (by decide) (t:= .int) (t':=(.array .int)) (by decide) (by decide)))
 have q:=q.other o y
 have j:=N
 refine o_c 15 8 r b ?_
 refine o_c 16 9 r b ?_
 refine o_C 17 10 r b C q ?_
 refine o_R 20 11 113 102 r b C k f (Or.inl (o_b hw 114 rfl)) (ty:= .int) fun T180 O X180 P u=> ?_
 have Q:=Fr.snoc X180 M w
 have R:Fld Z O mb "java/math/MutableBigInteger" "intLen" "I" (.int zz):=k.same u
 have KP:=KP.wr u (Or.inl (List.mem_of_getElem? (i:=0) rfl))
 have f:=f.wr u
 have h:=h.other u (Or.inr (slot_ne (Or.inl (o_b hw 110 rfl)) (Or.inl (o_b hw 114 rfl)) (by decide) (t:= .int) (t':= .int) (by decide) (by decide)))
 have j:=j.other u (Or.inr (slot_ne (Or.inl (o_b hw 112 rfl)) (Or.inl (o_b hw 114 rfl)) (by decide) (t:=(.array .int)) (t':= .int) (by decide) (by decide)))
 have k:=R
 exact o_al 12 X180 b hret E (by rw[P];exact ⟨rfl,Q,KP,f,h,j,k⟩)
def o_nq (Z:State)(mb:Addr)(y:Int32)(h0:Heap)(n0:Nat)(v:Option Value)(h:Heap)(L:List Loc):Prop:=v=none∧Fr n0 L∧Keep h0 h [mb]∧ ∃(a:Addr) (k:ClassId),n0≤a∧h0.size≤a∧Exa Z h mb "java/math/MutableBigInteger"∧Fld Z h mb "java/math/MutableBigInteger" "offset" "I" (.int (0:Int32))∧Fld Z h mb "java/math/MutableBigInteger" "value" "[I" (.ref a)∧Fld Z h mb "java/math/MutableBigInteger" "intLen" "I" (.int (1:Int32))∧Arv Z h a k .int (1:Int32) [(.int y)] (.int (0:Int32))∧Exa Z h a "[I"
theorem o_gb (l:Launch)(Z:State)(a0:Array Value)(hw: ∀d∈tables_1,d.before a0 Z=true)(ws:List Jvm.Cond)(mb:Addr)(y:Int32)(h0:Heap)(n0:Nat)(Z0:n0≤h0.size)(OL:Old Z n0 h0)(B:n0≤mb)(b:Exa Z h0 mb "java/math/MutableBigInteger")(h:Fld Z h0 mb "java/math/MutableBigInteger" "offset" "I" (.int (0:Int32)))(f:Fld Z h0 mb "java/math/MutableBigInteger" "value" "[I" .null)(j:Fld Z h0 mb "java/math/MutableBigInteger" "intLen" "I" (.int (0:Int32))):
  o_q l (⟨"java/math/MutableBigInteger","<init>","(I)V"⟩:MethodName) (Jvm.Cond.code (⟨"java/math/MutableBigInteger","<init>","(I)V"⟩:MethodName) jdk_2101_method_2_code 2 none::ws) ({frames:=1,cells:=1,slots:=1,locals:=12}:Room) #[(.ref mb),(.int y)] Z h0 (o_nq Z mb y h0 n0):=by
 refine o_u (plainFor_of_name o_ag) (fun m=>o_lJ m mb y) fun p e s m aA aB c s₁ hx J S K (L:s.vm.findClass "java/math/MutableBigInteger"=some m.cls) hnm hret X0 hZ e0=> ?_
 have D:=o_S J o_fE
 have a:=o_t hx J o_fE L hZ K hw
 have N0:=Fr.nil n0
 have KP:Keep h0 h0 [mb]:=Keep.refl _ _
 refine o_c 1 0 X0 a ?_
 obtain ⟨aC,C,T,U⟩:=initO X0 hx hZ L (o_b hw 108 rfl) (o_b hw 84 rfl) (o_b hw 85 rfl) e0 (g:=(mkF m 1 #[rv mb,iv y] [(.ref mb)])) rfl (by rw[K];rfl) rfl (D 1 rfl) (by decide) (W:=0) (by show 2*0+_≤_;exact Nat.le_of_eq rfl) (by decide)
 refine o_i (mkF m 4 #[rv mb,iv y] []) U ?_
 refine o_c 5 2 C a ?_
 refine o_g 6 3 0 C a ?_
 refine o_R 9 4 109 102 C a T h b (Or.inl (o_b hw 110 rfl)) (ty:= .int) fun aD M A V v=> ?_
 have X:=Fr.snoc A N0 B
 have Y:Fld Z M mb "java/math/MutableBigInteger" "offset" "I" (.int (0:Int32)):=h.same v
 have KP:=KP.wr v (Or.inl (List.mem_of_getElem? (i:=0) rfl))
 have b:=b.wr v
 have f:=f.other v (Or.inr (slot_ne (Or.inl (o_b hw 112 rfl)) (Or.inl (o_b hw 110 rfl)) (by decide) (t:=(.array .int)) (t':= .int) (by decide) (by decide)))
 have j:=j.other v (Or.inr (slot_ne (Or.inl (o_b hw 114 rfl)) (Or.inl (o_b hw 110 rfl)) (by decide) (t:= .int) (t':= .int) (by decide) (by decide)))
 have h:=Y
 refine o_c 10 5 A a ?_
 refine o_g 11 6 1 A a ?_
 obtain ⟨aE,N,E,ae,af,w,O,P,Q⟩:=newPE A hx hZ (o_b hw 52 rfl) V (g:=(mkF m 11 #[rv mb,iv y] [(.int (1:Int32)),(.ref mb)])) rfl (D 7 rfl) rfl (by decide) (cap:=1) (by decide) (by decide) (by decide) (by decide) (ad:="[I") (by decide)
 obtain ⟨k,F⟩: ∃z,z=M.size:=⟨_,rfl⟩
 rw[←F] at O P Q
 have G:h0.size≤k:=Nat.le_trans KP.1 (Nat.le_of_eq F.symm)
 have R:n0≤k:=Nat.le_trans Z0 G
 have x:mb≠k:=Nat.ne_of_lt (Nat.lt_of_lt_of_le b.lt (Nat.le_of_eq F.symm))
 have KP:=KP.ext w
 have b:=b.ext w
 have h:=h.ext w
 have f:=f.ext w
 have j:=j.ext w
 have n:Exa Z N k "[I":=P
 have o:Arv Z N k E .int (1:Int32) [(.int (0:Int32))] (.int (0:Int32)):=(Arv.new O (by decide)).pad (pad_rep [] (.int (0:Int32)) 1)
 refine o_i (mkF m 13 #[rv mb,iv y] [(.ref k),(.ref mb)]) Q ?_
 refine o_R 16 8 111 102 ae a af f b (Or.inl (o_b hw 112 rfl)) (ty:=(.array .int)) fun T184 ag X184 ah q=> ?_
 have ai:=Fr.snoc X184 X B
 have aj:Fld Z ag mb "java/math/MutableBigInteger" "value" "[I" (.ref k):=f.same q
 have KP:=KP.wr q (Or.inl (List.mem_of_getElem? (i:=0) rfl))
 have b:=b.wr q
 have h:=h.other q (Or.inr (slot_ne (Or.inl (o_b hw 110 rfl)) (Or.inl (o_b hw 112 rfl)) (by decide) (t:= .int) (t':=(.array .int)) (by decide) (by decide)))
 have j:=j.other q (Or.inr (slot_ne (Or.inl (o_b hw 114 rfl)) (Or.inl (o_b hw 112 rfl)) (by decide) (t:= .int) (t':=(.array .int)) (by decide) (by decide)))
 have n:=n.wr q
 have o:=o.other q (Ne.symm x)
 have f:=aj
 refine o_c 17 9 X184 a ?_
 refine o_g 18 10 1 X184 a ?_
 refine o_R 21 11 113 102 X184 a ah j b (Or.inl (o_b hw 114 rfl)) (ty:= .int) fun aF ak H al r=> ?_
 have am:=Fr.snoc H ai B
 have ao:Fld Z ak mb "java/math/MutableBigInteger" "intLen" "I" (.int (1:Int32)):=j.same r
 have KP:=KP.wr r (Or.inl (List.mem_of_getElem? (i:=0) rfl))
 have b:=b.wr r
 have h:=h.other r (Or.inr (slot_ne (Or.inl (o_b hw 110 rfl)) (Or.inl (o_b hw 114 rfl)) (by decide) (t:= .int) (t':= .int) (by decide) (by decide)))
 have f:=f.other r (Or.inr (slot_ne (Or.inl (o_b hw 112 rfl)) (Or.inl (o_b hw 114 rfl)) (by decide) (t:=(.array .int)) (t':= .int) (by decide) (by decide)))
 have n:=n.wr r
 have o:=o.other r (Ne.symm x)
 have j:=ao
 refine o_c 22 12 H a ?_
 refine o_h 25 13 111 H a al f fun aG I aq=> ?_
 refine o_g 26 14 0 I a ?_
 refine o_e 27 15 I a ?_
 refine o_8 28 0 16 I a aq o fun T187 au X187 av u aw=> ?_
 have ax:=Fr.snoc X187 am R
 have KP:=KP.wr u (Or.inr G)
 have b:=b.wr u
 have h:=h.other u (Or.inl x)
 have f:=f.other u (Or.inl x)
 have j:=j.other u (Or.inl x)
 have n:=n.wr u
 have o:Arv Z au k E .int (1:Int32) [(.int y)] (.int (0:Int32)):=aw
 exact o_al 17 X187 a hret S (by rw[av];exact ⟨rfl,ax,KP,k,E,R,G,b,h,f,j,o,n⟩)
def o_nr (Z:State)(a:Addr)(ka:ClassId)(u0:Int32)(h0:Heap)(n0:Nat)(v:Option Value)(h:Heap)(L:List Loc):Prop:= ∃(b:Addr) (kb:ClassId),v=some (.ref b)∧Fr n0 L∧Keep h0 h []∧n0≤b∧h0.size≤b∧Arv Z h b kb .int (1:Int32) [(.int u0)] (.int (0:Int32))∧Exa Z h b "[I"
theorem o_ns (l:Launch)(Z:State)(a0:Array Value)(hw: ∀d∈tables_1,d.before a0 Z=true)(ws:List Jvm.Cond)(a:Addr)(ka:ClassId)(u0:Int32)(h0:Heap)(n0:Nat)(Z0:n0≤h0.size)(I:Old Z n0 h0)(i:Arv Z h0 a ka .int (1:Int32) [(.int u0)] (.int (0:Int32)))(w:Exa Z h0 a "[I"):
  o_q l (⟨"java/util/Arrays","copyOfRange","([III)[I"⟩:MethodName) (Jvm.Cond.code (⟨"java/util/Arrays","copyOfRange","([III)[I"⟩:MethodName) jdk_65_method_136_code 3 (some (.array .int))::ws) ({frames:=1,cells:=1,slots:=1,locals:=30}:Room) #[(.ref a),(.int (0:Int32)),(.int (1:Int32))] Z h0 (o_nr Z a ka u0 h0 n0):=by
 refine o_u (plainFor_of_name o_aW) (fun m=>o_lK m a (0:Int32) (1:Int32)) fun p e s m J K c s₁ hx j x k (h:s.vm.findClass "java/util/Arrays"=some m.cls) hnm hret X0 hZ e0=> ?_
 have D:=o_S j o_bx
 have b:=o_t hx j o_bx h hZ k hw
 have N0:=Fr.nil n0
 have KP:Keep h0 h0 []:=Keep.refl _ _
 refine o_e 1 0 X0 b ?_
 refine o_r 4 1 X0 b rfl ((if0 _ _).trans (teq (by decide:(0:Int32)=(0:Int32))).2) ?_
 refine o_e 5 2 X0 b ?_
 refine o_c 6 3 X0 b ?_
 refine o_C 7 4 X0 b e0 i ?_
 refine o_z 17 5 X0 b rfl (teq (by decide:(1:Int32)=(1:Int32))).1 ?_
 refine o_c 18 11 X0 b ?_
 obtain ⟨L,n,y,A,B,o,q,r⟩:=cloneH X0 hx hZ h (o_b hw 138 rfl) (o_b hw 139 rfl) (o_b hw 143 rfl) (o_b hw 141 rfl) (o_b hw 142 rfl) (o_b hw 144 rfl) e0 (Arv.arh i) w (g:=(mkF m 18 #[rv a,iv 0,iv 1] [(.ref a)])) rfl (by rw[k];rfl) rfl (D 12 rfl) (by decide) (W:=0) (by show 2*0+_≤_;exact Nat.le_of_eq rfl) (by decide) (cap:=1) (by decide) (by decide) (by decide)
 obtain ⟨f,t⟩: ∃z,z=h0.size:=⟨_,rfl⟩
 rw[←t] at o q r
 have u:h0.size≤f:=Nat.le_trans KP.1 (Nat.le_of_eq t.symm)
 have C:n0≤f:=Nat.le_trans Z0 u
 have KP:=KP.ext B
 have E:Arv Z n f ka .int (1:Int32) [(.int u0)] (.int (0:Int32)):=o
 have v:Exa Z n f "[I":=q
 refine o_i (mkF m 21 #[rv a,iv 0,iv 1] [(.ref f)]) r ?_
 obtain ⟨M,F,G,H⟩:=castY y hx hZ h (o_b hw 145 rfl) A (Ins.self v) (g:=(mkF m 21 #[rv a,iv 0,iv 1] [(.ref f)])) rfl rfl (D 13 rfl)
 refine o_i (mkF m 24 #[rv a,iv 0,iv 1] [(.ref f)]) H ?_
 exact o_K 14 F b hret x (by rw[G];exact ⟨f,ka,rfl,N0,KP,C,u,E,v⟩)
def o_nt (Z:State)(mb sr a:Addr)(ka:ClassId)(u0:Int32)(h0:Heap)(n0:Nat)(v:Option Value)(h:Heap)(L:List Loc):Prop:=v=none∧Fr n0 L∧Keep h0 h [mb]∧ ∃(b:Addr) (kb:ClassId),n0≤b∧h0.size≤b∧Exa Z h mb "java/math/MutableBigInteger"∧Fld Z h mb "java/math/MutableBigInteger" "offset" "I" (.int (0:Int32))∧Fld Z h mb "java/math/MutableBigInteger" "value" "[I" (.ref b)∧Fld Z h mb "java/math/MutableBigInteger" "intLen" "I" (.int (1:Int32))∧Arv Z h b kb .int (1:Int32) [(.int u0)] (.int (0:Int32))∧Exa Z h b "[I"
theorem o_nu (l:Launch)(Z:State)(a0:Array Value)(hw: ∀d∈tables_1,d.before a0 Z=true)(ws:List Jvm.Cond)(mb sr a:Addr)(ka:ClassId)(u0:Int32)(h0:Heap)(n0:Nat)(Z0:n0≤h0.size)(u:Old Z n0 h0)(v:n0≤mb)(f:Exa Z h0 mb "java/math/MutableBigInteger")(k:Fld Z h0 mb "java/math/MutableBigInteger" "offset" "I" (.int (0:Int32)))(n:Fld Z h0 mb "java/math/MutableBigInteger" "value" "[I" .null)(h:Fld Z h0 mb "java/math/MutableBigInteger" "intLen" "I" (.int (0:Int32)))(aH:Exa Z h0 sr "java/math/MutableBigInteger")(r:Fld Z h0 sr "java/math/MutableBigInteger" "offset" "I" (.int (0:Int32)))(w:Fld Z h0 sr "java/math/MutableBigInteger" "value" "[I" (.ref a))(E:Fld Z h0 sr "java/math/MutableBigInteger" "intLen" "I" (.int (1:Int32)))(x:sr≠mb)(I:a≠mb)(y:Arv Z h0 a ka .int (1:Int32) [(.int u0)] (.int (0:Int32)))(A:Exa Z h0 a "[I"):
  o_q l (⟨"java/math/MutableBigInteger","<init>","(Ljava/math/MutableBigInteger;)V"⟩:MethodName) (Jvm.Cond.code (⟨"java/math/MutableBigInteger","<init>","(Ljava/math/MutableBigInteger;)V"⟩:MethodName) jdk_2101_method_5_code 2 none::ws) ({frames:=2,cells:=1,slots:=1,locals:=48}:Room) #[(.ref mb),(.ref sr)] Z h0 (o_nt Z mb sr a ka u0 h0 n0):=by
 refine o_u (plainFor_of_name o_ag) (fun m=>o_lL m mb sr) fun p e s m aI aJ c s₁ hx J T K (L:s.vm.findClass "java/math/MutableBigInteger"=some m.cls) hnm hret X0 hZ e0=> ?_
 have D:=o_S J o_c1
 have b:=o_t hx J o_c1 L hZ K hw
 have N0:=Fr.nil n0
 have KP:Keep h0 h0 [mb]:=Keep.refl _ _
 refine o_c 1 0 X0 b ?_
 obtain ⟨aK,F,U,V⟩:=initO X0 hx hZ L (o_b hw 108 rfl) (o_b hw 84 rfl) (o_b hw 85 rfl) e0 (g:=(mkF m 1 #[rv mb,rv sr] [(.ref mb)])) rfl (by rw[K];rfl) rfl (D 1 rfl) (by decide) (W:=0) (by show 2*0+_≤_;exact Nat.le_of_eq rfl) (by decide)
 refine o_i (mkF m 4 #[rv mb,rv sr] []) V ?_
 refine o_c 5 2 F b ?_
 refine o_g 6 3 0 F b ?_
 refine o_R 9 4 109 102 F b U k f (Or.inl (o_b hw 110 rfl)) (ty:= .int) fun T191 X X191 Y j=> ?_
 have ad:=Fr.snoc X191 N0 v
 have ae:Fld Z X mb "java/math/MutableBigInteger" "offset" "I" (.int (0:Int32)):=k.same j
 have u:=u.wr j v
 have KP:=KP.wr j (Or.inl (List.mem_of_getElem? (i:=0) rfl))
 have f:=f.wr j
 have n:=n.other j (Or.inr (slot_ne (Or.inl (o_b hw 112 rfl)) (Or.inl (o_b hw 110 rfl)) (by decide) (t:=(.array .int)) (t':= .int) (by decide) (by decide)))
 have h:=h.other j (Or.inr (slot_ne (Or.inl (o_b hw 114 rfl)) (Or.inl (o_b hw 110 rfl)) (by decide) (t:= .int) (t':= .int) (by decide) (by decide)))
 have r:=r.other j (Or.inl x)
 have w:=w.other j (Or.inl x)
 have E:=E.other j (Or.inl x)
 have y:=y.other j I
 have A:=A.wr j
 have k:=ae
 refine o_c 10 5 X191 b ?_
 refine o_c 11 6 X191 b ?_
 refine o_h 14 7 113 X191 b Y E fun aL af ag=> ?_
 refine o_R 17 8 113 102 af b ag h f (Or.inl (o_b hw 114 rfl)) (ty:= .int) fun aM M C ah o=> ?_
 have ai:=Fr.snoc C ad v
 have aj:Fld Z M mb "java/math/MutableBigInteger" "intLen" "I" (.int (1:Int32)):=h.same o
 have u:=u.wr o v
 have KP:=KP.wr o (Or.inl (List.mem_of_getElem? (i:=0) rfl))
 have f:=f.wr o
 have k:=k.other o (Or.inr (slot_ne (Or.inl (o_b hw 110 rfl)) (Or.inl (o_b hw 114 rfl)) (by decide) (t:= .int) (t':= .int) (by decide) (by decide)))
 have n:=n.other o (Or.inr (slot_ne (Or.inl (o_b hw 112 rfl)) (Or.inl (o_b hw 114 rfl)) (by decide) (t:=(.array .int)) (t':= .int) (by decide) (by decide)))
 have r:=r.other o (Or.inl x)
 have w:=w.other o (Or.inl x)
 have y:=y.other o I
 have A:=A.wr o
 have h:=aj
 refine o_c 18 9 C b ?_
 refine o_c 19 10 C b ?_
 refine o_h 22 11 111 C b ah w fun aN N ak=> ?_
 refine o_c 23 12 N b ?_
 refine o_h 26 13 109 N b ak r fun aO O al=> ?_
 refine o_c 27 14 O b ?_
 refine o_h 30 15 109 O b al r fun aP P am=> ?_
 refine o_c 31 16 P b ?_
 refine o_h 34 17 113 P b am h fun aQ Q ao=> ?_
 refine o_v 35 18 Q b (z:=(1:Int32)) ?_
 have aq:=KP
 have au:=f.lt
 refine o_F 38 3 1 1 1 19 137 55 56 57 Q b (o_ns l Z a0 hw [] a ka u0 M n0 (Nat.le_trans Z0 KP.1) u y A) o_bf ao fun _ T198 aR X198 av=> ?_
 obtain ⟨bb,aw,rfl,ax,B,ay,R,G,H⟩:=av
 have aA:=Fr.app ai ax
 have KP:=KP.trans B all0
 have f:=f.keep B
 have k:=k.keep B nin0
 have n:=n.keep B nin0
 have h:=h.keep B nin0
 refine o_k [_,_] ?_
 have aB:h0.size≤bb:=Nat.le_trans aq.1 R
 have aC:mb≠bb:=Nat.ne_of_lt (Nat.lt_of_lt_of_le au R)
 refine o_R 41 20 111 102 X198 b rfl n f (Or.inl (o_b hw 112 rfl)) (ty:=(.array .int)) fun aS aD S aE q=> ?_
 have aF:=Fr.snoc S aA v
 have aG:Fld Z aD mb "java/math/MutableBigInteger" "value" "[I" (.ref bb):=n.same q
 have KP:=KP.wr q (Or.inl (List.mem_of_getElem? (i:=0) rfl))
 have f:=f.wr q
 have k:=k.other q (Or.inr (slot_ne (Or.inl (o_b hw 110 rfl)) (Or.inl (o_b hw 112 rfl)) (by decide) (t:= .int) (t':=(.array .int)) (by decide) (by decide)))
 have h:=h.other q (Or.inr (slot_ne (Or.inl (o_b hw 114 rfl)) (Or.inl (o_b hw 112 rfl)) (by decide) (t:= .int) (t':=(.array .int)) (by decide) (by decide)))
 have G:=G.other q (Ne.symm aC)
 have H:=H.wr q
 have n:=aG
 exact o_al 21 S b hret T (by rw[aE];exact ⟨rfl,aF,KP,bb,aw,ay,aB,f,k,n,h,G,H⟩)
def o_nv (Z:State)(a:Addr)(ka:ClassId)(u0 u1:Int32)(h0:Heap)(n0:Nat)(v:Option Value)(h:Heap)(L:List Loc):Prop:= ∃(b:Addr) (kb:ClassId),v=some (.ref b)∧Fr n0 L∧Keep h0 h []∧n0≤b∧h0.size≤b∧Arv Z h b kb .int (2:Int32) [(.int u0),(.int u1)] (.int (0:Int32))∧Exa Z h b "[I"
theorem o_nw (l:Launch)(Z:State)(a0:Array Value)(hw: ∀d∈tables_1,d.before a0 Z=true)(ws:List Jvm.Cond)(a:Addr)(ka:ClassId)(u0 u1:Int32)(h0:Heap)(n0:Nat)(Z0:n0≤h0.size)(H:Old Z n0 h0)(i:Arv Z h0 a ka .int (2:Int32) [(.int u0),(.int u1)] (.int (0:Int32)))(w:Exa Z h0 a "[I"):
  o_q l (⟨"java/util/Arrays","copyOfRange","([III)[I"⟩:MethodName) (Jvm.Cond.code (⟨"java/util/Arrays","copyOfRange","([III)[I"⟩:MethodName) jdk_65_method_136_code 3 (some (.array .int))::ws) ({frames:=1,cells:=1,slots:=2,locals:=30}:Room) #[(.ref a),(.int (0:Int32)),(.int (2:Int32))] Z h0 (o_nv Z a ka u0 u1 h0 n0):=by
 refine o_u (plainFor_of_name o_aW) (fun m=>o_lM m a (0:Int32) (2:Int32)) fun p e s m I J c s₁ hx j x k (h:s.vm.findClass "java/util/Arrays"=some m.cls) hnm hret X0 hZ e0=> ?_
 have D:=o_S j o_bx
 have b:=o_t hx j o_bx h hZ k hw
 have N0:=Fr.nil n0
 have KP:Keep h0 h0 []:=Keep.refl _ _
 refine o_e 1 0 X0 b ?_
 refine o_r 4 1 X0 b rfl ((if0 _ _).trans (teq (by decide:(0:Int32)=(0:Int32))).2) ?_
 refine o_e 5 2 X0 b ?_
 refine o_c 6 3 X0 b ?_
 refine o_C 7 4 X0 b e0 i ?_
 refine o_z 17 5 X0 b rfl (teq (by decide:(2:Int32)=(2:Int32))).1 ?_
 refine o_c 18 11 X0 b ?_
 obtain ⟨K,n,y,A,B,o,q,r⟩:=cloneH X0 hx hZ h (o_b hw 138 rfl) (o_b hw 139 rfl) (o_b hw 143 rfl) (o_b hw 141 rfl) (o_b hw 142 rfl) (o_b hw 144 rfl) e0 (Arv.arh i) w (g:=(mkF m 18 #[rv a,iv 0,iv 2] [(.ref a)])) rfl (by rw[k];rfl) rfl (D 12 rfl) (by decide) (W:=0) (by show 2*0+_≤_;exact Nat.le_of_eq rfl) (by decide) (cap:=2) (by decide) (by decide) (by decide)
 obtain ⟨f,t⟩: ∃z,z=h0.size:=⟨_,rfl⟩
 rw[←t] at o q r
 have u:h0.size≤f:=Nat.le_trans KP.1 (Nat.le_of_eq t.symm)
 have C:n0≤f:=Nat.le_trans Z0 u
 have KP:=KP.ext B
 have E:Arv Z n f ka .int (2:Int32) [(.int u0),(.int u1)] (.int (0:Int32)):=o
 have v:Exa Z n f "[I":=q
 refine o_i (mkF m 21 #[rv a,iv 0,iv 2] [(.ref f)]) r ?_
 obtain ⟨T201,X201,F,G⟩:=castY y hx hZ h (o_b hw 145 rfl) A (Ins.self v) (g:=(mkF m 21 #[rv a,iv 0,iv 2] [(.ref f)])) rfl rfl (D 13 rfl)
 refine o_i (mkF m 24 #[rv a,iv 0,iv 2] [(.ref f)]) G ?_
 exact o_K 14 X201 b hret x (by rw[F];exact ⟨f,ka,rfl,N0,KP,C,u,E,v⟩)
def o_nx (Z:State)(mb sr a:Addr)(ka:ClassId)(u0 u1:Int32)(h0:Heap)(n0:Nat)(v:Option Value)(h:Heap)(L:List Loc):Prop:=v=none∧Fr n0 L∧Keep h0 h [mb]∧ ∃(b:Addr) (kb:ClassId),n0≤b∧h0.size≤b∧Exa Z h mb "java/math/MutableBigInteger"∧Fld Z h mb "java/math/MutableBigInteger" "offset" "I" (.int (0:Int32))∧Fld Z h mb "java/math/MutableBigInteger" "value" "[I" (.ref b)∧Fld Z h mb "java/math/MutableBigInteger" "intLen" "I" (.int (2:Int32))∧Arv Z h b kb .int (2:Int32) [(.int u0),(.int u1)] (.int (0:Int32))∧Exa Z h b "[I"
theorem o_ny (l:Launch)(Z:State)(a0:Array Value)(hw: ∀d∈tables_1,d.before a0 Z=true)(ws:List Jvm.Cond)(mb sr a:Addr)(ka:ClassId)(u0 u1:Int32)(h0:Heap)(n0:Nat)(Z0:n0≤h0.size)(u:Old Z n0 h0)(v:n0≤mb)(f:Exa Z h0 mb "java/math/MutableBigInteger")(k:Fld Z h0 mb "java/math/MutableBigInteger" "offset" "I" (.int (0:Int32)))(n:Fld Z h0 mb "java/math/MutableBigInteger" "value" "[I" .null)(h:Fld Z h0 mb "java/math/MutableBigInteger" "intLen" "I" (.int (0:Int32)))(aI:Exa Z h0 sr "java/math/MutableBigInteger")(r:Fld Z h0 sr "java/math/MutableBigInteger" "offset" "I" (.int (0:Int32)))(w:Fld Z h0 sr "java/math/MutableBigInteger" "value" "[I" (.ref a))(F:Fld Z h0 sr "java/math/MutableBigInteger" "intLen" "I" (.int (2:Int32)))(x:sr≠mb)(J:a≠mb)(y:Arv Z h0 a ka .int (2:Int32) [(.int u0),(.int u1)] (.int (0:Int32)))(A:Exa Z h0 a "[I"):
  o_q l (⟨"java/math/MutableBigInteger","<init>","(Ljava/math/MutableBigInteger;)V"⟩:MethodName) (Jvm.Cond.code (⟨"java/math/MutableBigInteger","<init>","(Ljava/math/MutableBigInteger;)V"⟩:MethodName) jdk_2101_method_5_code 2 none::ws) ({frames:=2,cells:=1,slots:=2,locals:=48}:Room) #[(.ref mb),(.ref sr)] Z h0 (o_nx Z mb sr a ka u0 u1 h0 n0):=by
 refine o_u (plainFor_of_name o_ag) (fun m=>o_lN m mb sr) fun p e s m aJ aK c s₁ hx K U L (M:s.vm.findClass "java/math/MutableBigInteger"=some m.cls) hnm hret X0 hZ e0=> ?_
 have D:=o_S K o_c1
 have b:=o_t hx K o_c1 M hZ L hw
 have N0:=Fr.nil n0
 have KP:Keep h0 h0 [mb]:=Keep.refl _ _
 refine o_c 1 0 X0 b ?_
 obtain ⟨aL,G,V,X⟩:=initO X0 hx hZ M (o_b hw 108 rfl) (o_b hw 84 rfl) (o_b hw 85 rfl) e0 (g:=(mkF m 1 #[rv mb,rv sr] [(.ref mb)])) rfl (by rw[L];rfl) rfl (D 1 rfl) (by decide) (W:=0) (by show 2*0+_≤_;exact Nat.le_of_eq rfl) (by decide)
 refine o_i (mkF m 4 #[rv mb,rv sr] []) X ?_
 refine o_c 5 2 G b ?_
 refine o_g 6 3 0 G b ?_
 refine o_R 9 4 109 102 G b V k f (Or.inl (o_b hw 110 rfl)) (ty:= .int) fun aM Y C ad j=> ?_
 have ae:=Fr.snoc C N0 v
 have af:Fld Z Y mb "java/math/MutableBigInteger" "offset" "I" (.int (0:Int32)):=k.same j
 have u:=u.wr j v
 have KP:=KP.wr j (Or.inl (List.mem_of_getElem? (i:=0) rfl))
 have f:=f.wr j
 have n:=n.other j (Or.inr (slot_ne (Or.inl (o_b hw 112 rfl)) (Or.inl (o_b hw 110 rfl)) (by decide) (t:=(.array .int)) (t':= .int) (by decide) (by decide)))
 have h:=h.other j (Or.inr (slot_ne (Or.inl (o_b hw 114 rfl)) (Or.inl (o_b hw 110 rfl)) (by decide) (t:= .int) (t':= .int) (by decide) (by decide)))
 have r:=r.other j (Or.inl x)
 have w:=w.other j (Or.inl x)
 have F:=F.other j (Or.inl x)
 have y:=y.other j J
 have A:=A.wr j
 have k:=af
 refine o_c 10 5 C b ?_
 refine o_c 11 6 C b ?_
 refine o_h 14 7 113 C b ad F fun T204 X204 ag=> ?_
 refine o_R 17 8 113 102 X204 b ag h f (Or.inl (o_b hw 114 rfl)) (ty:= .int) fun aN N E ah o=> ?_
 have ai:=Fr.snoc E ae v
 have aj:Fld Z N mb "java/math/MutableBigInteger" "intLen" "I" (.int (2:Int32)):=h.same o
 have u:=u.wr o v
 have KP:=KP.wr o (Or.inl (List.mem_of_getElem? (i:=0) rfl))
 have f:=f.wr o
 have k:=k.other o (Or.inr (slot_ne (Or.inl (o_b hw 110 rfl)) (Or.inl (o_b hw 114 rfl)) (by decide) (t:= .int) (t':= .int) (by decide) (by decide)))
 have n:=n.other o (Or.inr (slot_ne (Or.inl (o_b hw 112 rfl)) (Or.inl (o_b hw 114 rfl)) (by decide) (t:=(.array .int)) (t':= .int) (by decide) (by decide)))
 have r:=r.other o (Or.inl x)
 have w:=w.other o (Or.inl x)
 have y:=y.other o J
 have A:=A.wr o
 have h:=aj
 refine o_c 18 9 E b ?_
 refine o_c 19 10 E b ?_
 refine o_h 22 11 111 E b ah w fun aO O ak=> ?_
 refine o_c 23 12 O b ?_
 refine o_h 26 13 109 O b ak r fun aP P al=> ?_
 refine o_c 27 14 P b ?_
 refine o_h 30 15 109 P b al r fun aQ Q am=> ?_
 refine o_c 31 16 Q b ?_
 refine o_h 34 17 113 Q b am h fun aR R ao=> ?_
 refine o_v 35 18 R b (z:=(2:Int32)) ?_
 have aq:=KP
 have au:=f.lt
 refine o_F 38 3 1 1 2 19 137 55 56 57 R b (o_nw l Z a0 hw [] a ka u0 u1 N n0 (Nat.le_trans Z0 KP.1) u y A) o_bf ao fun _ aS aT av aw=> ?_
 obtain ⟨bb,ax,rfl,ay,B,aA,S,H,I⟩:=aw
 have aB:=Fr.app ai ay
 have KP:=KP.trans B all0
 have f:=f.keep B
 have k:=k.keep B nin0
 have n:=n.keep B nin0
 have h:=h.keep B nin0
 refine o_k [_,_] ?_
 have aC:h0.size≤bb:=Nat.le_trans aq.1 S
 have aD:mb≠bb:=Nat.ne_of_lt (Nat.lt_of_lt_of_le au S)
 refine o_R 41 20 111 102 av b rfl n f (Or.inl (o_b hw 112 rfl)) (ty:=(.array .int)) fun aU aE T aF q=> ?_
 have aG:=Fr.snoc T aB v
 have aH:Fld Z aE mb "java/math/MutableBigInteger" "value" "[I" (.ref bb):=n.same q
 have KP:=KP.wr q (Or.inl (List.mem_of_getElem? (i:=0) rfl))
 have f:=f.wr q
 have k:=k.other q (Or.inr (slot_ne (Or.inl (o_b hw 110 rfl)) (Or.inl (o_b hw 112 rfl)) (by decide) (t:= .int) (t':=(.array .int)) (by decide) (by decide)))
 have h:=h.other q (Or.inr (slot_ne (Or.inl (o_b hw 114 rfl)) (Or.inl (o_b hw 112 rfl)) (by decide) (t:= .int) (t':=(.array .int)) (by decide) (by decide)))
 have H:=H.other q (Ne.symm aD)
 have I:=I.wr q
 have n:=aH
 exact o_al 21 T b hret U (by rw[aF];exact ⟨rfl,aG,KP,bb,ax,aA,aC,f,k,n,h,H,I⟩)
def o_nz (Z:State)(mb sr:Addr)(h0:Heap)(n0:Nat)(v:Option Value)(h:Heap)(L:List Loc):Prop:=v=some (.int (-1))∧Fr n0 L∧h=h0
theorem o_nA (l:Launch)(Z:State)(a0:Array Value)(hw: ∀d∈tables_1,d.before a0 Z=true)(ws:List Jvm.Cond)(mb sr:Addr)(h0:Heap)(n0:Nat)(Z0:n0≤h0.size)(r:Old Z n0 h0)(lm ls:Int32)(g:Fld Z h0 mb "java/math/MutableBigInteger" "intLen" "I" (.int lm))(h:Fld Z h0 sr "java/math/MutableBigInteger" "intLen" "I" (.int ls))(hl:lm<ls):
  o_q l (⟨"java/math/MutableBigInteger","compare","(Ljava/math/MutableBigInteger;)I"⟩:MethodName) (Jvm.Cond.code (⟨"java/math/MutableBigInteger","compare","(Ljava/math/MutableBigInteger;)I"⟩:MethodName) jdk_2101_method_15_code 8 (some .int)::ws) ({frames:=0,cells:=0,slots:=0,locals:=0}:Room) #[(.ref mb),(.ref sr)] Z h0 (o_nz Z mb sr h0 n0):=by
 refine o_u (plainFor_of_name o_ag) (fun m=>o_lO m mb sr) fun p e s m t u c s₁ hx i j k (n:s.vm.findClass "java/math/MutableBigInteger"=some m.cls) hnm hret X0 hZ e0=> ?_
 have a:=o_t hx i o_c2 n hZ k hw
 have N0:=Fr.nil n0
 refine o_c 1 0 X0 a ?_
 refine o_h 4 1 113 X0 a e0 h fun v f o=> ?_
 refine o_O 5 2 #[_,_,_,_,_,_,_,_] f a ?_
 refine o_c 6 3 f a ?_
 refine o_h 9 4 113 f a o g fun w b q=> ?_
 refine o_e 10 5 b a ?_
 refine o_E 13 6 b a rfl (tlt hl).2.1 ?_
 refine o_g 14 7 (-1) b a ?_
 exact o_W 8 b a hret j (by rw[q];exact ⟨rfl,N0,rfl⟩)
def o_nB (Z:State)(mb sr:Addr)(h0:Heap)(n0:Nat)(v:Option Value)(h:Heap)(L:List Loc):Prop:=v=some (.int 1)∧Fr n0 L∧h=h0
theorem o_nC (l:Launch)(Z:State)(a0:Array Value)(hw: ∀d∈tables_1,d.before a0 Z=true)(ws:List Jvm.Cond)(mb sr:Addr)(h0:Heap)(n0:Nat)(Z0:n0≤h0.size)(u:Old Z n0 h0)(lm ls:Int32)(h:Fld Z h0 mb "java/math/MutableBigInteger" "intLen" "I" (.int lm))(i:Fld Z h0 sr "java/math/MutableBigInteger" "intLen" "I" (.int ls))(hl:ls<lm):
  o_q l (⟨"java/math/MutableBigInteger","compare","(Ljava/math/MutableBigInteger;)I"⟩:MethodName) (Jvm.Cond.code (⟨"java/math/MutableBigInteger","compare","(Ljava/math/MutableBigInteger;)I"⟩:MethodName) jdk_2101_method_15_code 8 (some .int)::ws) ({frames:=0,cells:=0,slots:=0,locals:=0}:Room) #[(.ref mb),(.ref sr)] Z h0 (o_nB Z mb sr h0 n0):=by
 refine o_u (plainFor_of_name o_ag) (fun m=>o_lP m mb sr) fun p e s m v w c s₁ hx j k n (o:s.vm.findClass "java/math/MutableBigInteger"=some m.cls) hnm hret X0 hZ e0=> ?_
 have a:=o_t hx j o_c2 o hZ n hw
 have N0:=Fr.nil n0
 refine o_c 1 0 X0 a ?_
 refine o_h 4 1 113 X0 a e0 i fun x g q=> ?_
 refine o_O 5 2 #[_,_,_,_,_,_,_,_] g a ?_
 refine o_c 6 3 g a ?_
 refine o_h 9 4 113 g a q h fun y b r=> ?_
 refine o_e 10 5 b a ?_
 refine o_z 15 6 b a rfl (flt (o_hv hl)).2.1 ?_
 refine o_c 16 9 b a ?_
 refine o_h 19 10 113 b a r h fun z f t=> ?_
 refine o_e 20 11 f a ?_
 refine o_E 23 12 f a rfl (tlt hl).2.2.2 ?_
 refine o_g 24 13 1 f a ?_
 exact o_W 14 f a hret k (by rw[t];exact ⟨rfl,N0,rfl⟩)
def o_nD (Z:State)(mb a:Addr)(ka:ClassId)(x0:Int32)(sr b:Addr)(kb:ClassId)(y0:Int32)(h0:Heap)(n0:Nat)(v:Option Value)(h:Heap)(L:List Loc):Prop:= ∃r:Int32,v=some (.int r)∧Fr n0 L∧h=h0∧o_bs (o_a x0) (o_a y0) r
theorem o_nE (l:Launch)(Z:State)(a0:Array Value)(hw: ∀d∈tables_1,d.before a0 Z=true)(ws:List Jvm.Cond)(mb a:Addr)(ka:ClassId)(x0:Int32)(sr b:Addr)(kb:ClassId)(y0:Int32)(h0:Heap)(n0:Nat)(Z0:n0≤h0.size)(U:Old Z n0 h0)(V:Exa Z h0 mb "java/math/MutableBigInteger")(r:Fld Z h0 mb "java/math/MutableBigInteger" "offset" "I" (.int (0:Int32)))(B:Fld Z h0 mb "java/math/MutableBigInteger" "value" "[I" (.ref a))(i:Fld Z h0 mb "java/math/MutableBigInteger" "intLen" "I" (.int (1:Int32)))(W:Exa Z h0 sr "java/math/MutableBigInteger")(C:Fld Z h0 sr "java/math/MutableBigInteger" "offset" "I" (.int (0:Int32)))(D:Fld Z h0 sr "java/math/MutableBigInteger" "value" "[I" (.ref b))(E:Fld Z h0 sr "java/math/MutableBigInteger" "intLen" "I" (.int (1:Int32)))(F:Arv Z h0 a ka .int (1:Int32) [(.int x0)] (.int (0:Int32)))(G:Arv Z h0 b kb .int (1:Int32) [(.int y0)] (.int (0:Int32))):
  o_q l (⟨"java/math/MutableBigInteger","compare","(Ljava/math/MutableBigInteger;)I"⟩:MethodName) (Jvm.Cond.code (⟨"java/math/MutableBigInteger","compare","(Ljava/math/MutableBigInteger;)I"⟩:MethodName) jdk_2101_method_15_code 8 (some .int)::ws) ({frames:=0,cells:=0,slots:=0,locals:=0}:Room) #[(.ref mb),(.ref sr)] Z h0 (o_nD Z mb a ka x0 sr b kb y0 h0 n0):=by
 refine o_u (plainFor_of_name o_ag) (fun m=>o_lQ m mb sr) fun p e s m X Y c s₁ hx H t I (J:s.vm.findClass "java/math/MutableBigInteger"=some m.cls) hnm hret X0 hZ e0=> ?_
 have f:=o_t hx H o_c2 J hZ I hw
 have N0:=Fr.nil n0
 refine o_c 1 0 X0 f ?_
 refine o_h 4 1 113 X0 f e0 E fun ad u K=> ?_
 refine o_O 5 2 #[_,_,_,_,_,_,_,_] u f ?_
 refine o_c 6 3 u f ?_
 refine o_h 9 4 113 u f K i fun ae j L=> ?_
 refine o_e 10 5 j f ?_
 refine o_z 15 6 j f rfl (flt (by decide: ¬((1:Int32)<(1:Int32)))).2.1 ?_
 refine o_c 16 9 j f ?_
 refine o_h 19 10 113 j f L i fun af k M=> ?_
 refine o_e 20 11 k f ?_
 refine o_z 25 12 k f rfl (flt (by decide: ¬((1:Int32)<(1:Int32)))).2.2.2 ?_
 refine o_c 26 15 k f ?_
 refine o_h 29 16 111 k f M D fun ag v N=> ?_
 refine o_bt 30 17 #[_,_,_,_,_,_,_,_] v f ?_
 refine o_c 31 18 v f ?_
 refine o_h 34 19 109 v f N r fun ah w O=> ?_
 refine o_o 36 20 #[_,_,_,_,_,_,_,_] w f ?_
 refine o_c 37 21 w f ?_
 refine o_h 40 22 109 w f O C fun ai n P=> ?_
 refine o_o 42 23 #[_,_,_,_,_,_,_,_] n f ?_
 refine o_d 44 24 n f ?_
 refine o_c 45 25 n f ?_
 refine o_h 48 26 113 n f P i fun aj y Q=> ?_
 refine o_c 49 27 y f ?_
 refine o_h 52 28 109 y f Q r fun ak o R=> ?_
 refine o_v 53 29 o f (z:=(1:Int32)) ?_
 refine o_E 56 30 o f rfl (tlt (by decide:(0:Int32)<(1:Int32))).2.1 ?_
 refine o_c 57 31 o f ?_
 refine o_h 60 32 111 o f R B fun al g h=> ?_
 refine o_d 62 33 g f ?_
 refine o_Q 63 34 g f h F (x:=x0) ?_
 refine o_aL 65 230 35 g f ?_
 refine o_v 66 36 g f ?_
 refine o_o 68 37 #[_,_,_,_,_,_,_,_] g f ?_
 refine o_c 69 38 g f ?_
 refine o_d 71 39 g f ?_
 refine o_Q 72 40 g f h G (x:=y0) ?_
 refine o_aL 74 230 41 g f ?_
 refine o_v 75 42 g f ?_
 refine o_o 77 43 #[_,_,_,_,_,_,_,_] g f ?_
 refine o_d 79 44 g f ?_
 refine o_d 81 45 g f ?_
 by_cases ha0:(x0+(-2147483648:Int32))<(y0+(-2147483648:Int32))
 ·refine o_E 84 46 g f rfl (tlt ha0).2.1 ?_
  refine o_g 85 47 (-1) g f ?_
  exact o_W 48 g f hret t (by rw[h];exact ⟨_,rfl,N0,rfl,Or.inl ⟨rfl,(o_bG ha0)⟩⟩)
 ·refine o_z 86 46 g f rfl (flt ha0).2.1 ?_
  refine o_d 88 49 g f ?_
  refine o_d 90 50 g f ?_
  by_cases hb0:(y0+(-2147483648:Int32))<(x0+(-2147483648:Int32))
  ·refine o_E 93 51 g f rfl (tlt hb0).2.2.2 ?_
   refine o_g 94 52 1 g f ?_
   exact o_W 53 g f hret t (by rw[h];exact ⟨_,rfl,N0,rfl,Or.inr (Or.inr ⟨rfl,(o_bG hb0)⟩)⟩)
  ·refine o_z 95 51 g f rfl (flt hb0).2.2.2 ?_
   refine o_G 98 54 #[_,_,_,_,iv 1,_,_,_] g f ?_
   refine o_G 101 55 #[_,_,_,_,_,iv 1,_,_] g f ?_
   refine o_w 42 56 g f ?_
   refine o_d 44 24 g f ?_
   refine o_c 45 25 g f ?_
   refine o_h 48 26 113 g f h i fun am A S=> ?_
   refine o_c 49 27 A f ?_
   refine o_h 52 28 109 A f S r fun ao q T=> ?_
   refine o_v 53 29 q f (z:=(1:Int32)) ?_
   refine o_z 104 30 q f rfl (flt (by decide: ¬((1:Int32)<(1:Int32)))).2.1 ?_
   refine o_g 105 57 0 q f ?_
   exact o_W 58 q f hret t (by rw[T];exact ⟨_,rfl,N0,rfl,Or.inr (Or.inl ⟨rfl,(Int.le_antisymm (o_aZ hb0) (o_aZ ha0))⟩)⟩)
def o_nF (Z:State)(mb a:Addr)(ka:ClassId)(x0 x1:Int32)(sr b:Addr)(kb:ClassId)(y0 y1:Int32)(h0:Heap)(n0:Nat)(v:Option Value)(h:Heap)(L:List Loc):Prop:= ∃r:Int32,v=some (.int r)∧Fr n0 L∧h=h0∧o_bs ((o_a x0*4294967296+o_a x1)) ((o_a y0*4294967296+o_a y1)) r
theorem o_nG (l:Launch)(Z:State)(a0:Array Value)(hw: ∀d∈tables_1,d.before a0 Z=true)(ws:List Jvm.Cond)(mb a:Addr)(ka:ClassId)(x0 x1:Int32)(sr b:Addr)(kb:ClassId)(y0 y1:Int32)(h0:Heap)(n0:Nat)(Z0:n0≤h0.size)(OL:Old Z n0 h0)(ai:Exa Z h0 mb "java/math/MutableBigInteger")(o:Fld Z h0 mb "java/math/MutableBigInteger" "offset" "I" (.int (0:Int32)))(F:Fld Z h0 mb "java/math/MutableBigInteger" "value" "[I" (.ref a))(i:Fld Z h0 mb "java/math/MutableBigInteger" "intLen" "I" (.int (2:Int32)))(aj:Exa Z h0 sr "java/math/MutableBigInteger")(L:Fld Z h0 sr "java/math/MutableBigInteger" "offset" "I" (.int (0:Int32)))(M:Fld Z h0 sr "java/math/MutableBigInteger" "value" "[I" (.ref b))(N:Fld Z h0 sr "java/math/MutableBigInteger" "intLen" "I" (.int (2:Int32)))(G:Arv Z h0 a ka .int (2:Int32) [(.int x0),(.int x1)] (.int (0:Int32)))(H:Arv Z h0 b kb .int (2:Int32) [(.int y0),(.int y1)] (.int (0:Int32))):
  o_q l (⟨"java/math/MutableBigInteger","compare","(Ljava/math/MutableBigInteger;)I"⟩:MethodName) (Jvm.Cond.code (⟨"java/math/MutableBigInteger","compare","(Ljava/math/MutableBigInteger;)I"⟩:MethodName) jdk_2101_method_15_code 8 (some .int)::ws) ({frames:=0,cells:=0,slots:=0,locals:=0}:Room) #[(.ref mb),(.ref sr)] Z h0 (o_nF Z mb a ka x0 x1 sr b kb y0 y1 h0 n0):=by
 refine o_u (plainFor_of_name o_ag) (fun m=>o_lR m mb sr) fun p e s m ak al c s₁ hx O j P (Q:s.vm.findClass "java/math/MutableBigInteger"=some m.cls) hnm hret X0 hZ e0=> ?_
 have f:=o_t hx O o_c2 Q hZ P hw
 have N0:=Fr.nil n0
 refine o_c 1 0 X0 f ?_
 refine o_h 4 1 113 X0 f e0 N fun am C R=> ?_
 refine o_O 5 2 #[_,_,_,_,_,_,_,_] C f ?_
 refine o_c 6 3 C f ?_
 refine o_h 9 4 113 C f R i fun ao r S=> ?_
 refine o_e 10 5 r f ?_
 refine o_z 15 6 r f rfl (flt (by decide: ¬((2:Int32)<(2:Int32)))).2.1 ?_
 refine o_c 16 9 r f ?_
 refine o_h 19 10 113 r f S i fun aq t T=> ?_
 refine o_e 20 11 t f ?_
 refine o_z 25 12 t f rfl (flt (by decide: ¬((2:Int32)<(2:Int32)))).2.2.2 ?_
 refine o_c 26 15 t f ?_
 refine o_h 29 16 111 t f T M fun au D U=> ?_
 refine o_bt 30 17 #[_,_,_,_,_,_,_,_] D f ?_
 refine o_c 31 18 D f ?_
 refine o_h 34 19 109 D f U o fun av E V=> ?_
 refine o_o 36 20 #[_,_,_,_,_,_,_,_] E f ?_
 refine o_c 37 21 E f ?_
 refine o_h 40 22 109 E f V L fun aw u W=> ?_
 refine o_o 42 23 #[_,_,_,_,_,_,_,_] u f ?_
 refine o_d 44 24 u f ?_
 refine o_c 45 25 u f ?_
 refine o_h 48 26 113 u f W i fun ax I X=> ?_
 refine o_c 49 27 I f ?_
 refine o_h 52 28 109 I f X o fun ay v Y=> ?_
 refine o_v 53 29 v f (z:=(2:Int32)) ?_
 refine o_E 56 30 v f rfl (tlt (by decide:(0:Int32)<(2:Int32))).2.1 ?_
 refine o_c 57 31 v f ?_
 refine o_h 60 32 111 v f Y F fun aA g k=> ?_
 refine o_d 62 33 g f ?_
 refine o_Q 63 34 g f k G (x:=x0) ?_
 refine o_aL 65 230 35 g f ?_
 refine o_v 66 36 g f ?_
 refine o_o 68 37 #[_,_,_,_,_,_,_,_] g f ?_
 refine o_c 69 38 g f ?_
 refine o_d 71 39 g f ?_
 refine o_Q 72 40 g f k H (x:=y0) ?_
 refine o_aL 74 230 41 g f ?_
 refine o_v 75 42 g f ?_
 refine o_o 77 43 #[_,_,_,_,_,_,_,_] g f ?_
 refine o_d 79 44 g f ?_
 refine o_d 81 45 g f ?_
 by_cases ha0:(x0+(-2147483648:Int32))<(y0+(-2147483648:Int32))
 ·refine o_E 84 46 g f rfl (tlt ha0).2.1 ?_
  refine o_g 85 47 (-1) g f ?_
  exact o_W 48 g f hret j (by rw[k];exact ⟨_,rfl,N0,rfl,Or.inl ⟨rfl,(o_cH (o_bG ha0))⟩⟩)
 ·refine o_z 86 46 g f rfl (flt ha0).2.1 ?_
  refine o_d 88 49 g f ?_
  refine o_d 90 50 g f ?_
  by_cases hb0:(y0+(-2147483648:Int32))<(x0+(-2147483648:Int32))
  ·refine o_E 93 51 g f rfl (tlt hb0).2.2.2 ?_
   refine o_g 94 52 1 g f ?_
   exact o_W 53 g f hret j (by rw[k];exact ⟨_,rfl,N0,rfl,Or.inr (Or.inr ⟨rfl,(o_cH (o_bG hb0))⟩)⟩)
  ·refine o_z 95 51 g f rfl (flt hb0).2.2.2 ?_
   refine o_G 98 54 #[_,_,_,_,iv 1,_,_,_] g f ?_
   refine o_G 101 55 #[_,_,_,_,_,iv 1,_,_] g f ?_
   refine o_w 42 56 g f ?_
   refine o_d 44 24 g f ?_
   refine o_c 45 25 g f ?_
   refine o_h 48 26 113 g f k i fun aB J ad=> ?_
   refine o_c 49 27 J f ?_
   refine o_h 52 28 109 J f ad o fun aC w ae=> ?_
   refine o_v 53 29 w f (z:=(2:Int32)) ?_
   refine o_E 56 30 w f rfl (tlt (by decide:(1:Int32)<(2:Int32))).2.1 ?_
   refine o_c 57 31 w f ?_
   refine o_h 60 32 111 w f ae F fun aD h n=> ?_
   refine o_d 62 33 h f ?_
   refine o_Q 63 34 h f n G (x:=x1) ?_
   refine o_aL 65 230 35 h f ?_
   refine o_v 66 36 h f ?_
   refine o_o 68 37 #[_,_,_,_,_,_,_,_] h f ?_
   refine o_c 69 38 h f ?_
   refine o_d 71 39 h f ?_
   refine o_Q 72 40 h f n H (x:=y1) ?_
   refine o_aL 74 230 41 h f ?_
   refine o_v 75 42 h f ?_
   refine o_o 77 43 #[_,_,_,_,_,_,_,_] h f ?_
   refine o_d 79 44 h f ?_
   refine o_d 81 45 h f ?_
   by_cases ha1:(x1+(-2147483648:Int32))<(y1+(-2147483648:Int32))
   ·refine o_E 84 46 h f rfl (tlt ha1).2.1 ?_
    refine o_g 85 47 (-1) h f ?_
    exact o_W 48 h f hret j (by rw[n];exact ⟨_,rfl,N0,rfl,Or.inl ⟨rfl,(by have q:=o_bG ha1;have e:=o_dF (A:=o_a x1) (B:=o_a y1) (o_aZ ha0) (o_aZ hb0);omega)⟩⟩)
   ·refine o_z 86 46 h f rfl (flt ha1).2.1 ?_
    refine o_d 88 49 h f ?_
    refine o_d 90 50 h f ?_
    by_cases hb1:(y1+(-2147483648:Int32))<(x1+(-2147483648:Int32))
    ·refine o_E 93 51 h f rfl (tlt hb1).2.2.2 ?_
     refine o_g 94 52 1 h f ?_
     exact o_W 53 h f hret j (by rw[n];exact ⟨_,rfl,N0,rfl,Or.inr (Or.inr ⟨rfl,(by have q:=o_bG hb1;have e:=o_dF (A:=o_a x1) (B:=o_a y1) (o_aZ ha0) (o_aZ hb0);omega)⟩)⟩)
    ·refine o_z 95 51 h f rfl (flt hb1).2.2.2 ?_
     refine o_G 98 54 #[_,_,_,_,iv 2,_,_,_] h f ?_
     refine o_G 101 55 #[_,_,_,_,_,iv 2,_,_] h f ?_
     refine o_w 42 56 h f ?_
     refine o_d 44 24 h f ?_
     refine o_c 45 25 h f ?_
     refine o_h 48 26 113 h f n i fun aE K af=> ?_
     refine o_c 49 27 K f ?_
     refine o_h 52 28 109 K f af o fun aF y ag=> ?_
     refine o_v 53 29 y f (z:=(2:Int32)) ?_
     refine o_z 104 30 y f rfl (flt (by decide: ¬((2:Int32)<(2:Int32)))).2.1 ?_
     refine o_g 105 57 0 y f ?_
     exact o_W 58 y f hret j (by rw[ag];exact ⟨_,rfl,N0,rfl,Or.inr (Or.inl ⟨rfl,(by have p:=o_aZ ha1;have q:=o_aZ hb1;have e:=o_dF (A:=o_a x1) (B:=o_a y1) (o_aZ ha0) (o_aZ hb0);omega)⟩)⟩)
def o_nH (Z:State)(bx:Addr)(sg:Int32)(h0:Heap)(n0:Nat)(v:Option Value)(h:Heap)(L:List Loc):Prop:=v=some (.int sg)∧Fr n0 L∧h=h0
theorem o_nI (l:Launch)(Z:State)(a0:Array Value)(hw: ∀d∈tables_1,d.before a0 Z=true)(ws:List Jvm.Cond)(bx:Addr)(sg:Int32)(h0:Heap)(n0:Nat)(Z0:n0≤h0.size)(k:Old Z n0 h0)(Fs:Fld Z h0 bx "java/math/BigInteger" "signum" "I" (.int sg)):
  o_q l (⟨"java/math/BigInteger","signum","()I"⟩:MethodName) (Jvm.Cond.code (⟨"java/math/BigInteger","signum","()I"⟩:MethodName) jdk_2097_method_81_code 1 (some .int)::ws) ({frames:=0,cells:=0,slots:=0,locals:=0}:Room) #[(.ref bx)] Z h0 (o_nH Z bx sg h0 n0):=by
 refine o_u (plainFor_of_name o_Y) (fun m=>o_lS m bx) fun p e s m n o c s₁ hx b f g (h:s.vm.findClass "java/math/BigInteger"=some m.cls) hnm hret X0 hZ e0=> ?_
 have a:=o_t hx b o_jZ h hZ g hw
 have N0:=Fr.nil n0
 refine o_c 1 0 X0 a ?_
 refine o_h 4 1 38 X0 a e0 Fs fun q i j=> ?_
 exact o_W 2 i a hret f (by rw[j];exact ⟨rfl,N0,rfl⟩)
def o_nJ (Z:State)(bx:Addr)(h0:Heap)(n0:Nat)(v:Option Value)(h:Heap)(L:List Loc):Prop:=v=some (.int 0)∧Fr n0 L∧h=h0
theorem o_nK (l:Launch)(Z:State)(a0:Array Value)(hw: ∀d∈tables_1,d.before a0 Z=true)(ws:List Jvm.Cond)(bx:Addr)(h0:Heap)(n0:Nat)(Z0:n0≤h0.size)(k:Old Z n0 h0)(Fs:Fld Z h0 bx "java/math/BigInteger" "signum" "I" (.int (1:Int32))):
  o_q l (⟨"java/math/BigInteger","signInt","()I"⟩:MethodName) (Jvm.Cond.code (⟨"java/math/BigInteger","signInt","()I"⟩:MethodName) jdk_2097_method_147_code 1 (some .int)::ws) ({frames:=0,cells:=0,slots:=0,locals:=0}:Room) #[(.ref bx)] Z h0 (o_nJ Z bx h0 n0):=by
 refine o_u (plainFor_of_name o_Y) (fun m=>o_lT m bx) fun p e s m n o c s₁ hx f g h (i:s.vm.findClass "java/math/BigInteger"=some m.cls) hnm hret X0 hZ e0=> ?_
 have a:=o_t hx f o_j1 i hZ h hw
 have N0:=Fr.nil n0
 refine o_c 1 0 X0 a ?_
 refine o_h 4 1 38 X0 a e0 Fs fun q b j=> ?_
 refine o_p 11 2 b a rfl ((if0 _ _).trans (flt (by decide: ¬((1:Int32)<(0:Int32)))).2.1) ?_
 refine o_g 12 5 0 b a ?_
 exact o_W 6 b a hret g (by rw[j];exact ⟨rfl,N0,rfl⟩)
def o_nL (Z:State)(bx ma:Addr)(ka:ClassId)(w0:Int32)(h0:Heap)(n0:Nat)(v:Option Value)(h:Heap)(L:List Loc):Prop:=v=some (.int (0:Int32))∧Fr n0 L∧h=h0
theorem o_nM (l:Launch)(Z:State)(a0:Array Value)(hw: ∀d∈tables_1,d.before a0 Z=true)(ws:List Jvm.Cond)(bx ma:Addr)(ka:ClassId)(w0:Int32)(h0:Heap)(n0:Nat)(Z0:n0≤h0.size)(h:Old Z n0 h0)(i:o_U Z h0 bx ma ka [w0]):
  o_q l (⟨"java/math/BigInteger","getInt","(I)I"⟩:MethodName) (Jvm.Cond.code (⟨"java/math/BigInteger","getInt","(I)I"⟩:MethodName) jdk_2097_method_148_code 3 (some .int)::ws) ({frames:=1,cells:=0,slots:=0,locals:=14}:Room) #[(.ref bx),(.int (1:Int32))] Z h0 (o_nL Z bx ma ka w0 h0 n0):=by
 refine o_u (plainFor_of_name o_Y) (fun m=>o_lU m bx (1:Int32)) fun p e s m z A c s₁ hx j k n (o:s.vm.findClass "java/math/BigInteger"=some m.cls) hnm hret X0 hZ e0=> ?_
 have a:=o_t hx j o_c3 o hZ n hw
 have N0:=Fr.nil n0
 have KP:Keep h0 h0 []:=Keep.refl _ _
 obtain ⟨q,r,t,f,B⟩:=id i
 have f:Arv Z h0 ma ka .int (1:Int32) [(.int w0)] (.int (0:Int32)):=f
 refine o_e 1 0 X0 a ?_
 refine o_p 6 1 X0 a rfl ((if0 _ _).trans (flt (by decide: ¬((1:Int32)<(0:Int32)))).2.1) ?_
 refine o_e 7 4 X0 a ?_
 refine o_c 8 5 X0 a ?_
 refine o_h 11 6 40 X0 a e0 t fun C b g=> ?_
 refine o_C 12 7 b a g f ?_
 refine o_E 15 8 b a rfl (flt (by decide: ¬((1:Int32)<(1:Int32)))).1 ?_
 refine o_c 16 9 b a ?_
 refine o_aD 19 0 0 0 0 10 192 193 195 194 24 196 b a (o_nK l Z a0 hw [] bx h0 n0 (Nat.le_trans Z0 KP.1) h r) o_fV g q fun _ D E u v=> ?_
 obtain ⟨rfl,w,x⟩:=v
 have y:=Fr.app N0 w
 refine o_k [_] ?_
 exact o_W 11 u a hret k (by rw[x];exact ⟨rfl,y,rfl⟩)
def o_nN (Z:State)(bx ma:Addr)(ka:ClassId)(w0:Int32)(h0:Heap)(n0:Nat)(v:Option Value)(h:Heap)(L:List Loc):Prop:=v=some (.int w0)∧Fr n0 L∧h=h0
theorem o_nO (l:Launch)(Z:State)(a0:Array Value)(hw: ∀d∈tables_1,d.before a0 Z=true)(ws:List Jvm.Cond)(bx ma:Addr)(ka:ClassId)(w0:Int32)(h0:Heap)(n0:Nat)(Z0:n0≤h0.size)(A:Old Z n0 h0)(o:o_U Z h0 bx ma ka [w0]):
  o_q l (⟨"java/math/BigInteger","getInt","(I)I"⟩:MethodName) (Jvm.Cond.code (⟨"java/math/BigInteger","getInt","(I)I"⟩:MethodName) jdk_2097_method_148_code 3 (some .int)::ws) ({frames:=1,cells:=0,slots:=0,locals:=14}:Room) #[(.ref bx),(.int (0:Int32))] Z h0 (o_nN Z bx ma ka w0 h0 n0):=by
 refine o_u (plainFor_of_name o_Y) (fun m=>o_lV m bx (0:Int32)) fun p e s m B C c s₁ hx q r t (u:s.vm.findClass "java/math/BigInteger"=some m.cls) hnm hret X0 hZ e0=> ?_
 have a:=o_t hx q o_c3 u hZ t hw
 have N0:=Fr.nil n0
 obtain ⟨D,v,i,f,E⟩:=id o
 have f:Arv Z h0 ma ka .int (1:Int32) [(.int w0)] (.int (0:Int32)):=f
 refine o_e 1 0 X0 a ?_
 refine o_p 6 1 X0 a rfl ((if0 _ _).trans (flt (by decide: ¬((0:Int32)<(0:Int32)))).2.1) ?_
 refine o_e 7 4 X0 a ?_
 refine o_c 8 5 X0 a ?_
 refine o_h 11 6 40 X0 a e0 i fun F g k=> ?_
 refine o_C 12 7 g a k f ?_
 refine o_z 20 8 g a rfl (tlt (by decide:(0:Int32)<(1:Int32))).1 ?_
 refine o_c 21 12 g a ?_
 refine o_h 24 13 40 g a k i fun G n w=> ?_
 refine o_c 25 14 n a ?_
 refine o_h 28 15 40 n a w i fun H b j=> ?_
 refine o_C 29 16 b a j f ?_
 refine o_e 30 17 b a ?_
 refine o_J 31 18 b a (z:=(1:Int32)) ?_
 refine o_g 32 19 1 b a ?_
 refine o_J 33 20 b a (z:=(0:Int32)) ?_
 refine o_Q 34 21 b a j f (x:=w0) ?_
 refine o_O 35 22 #[_,_,_] b a ?_
 refine o_c 36 23 b a ?_
 refine o_h 39 24 38 b a j v fun I h y=> ?_
 refine o_r 42 25 h a rfl ((if0 _ _).trans (flt (by decide: ¬((1:Int32)<(0:Int32)))).1) ?_
 refine o_e 43 26 h a ?_
 refine o_w 62 27 h a ?_
 exact o_W 38 h a hret r (by rw[y];exact ⟨rfl,N0,rfl⟩)
def o_nP (Z:State)(bx ma:Addr)(ka:ClassId)(w0:Int32)(h0:Heap)(n0:Nat)(v:Option Value)(h:Heap)(L:List Loc):Prop:= ∃r:Int64,v=some (.long r)∧Fr n0 L∧h=h0∧r.toInt=o_a w0
theorem o_nQ (l:Launch)(Z:State)(a0:Array Value)(hw: ∀d∈tables_1,d.before a0 Z=true)(ws:List Jvm.Cond)(bx ma:Addr)(ka:ClassId)(w0:Int32)(h0:Heap)(n0:Nat)(Z0:n0≤h0.size)(h:Old Z n0 h0)(g:o_U Z h0 bx ma ka [w0]):
  o_q l (⟨"java/math/BigInteger","longValue","()J"⟩:MethodName) (Jvm.Cond.code (⟨"java/math/BigInteger","longValue","()J"⟩:MethodName) jdk_2097_method_136_code 4 (some .long)::ws) ({frames:=2,cells:=0,slots:=0,locals:=34}:Room) #[(.ref bx)] Z h0 (o_nP Z bx ma ka w0 h0 n0):=by
 refine o_u (plainFor_of_name o_Y) (fun m=>o_lW m bx) fun p e s m z A c s₁ hx j k n (o:s.vm.findClass "java/math/BigInteger"=some m.cls) hnm hret X0 hZ e0=> ?_
 have a:=o_t hx j o_fF o hZ n hw
 have N0:=Fr.nil n0
 have KP:Keep h0 h0 []:=Keep.refl _ _
 obtain ⟨i,B,C,D,E⟩:=id g
 refine o_ac 1 0 0 X0 a ?_
 refine o_bl 2 1 #[_,_,_,_] X0 a ?_
 refine o_g 3 2 1 X0 a ?_
 refine o_O 4 3 #[_,_,_,_] X0 a ?_
 refine o_e 5 4 X0 a ?_
 refine o_r 8 5 X0 a rfl ((if0 _ _).trans (flt (by decide: ¬((1:Int32)<(0:Int32)))).1) ?_
 refine o_P 9 6 X0 a ?_
 refine o_B 11 7 32 X0 a ?_
 refine o_ay 12 8 X0 a ?_
 refine o_c 13 9 X0 a ?_
 refine o_e 14 10 X0 a ?_
 refine o_aD 17 1 2 0 0 11 187 188 190 189 24 191 X0 a (o_nM l Z a0 hw [] bx ma ka w0 h0 n0 (Nat.le_trans Z0 KP.1) h g) o_aN e0 i fun _ F G b q=> ?_
 obtain ⟨rfl,r,t⟩:=q
 have u:=Fr.app N0 r
 refine o_k [_,_] ?_
 refine o_D 18 12 b a ?_
 refine o_y 21 53 13 b a ?_
 refine o_A 22 14 b a ?_
 refine o_4 23 15 b a ?_
 refine o_bl 24 16 #[_,_,_,_] b a ?_
 refine o_G 27 17 #[_,_,_,iv 0] b a ?_
 refine o_w 4 18 b a ?_
 refine o_e 5 4 b a ?_
 refine o_r 8 5 b a rfl ((if0 _ _).trans (flt (by decide: ¬((0:Int32)<(0:Int32)))).1) ?_
 refine o_P 9 6 b a ?_
 refine o_B 11 7 32 b a ?_
 refine o_ay 12 8 b a ?_
 refine o_c 13 9 b a ?_
 refine o_e 14 10 b a ?_
 refine o_aD 17 1 2 0 0 11 187 188 190 189 24 191 b a (o_nO l Z a0 hw [] bx ma ka w0 h0 n0 (Nat.le_trans Z0 KP.1) h g) o_aN t i fun _ H I f v=> ?_
 obtain ⟨rfl,w,x⟩:=v
 have y:=Fr.app u w
 refine o_k [_,_] ?_
 refine o_D 18 12 f a ?_
 refine o_y 21 53 13 f a ?_
 refine o_A 22 14 f a ?_
 refine o_4 23 15 f a ?_
 refine o_bl 24 16 #[_,_,_,_] f a ?_
 refine o_G 27 17 #[_,_,_,iv (-1:Int32)] f a ?_
 refine o_w 4 18 f a ?_
 refine o_e 5 4 f a ?_
 refine o_p 30 5 f a rfl ((if0 _ _).trans (tlt (by decide:(-1:Int32)<(0:Int32))).1) ?_
 refine o_P 31 19 f a ?_
 exact o_a1 20 f a hret k (by rw[x];exact ⟨_,rfl,y,rfl,o_hx⟩)
def o_nR (Z:State)(bx ma:Addr)(ka:ClassId)(w0 w1:Int32)(h0:Heap)(n0:Nat)(v:Option Value)(h:Heap)(L:List Loc):Prop:=v=some (.int w0)∧Fr n0 L∧h=h0
theorem o_nS (l:Launch)(Z:State)(a0:Array Value)(hw: ∀d∈tables_1,d.before a0 Z=true)(ws:List Jvm.Cond)(bx ma:Addr)(ka:ClassId)(w0 w1:Int32)(h0:Heap)(n0:Nat)(Z0:n0≤h0.size)(y:Old Z n0 h0)(o:o_U Z h0 bx ma ka [w0,w1]):
  o_q l (⟨"java/math/BigInteger","getInt","(I)I"⟩:MethodName) (Jvm.Cond.code (⟨"java/math/BigInteger","getInt","(I)I"⟩:MethodName) jdk_2097_method_148_code 3 (some .int)::ws) ({frames:=1,cells:=0,slots:=0,locals:=14}:Room) #[(.ref bx),(.int (1:Int32))] Z h0 (o_nR Z bx ma ka w0 w1 h0 n0):=by
 refine o_u (plainFor_of_name o_Y) (fun m=>o_lX m bx (1:Int32)) fun p e s m A B c s₁ hx q r t (u:s.vm.findClass "java/math/BigInteger"=some m.cls) hnm hret X0 hZ e0=> ?_
 have a:=o_t hx q o_c3 u hZ t hw
 have N0:=Fr.nil n0
 obtain ⟨C,v,i,f,D⟩:=id o
 have f:Arv Z h0 ma ka .int (2:Int32) [(.int w0),(.int w1)] (.int (0:Int32)):=f
 refine o_e 1 0 X0 a ?_
 refine o_p 6 1 X0 a rfl ((if0 _ _).trans (flt (by decide: ¬((1:Int32)<(0:Int32)))).2.1) ?_
 refine o_e 7 4 X0 a ?_
 refine o_c 8 5 X0 a ?_
 refine o_h 11 6 40 X0 a e0 i fun E g k=> ?_
 refine o_C 12 7 g a k f ?_
 refine o_z 20 8 g a rfl (tlt (by decide:(1:Int32)<(2:Int32))).1 ?_
 refine o_c 21 12 g a ?_
 refine o_h 24 13 40 g a k i fun F n w=> ?_
 refine o_c 25 14 n a ?_
 refine o_h 28 15 40 n a w i fun G b j=> ?_
 refine o_C 29 16 b a j f ?_
 refine o_e 30 17 b a ?_
 refine o_J 31 18 b a (z:=(1:Int32)) ?_
 refine o_g 32 19 1 b a ?_
 refine o_J 33 20 b a (z:=(0:Int32)) ?_
 refine o_Q 34 21 b a j f (x:=w0) ?_
 refine o_O 35 22 #[_,_,_] b a ?_
 refine o_c 36 23 b a ?_
 refine o_h 39 24 38 b a j v fun H h e255=> ?_
 refine o_r 42 25 h a rfl ((if0 _ _).trans (flt (by decide: ¬((1:Int32)<(0:Int32)))).1) ?_
 refine o_e 43 26 h a ?_
 refine o_w 62 27 h a ?_
 exact o_W 38 h a hret r (by rw[e255];exact ⟨rfl,N0,rfl⟩)
def o_nT (Z:State)(bx ma:Addr)(ka:ClassId)(w0 w1:Int32)(h0:Heap)(n0:Nat)(v:Option Value)(h:Heap)(L:List Loc):Prop:=v=some (.int w1)∧Fr n0 L∧h=h0
theorem o_nU (l:Launch)(Z:State)(a0:Array Value)(hw: ∀d∈tables_1,d.before a0 Z=true)(ws:List Jvm.Cond)(bx ma:Addr)(ka:ClassId)(w0 w1:Int32)(h0:Heap)(n0:Nat)(Z0:n0≤h0.size)(A:Old Z n0 h0)(o:o_U Z h0 bx ma ka [w0,w1]):
  o_q l (⟨"java/math/BigInteger","getInt","(I)I"⟩:MethodName) (Jvm.Cond.code (⟨"java/math/BigInteger","getInt","(I)I"⟩:MethodName) jdk_2097_method_148_code 3 (some .int)::ws) ({frames:=1,cells:=0,slots:=0,locals:=14}:Room) #[(.ref bx),(.int (0:Int32))] Z h0 (o_nT Z bx ma ka w0 w1 h0 n0):=by
 refine o_u (plainFor_of_name o_Y) (fun m=>o_lY m bx (0:Int32)) fun p e s m B C c s₁ hx q r t (u:s.vm.findClass "java/math/BigInteger"=some m.cls) hnm hret X0 hZ e0=> ?_
 have a:=o_t hx q o_c3 u hZ t hw
 have N0:=Fr.nil n0
 obtain ⟨D,v,i,f,E⟩:=id o
 have f:Arv Z h0 ma ka .int (2:Int32) [(.int w0),(.int w1)] (.int (0:Int32)):=f
 refine o_e 1 0 X0 a ?_
 refine o_p 6 1 X0 a rfl ((if0 _ _).trans (flt (by decide: ¬((0:Int32)<(0:Int32)))).2.1) ?_
 refine o_e 7 4 X0 a ?_
 refine o_c 8 5 X0 a ?_
 refine o_h 11 6 40 X0 a e0 i fun F g k=> ?_
 refine o_C 12 7 g a k f ?_
 refine o_z 20 8 g a rfl (tlt (by decide:(0:Int32)<(2:Int32))).1 ?_
 refine o_c 21 12 g a ?_
 refine o_h 24 13 40 g a k i fun G n w=> ?_
 refine o_c 25 14 n a ?_
 refine o_h 28 15 40 n a w i fun H b j=> ?_
 refine o_C 29 16 b a j f ?_
 refine o_e 30 17 b a ?_
 refine o_J 31 18 b a (z:=(2:Int32)) ?_
 refine o_g 32 19 1 b a ?_
 refine o_J 33 20 b a (z:=(1:Int32)) ?_
 refine o_Q 34 21 b a j f (x:=w1) ?_
 refine o_O 35 22 #[_,_,_] b a ?_
 refine o_c 36 23 b a ?_
 refine o_h 39 24 38 b a j v fun I h y=> ?_
 refine o_r 42 25 h a rfl ((if0 _ _).trans (flt (by decide: ¬((1:Int32)<(0:Int32)))).1) ?_
 refine o_e 43 26 h a ?_
 refine o_w 62 27 h a ?_
 exact o_W 38 h a hret r (by rw[y];exact ⟨rfl,N0,rfl⟩)
def o_nV (Z:State)(bx ma:Addr)(ka:ClassId)(w0 w1:Int32)(h0:Heap)(n0:Nat)(v:Option Value)(h:Heap)(L:List Loc):Prop:= ∃r:Int64,v=some (.long r)∧Fr n0 L∧h=h0∧r.toInt=(o_a w0*4294967296+o_a w1)
theorem o_nW (l:Launch)(Z:State)(a0:Array Value)(hw: ∀d∈tables_1,d.before a0 Z=true)(ws:List Jvm.Cond)(bx ma:Addr)(ka:ClassId)(w0 w1:Int32)(h0:Heap)(n0:Nat)(Z0:n0≤h0.size)(h:Old Z n0 h0)(g:o_U Z h0 bx ma ka [w0,w1])(j:o_a w0*4294967296+o_a w1<9007199254740992):
  o_q l (⟨"java/math/BigInteger","longValue","()J"⟩:MethodName) (Jvm.Cond.code (⟨"java/math/BigInteger","longValue","()J"⟩:MethodName) jdk_2097_method_136_code 4 (some .long)::ws) ({frames:=2,cells:=0,slots:=0,locals:=34}:Room) #[(.ref bx)] Z h0 (o_nV Z bx ma ka w0 w1 h0 n0):=by
 refine o_u (plainFor_of_name o_Y) (fun m=>o_lZ m bx) fun p e s m A B c s₁ hx k n o (q:s.vm.findClass "java/math/BigInteger"=some m.cls) hnm hret X0 hZ e0=> ?_
 have a:=o_t hx k o_fF q hZ o hw
 have N0:=Fr.nil n0
 have KP:Keep h0 h0 []:=Keep.refl _ _
 obtain ⟨i,C,D,E,F⟩:=id g
 refine o_ac 1 0 0 X0 a ?_
 refine o_bl 2 1 #[_,_,_,_] X0 a ?_
 refine o_g 3 2 1 X0 a ?_
 refine o_O 4 3 #[_,_,_,_] X0 a ?_
 refine o_e 5 4 X0 a ?_
 refine o_r 8 5 X0 a rfl ((if0 _ _).trans (flt (by decide: ¬((1:Int32)<(0:Int32)))).1) ?_
 refine o_P 9 6 X0 a ?_
 refine o_B 11 7 32 X0 a ?_
 refine o_ay 12 8 X0 a ?_
 refine o_c 13 9 X0 a ?_
 refine o_e 14 10 X0 a ?_
 refine o_aD 17 1 2 0 0 11 187 188 190 189 24 191 X0 a (o_nS l Z a0 hw [] bx ma ka w0 w1 h0 n0 (Nat.le_trans Z0 KP.1) h g) o_aN e0 i fun _ G H b r=> ?_
 obtain ⟨rfl,t,u⟩:=r
 have v:=Fr.app N0 t
 refine o_k [_,_] ?_
 refine o_D 18 12 b a ?_
 refine o_y 21 53 13 b a ?_
 refine o_A 22 14 b a ?_
 refine o_4 23 15 b a ?_
 refine o_bl 24 16 #[_,_,_,_] b a ?_
 refine o_G 27 17 #[_,_,_,iv 0] b a ?_
 refine o_w 4 18 b a ?_
 refine o_e 5 4 b a ?_
 refine o_r 8 5 b a rfl ((if0 _ _).trans (flt (by decide: ¬((0:Int32)<(0:Int32)))).1) ?_
 refine o_P 9 6 b a ?_
 refine o_B 11 7 32 b a ?_
 refine o_ay 12 8 b a ?_
 refine o_c 13 9 b a ?_
 refine o_e 14 10 b a ?_
 refine o_aD 17 1 2 0 0 11 187 188 190 189 24 191 b a (o_nU l Z a0 hw [] bx ma ka w0 w1 h0 n0 (Nat.le_trans Z0 KP.1) h g) o_aN u i fun _ I J f w=> ?_
 obtain ⟨rfl,x,y⟩:=w
 have z:=Fr.app v x
 refine o_k [_,_] ?_
 refine o_D 18 12 f a ?_
 refine o_y 21 53 13 f a ?_
 refine o_A 22 14 f a ?_
 refine o_4 23 15 f a ?_
 refine o_bl 24 16 #[_,_,_,_] f a ?_
 refine o_G 27 17 #[_,_,_,iv (-1:Int32)] f a ?_
 refine o_w 4 18 f a ?_
 refine o_e 5 4 f a ?_
 refine o_p 30 5 f a rfl ((if0 _ _).trans (tlt (by decide:(-1:Int32)<(0:Int32))).1) ?_
 refine o_P 31 19 f a ?_
 exact o_a1 20 f a hret n (by rw[y];exact ⟨_,rfl,z,rfl,o_hw j⟩)
def o_nX (Z:State)(mb a:Addr)(ka:ClassId)(h0:Heap)(n0:Nat)(v:Option Value)(h:Heap)(L:List Loc):Prop:=v=none∧Fr n0 L∧Keep h0 h [mb,a]∧Exa Z h mb "java/math/MutableBigInteger"∧Fld Z h mb "java/math/MutableBigInteger" "offset" "I" (.int (0:Int32))∧Fld Z h mb "java/math/MutableBigInteger" "value" "[I" (.ref a)∧Fld Z h mb "java/math/MutableBigInteger" "intLen" "I" (.int (0:Int32))∧Arv Z h a ka .int (1:Int32) [(.int (0:Int32))] (.int (0:Int32))
theorem o_nY (l:Launch)(Z:State)(a0:Array Value)(hw: ∀d∈tables_1,d.before a0 Z=true)(ws:List Jvm.Cond)(mb a:Addr)(ka:ClassId)(h0:Heap)(n0:Nat)(Z0:n0≤h0.size)(W:Old Z n0 h0)(oo ll y:Int32)(A:n0≤mb)(F:n0≤a)(v:mb≠a)(f:Exa Z h0 mb "java/math/MutableBigInteger")(h:Fld Z h0 mb "java/math/MutableBigInteger" "offset" "I" (.int oo))(g:Fld Z h0 mb "java/math/MutableBigInteger" "value" "[I" (.ref a))(j:Fld Z h0 mb "java/math/MutableBigInteger" "intLen" "I" (.int ll))(n:Arv Z h0 a ka .int (1:Int32) [(.int y)] (.int (0:Int32))):
  o_q l (⟨"java/math/MutableBigInteger","clear","()V"⟩:MethodName) (Jvm.Cond.code (⟨"java/math/MutableBigInteger","clear","()V"⟩:MethodName) jdk_2101_method_13_code 3 none::ws) ({frames:=0,cells:=0,slots:=0,locals:=0}:Room) #[(.ref mb)] Z h0 (o_nX Z mb a ka h0 n0):=by
 refine o_u (plainFor_of_name o_ag) (fun m=>o_l0 m mb) fun p e s m X Y c s₁ hx B G H (I:s.vm.findClass "java/math/MutableBigInteger"=some m.cls) hnm hret X0 hZ e0=> ?_
 have D:=o_S B o_fG
 have b:=o_t hx B o_fG I hZ H hw
 have N0:=Fr.nil n0
 have KP:Keep h0 h0 [mb,a]:=Keep.refl _ _
 refine o_c 1 0 X0 b ?_
 refine o_c 2 1 X0 b ?_
 refine o_g 3 2 0 X0 b ?_
 refine o_i (T':=s₁) (mkF m 4 #[rv mb,.unset,.unset] [(.int (0:Int32)),(.ref mb),(.int (0:Int32)),(.ref mb)]) (fun _ k=>XS.dupX1 X0.here hx rfl (D 3 rfl) rfl rfl rfl k) ?_
 refine o_R 7 4 113 102 X0 b e0 j f (Or.inl (o_b hw 114 rfl)) (ty:= .int) fun ad J C K r=> ?_
 have L:=Fr.snoc C N0 A
 have M:Fld Z J mb "java/math/MutableBigInteger" "intLen" "I" (.int (0:Int32)):=j.same r
 have KP:=KP.wr r (Or.inl (List.mem_of_getElem? (i:=0) rfl))
 have f:=f.wr r
 have h:=h.other r (Or.inr (slot_ne (Or.inl (o_b hw 110 rfl)) (Or.inl (o_b hw 114 rfl)) (by decide) (t:= .int) (t':= .int) (by decide) (by decide)))
 have g:=g.other r (Or.inr (slot_ne (Or.inl (o_b hw 112 rfl)) (Or.inl (o_b hw 114 rfl)) (by decide) (t:=(.array .int)) (t':= .int) (by decide) (by decide)))
 have n:=n.other r (Ne.symm v)
 have j:=M
 refine o_R 10 5 109 102 C b K h f (Or.inl (o_b hw 110 rfl)) (ty:= .int) fun ae N w O u=> ?_
 have P:=Fr.snoc w L A
 have Q:Fld Z N mb "java/math/MutableBigInteger" "offset" "I" (.int (0:Int32)):=h.same u
 have KP:=KP.wr u (Or.inl (List.mem_of_getElem? (i:=0) rfl))
 have f:=f.wr u
 have g:=g.other u (Or.inr (slot_ne (Or.inl (o_b hw 112 rfl)) (Or.inl (o_b hw 110 rfl)) (by decide) (t:=(.array .int)) (t':= .int) (by decide) (by decide)))
 have j:=j.other u (Or.inr (slot_ne (Or.inl (o_b hw 114 rfl)) (Or.inl (o_b hw 110 rfl)) (by decide) (t:= .int) (t':= .int) (by decide) (by decide)))
 have n:=n.other u (Ne.symm v)
 have h:=Q
 refine o_g 11 6 0 w b ?_
 refine o_O 12 7 #[_,_,_] w b ?_
 refine o_c 13 8 w b ?_
 refine o_h 16 9 111 w b O g fun af o E=> ?_
 refine o_C 17 10 o b E n ?_
 refine o_O 18 11 #[_,_,_] o b ?_
 refine o_e 19 12 o b ?_
 refine o_e 20 13 o b ?_
 refine o_E 23 14 o b rfl (tlt (by decide:(0:Int32)<(1:Int32))).2.1 ?_
 refine o_c 24 15 o b ?_
 refine o_h 27 16 111 o b E g fun ag z R=> ?_
 refine o_e 28 17 z b ?_
 refine o_g 29 18 0 z b ?_
 refine o_8 30 0 19 z b R n fun ah S q T x U=> ?_
 have V:=Fr.snoc q P F
 have KP:=KP.wr x (Or.inl (List.mem_of_getElem? (i:=1) rfl))
 have f:=f.wr x
 have h:=h.other x (Or.inl v)
 have g:=g.other x (Or.inl v)
 have j:=j.other x (Or.inl v)
 have n:Arv Z S a ka .int (1:Int32) [(.int (0:Int32))] (.int (0:Int32)):=U
 refine o_G 33 20 #[_,iv 1,_] q b ?_
 refine o_w 18 21 q b ?_
 refine o_e 19 12 q b ?_
 refine o_e 20 13 q b ?_
 refine o_z 36 14 q b rfl (flt (by decide: ¬((1:Int32)<(1:Int32)))).2.1 ?_
 exact o_al 22 q b hret G (by rw[T];exact ⟨rfl,V,KP,f,h,g,j,n⟩)
def o_d2 (Z:State)(ra:Addr)(kr:ClassId)(zz:Int32)(f:Nat→Int32)(a dl xq:Int32)(k:Nat)(h0:Heap)(n0:Nat)(v:Option Value)(h:Heap)(L:List Loc):Prop:= ∃b' c' r:Int32,v=some (.int r)∧Fr n0 L∧Keep h0 h [ra]∧o_x Z h ra kr zz (o_T (o_T f (k+2) c') (k+1) b')∧o_cR (f (k+1)) (f (k+2)) a dl xq b' c' r
theorem o_gc (l:Launch)(Z:State)(a0:Array Value)(hw: ∀d∈tables_1,d.before a0 Z=true)(ws:List Jvm.Cond)(mb ra:Addr)(kr:ClassId)(zz:Int32)(f:Nat→Int32)(da:Addr)(kd:ClassId)(r dl xq h:Int32)(k:Nat)(h0:Heap)(n0:Nat)(Z0:n0≤h0.size)(OL:Old Z n0 h0)(w:n0≤ra)(G:da≠ra)(j:o_x Z h0 ra kr zz f)(t:Arv Z h0 da kd .int (2:Int32) [(.int r),(.int dl)] (.int (0:Int32)))(hk:h.toInt=k)(hz:((k+2:Nat):Int)<zz.toInt):
  o_q l (⟨"java/math/MutableBigInteger","mulsub","([I[IIII)I"⟩:MethodName) (Jvm.Cond.code (⟨"java/math/MutableBigInteger","mulsub","([I[IIII)I"⟩:MethodName) jdk_2101_method_39_code 15 (some .int)::ws) ({frames:=0,cells:=0,slots:=0,locals:=0}:Room) #[(.ref mb),(.ref ra),(.ref da),(.int xq),(.int (2:Int32)),(.int h)] Z h0 (o_d2 Z ra kr zz f r dl xq k h0 n0):=by
 refine o_u (plainFor_of_name o_ag) (fun m=>o_l1 m mb ra da xq (2:Int32) h) fun p e s m y ai c s₁ hx A H I (J:s.vm.findClass "java/math/MutableBigInteger"=some m.cls) hnm hret X0 hZ e0=> ?_
 have D:=o_S A o_fH
 have a:=o_t hx A o_fH J hZ I hw
 have N0:=Fr.nil n0
 have KP:Keep h0 h0 [ra]:=Keep.refl _ _
 refine o_e 1 0 X0 a ?_
 refine o_D 2 1 X0 a ?_
 refine o_y 5 214 2 X0 a ?_
 refine o_A 6 3 X0 a ?_
 generalize K:((xq.toInt64)&&&(4294967295:Int64))=xl
 have i2:=o_bc (c:=2) (n:=2) hk rfl hz
 have i1:=o_dK (k:=k+1) i2
 refine o_H 8 4 #[_,_,_,_,_,_,_,_,_,_,_,_,_,_,_] X0 a ?_
 refine o_ac 9 5 0 X0 a ?_
 refine o_H 11 6 #[_,_,_,_,_,_,_,_,_,_,_,_,_,_,_] X0 a ?_
 refine o_d 13 7 X0 a ?_
 refine o_d 15 8 X0 a ?_
 refine o_v 16 9 X0 a ?_
 refine o_o 18 10 #[_,_,_,_,_,_,_,_,_,_,_,_,_,_,_] X0 a ?_
 refine o_d 20 11 X0 a ?_
 refine o_g 21 12 1 X0 a ?_
 refine o_J 22 13 X0 a (z:=(1:Int32)) ?_
 refine o_o 24 14 #[_,_,_,_,_,_,_,_,_,_,_,_,_,_,_] X0 a ?_
 refine o_d 26 15 X0 a ?_
 refine o_r 29 16 X0 a rfl ((if0 _ _).trans (flt (by decide: ¬((1:Int32)<(0:Int32)))).1) ?_
 refine o_c 30 17 X0 a ?_
 refine o_d 32 18 X0 a ?_
 refine o_Q 33 19 X0 a e0 t (x:=dl) ?_
 refine o_D 34 20 X0 a ?_
 refine o_y 37 214 21 X0 a ?_
 refine o_A 38 22 X0 a ?_
 refine o_j 40 23 X0 a ?_
 refine o_ah 41 24 X0 a ?_
 refine o_j 43 25 X0 a ?_
 refine o_4 44 26 X0 a ?_
 generalize L:((((dl.toInt64)&&&(4294967295:Int64))*xl)+(0:Int64))=pr1
 refine o_H 46 27 #[_,_,_,_,_,_,_,_,_,_,_,_,_,_,_] X0 a ?_
 refine o_c 47 28 X0 a ?_
 refine o_d 49 29 X0 a ?_
 refine o_ai 50 (k+2) X0 hx hZ e0 j i2 hz (D 30 rfl) rfl ?_
 refine o_D 51 31 X0 a ?_
 refine o_j 53 32 X0 a ?_
 refine o_aK 54 33 X0 a ?_
 generalize M:(((f (k+2)).toInt64)-pr1)=u
 refine o_H 56 34 #[_,_,_,_,_,_,_,_,_,_,_,_,_,_,_] X0 a ?_
 refine o_c 57 35 X0 a ?_
 refine o_d 59 36 X0 a ?_
 refine o_G 62 37 #[_,_,_,_,_,iv ((h+(2:Int32))+(-1:Int32)),_,_,_,_,_,_,_,_,_] X0 a ?_
 refine o_j 64 38 X0 a ?_
 refine o_X 65 39 X0 a ?_
 refine o_as 66 (k+2) X0 hx hZ e0 j i2 hz (D 40 rfl) rfl fun N aj b v B O=> ?_
 have P:=Fr.snoc b N0 w
 have KP:=KP.wr B (Or.inl (List.mem_of_getElem? (i:=0) rfl))
 have t:=t.other B G
 have j:=O
 refine o_j 68 41 b a ?_
 refine o_B 70 42 32 b a ?_
 refine o_ak 71 43 b a ?_
 refine o_j 73 44 b a ?_
 refine o_y 76 214 45 b a ?_
 refine o_A 77 46 b a ?_
 refine o_j 79 47 b a ?_
 refine o_X 80 48 b a ?_
 refine o_g 81 49 (-1) b a ?_
 refine o_dH 82 50 b a ?_
 refine o_D 83 51 b a ?_
 refine o_y 86 214 52 b a ?_
 refine o_A 87 53 b a ?_
 refine o_3 88 54 b a ?_
 suffices C: ∀g1:Int32,((0:Int32)<(lcmpW (u&&&(4294967295:Int64)) ((((pr1.toInt32)^^^(-1:Int32)).toInt64)&&&(4294967295:Int64)))→g1=(1:Int32))→(¬(0:Int32)<(lcmpW (u&&&(4294967295:Int64)) ((((pr1.toInt32)^^^(-1:Int32)).toInt64)&&&(4294967295:Int64)))→g1=(0:Int32))→o_f p e y (o_V s (o_d2 Z ra kr zz f r dl xq k h0 n0) ({frames:=0,cells:=0,slots:=0,locals:=0}:Room).cells ({frames:=0,cells:=0,slots:=0,locals:=0}:Room).slots) N (mkF m 96 #[rv mb,rv ra,rv da,iv xq,iv 2,iv ((h+(2:Int32))+(-1:Int32)),.val (.long xl),.second,.val (.long (0:Int64)),.second,iv 1,.val (.long pr1),.second,.val (.long u),.second] [(.int g1),(.long ((pr1.toUInt64>>>((32:Int32)&&&0x3f).toInt64.toUInt64).toInt64))]) from by
  by_cases hj1:(0:Int32)<(lcmpW (u&&&(4294967295:Int64)) ((((pr1.toInt32)^^^(-1:Int32)).toInt64)&&&(4294967295:Int64)))
  ·refine o_r 91 55 b a rfl ((if0 _ _).trans (tlt hj1).2.2.2) ?_
   refine o_g 92 56 1 b a ?_
   refine o_w 96 57 b a ?_
   exact C (1:Int32) (fun _=>rfl) (fun q=>absurd hj1 q)
  ·refine o_p 95 55 b a rfl ((if0 _ _).trans (flt hj1).2.2.2) ?_
   refine o_g 96 58 0 b a ?_
   exact C (0:Int32) (fun q=>absurd q hj1) (fun _=>rfl)
 intro g1 Q R
 refine o_D 97 59 b a ?_
 refine o_4 98 60 b a ?_
 generalize S:(((pr1.toUInt64>>>((32:Int32)&&&0x3f).toInt64.toUInt64).toInt64)+(g1.toInt64))=E
 refine o_H 100 61 #[_,_,_,_,_,_,_,_,_,_,_,_,_,_,_] b a ?_
 refine o_G 103 62 #[_,_,_,_,_,_,_,_,_,_,iv 0,_,_,_,_] b a ?_
 refine o_w 24 63 b a ?_
 refine o_d 26 15 b a ?_
 refine o_r 29 16 b a rfl ((if0 _ _).trans (flt (by decide: ¬((0:Int32)<(0:Int32)))).1) ?_
 refine o_c 30 17 b a ?_
 refine o_d 32 18 b a ?_
 refine o_Q 33 19 b a v t (x:=r) ?_
 refine o_D 34 20 b a ?_
 refine o_y 37 214 21 b a ?_
 refine o_A 38 22 b a ?_
 refine o_j 40 23 b a ?_
 refine o_ah 41 24 b a ?_
 refine o_j 43 25 b a ?_
 refine o_4 44 26 b a ?_
 generalize T:((((r.toInt64)&&&(4294967295:Int64))*xl)+E)=o
 refine o_H 46 27 #[_,_,_,_,_,_,_,_,_,_,_,_,_,_,_] b a ?_
 refine o_c 47 28 b a ?_
 refine o_d 49 29 b a ?_
 refine o_ai 50 (k+1) b hx hZ v j i1 (Int.lt_trans (Int.ofNat_lt.mpr (Nat.lt_succ_self (k+1))) hz) (D 30 rfl) rfl ?_
 rw[o_bI (f:=f) (by omega: ¬k+1=k+2)]
 refine o_D 51 31 b a ?_
 refine o_j 53 32 b a ?_
 refine o_aK 54 33 b a ?_
 generalize U:(((f (k+1)).toInt64)-o)=df2
 refine o_H 56 34 #[_,_,_,_,_,_,_,_,_,_,_,_,_,_,_] b a ?_
 refine o_c 57 35 b a ?_
 refine o_d 59 36 b a ?_
 refine o_G 62 37 #[_,_,_,_,_,iv (((h+(2:Int32))+(-1:Int32))+(-1:Int32)),_,_,_,_,_,_,_,_,_] b a ?_
 refine o_j 64 38 b a ?_
 refine o_X 65 39 b a ?_
 refine o_as 66 (k+1) b hx hZ v j i1 (Int.lt_trans (Int.ofNat_lt.mpr (Nat.lt_succ_self (k+1))) hz) (D 40 rfl) rfl fun V ak g W X Y=> ?_
 have ad:=Fr.snoc g P w
 have KP:=KP.wr X (Or.inl (List.mem_of_getElem? (i:=0) rfl))
 have j:=Y
 refine o_j 68 41 g a ?_
 refine o_B 70 42 32 g a ?_
 refine o_ak 71 43 g a ?_
 refine o_j 73 44 g a ?_
 refine o_y 76 214 45 g a ?_
 refine o_A 77 46 g a ?_
 refine o_j 79 47 g a ?_
 refine o_X 80 48 g a ?_
 refine o_g 81 49 (-1) g a ?_
 refine o_dH 82 50 g a ?_
 refine o_D 83 51 g a ?_
 refine o_y 86 214 52 g a ?_
 refine o_A 87 53 g a ?_
 refine o_3 88 54 g a ?_
 suffices F: ∀g2:Int32,((0:Int32)<(lcmpW (df2&&&(4294967295:Int64)) ((((o.toInt32)^^^(-1:Int32)).toInt64)&&&(4294967295:Int64)))→g2=(1:Int32))→(¬(0:Int32)<(lcmpW (df2&&&(4294967295:Int64)) ((((o.toInt32)^^^(-1:Int32)).toInt64)&&&(4294967295:Int64)))→g2=(0:Int32))→o_f p e y (o_V s (o_d2 Z ra kr zz f r dl xq k h0 n0) ({frames:=0,cells:=0,slots:=0,locals:=0}:Room).cells ({frames:=0,cells:=0,slots:=0,locals:=0}:Room).slots) V (mkF m 96 #[rv mb,rv ra,rv da,iv xq,iv 2,iv (((h+(2:Int32))+(-1:Int32))+(-1:Int32)),.val (.long xl),.second,.val (.long E),.second,iv 0,.val (.long o),.second,.val (.long df2),.second] [(.int g2),(.long ((o.toUInt64>>>((32:Int32)&&&0x3f).toInt64.toUInt64).toInt64))]) from by
  by_cases hj2:(0:Int32)<(lcmpW (df2&&&(4294967295:Int64)) ((((o.toInt32)^^^(-1:Int32)).toInt64)&&&(4294967295:Int64)))
  ·refine o_r 91 55 g a rfl ((if0 _ _).trans (tlt hj2).2.2.2) ?_
   refine o_g 92 56 1 g a ?_
   refine o_w 96 57 g a ?_
   exact F (1:Int32) (fun _=>rfl) (fun q=>absurd hj2 q)
  ·refine o_p 95 55 g a rfl ((if0 _ _).trans (flt hj2).2.2.2) ?_
   refine o_g 96 58 0 g a ?_
   exact F (0:Int32) (fun q=>absurd q hj2) (fun _=>rfl)
 intro g2 ae af
 refine o_D 97 59 g a ?_
 refine o_4 98 60 g a ?_
 generalize ag:(((o.toUInt64>>>((32:Int32)&&&0x3f).toInt64.toUInt64).toInt64)+(g2.toInt64))=al
 have hxl:xl.toInt=o_a xq:=K▸o_2 xq
 have M1:=o_eY hxl (o_m xq) o_b5 L M Q R S
 have M2:=o_eY hxl (o_m xq) M1.2 T U ae af ag
 refine o_H 100 61 #[_,_,_,_,_,_,_,_,_,_,_,_,_,_,_] g a ?_
 refine o_G 103 62 #[_,_,_,_,_,_,_,_,_,_,iv (-1:Int32),_,_,_,_] g a ?_
 refine o_w 24 63 g a ?_
 refine o_d 26 15 g a ?_
 refine o_p 106 16 g a rfl ((if0 _ _).trans (tlt (by decide:(-1:Int32)<(0:Int32))).1) ?_
 refine o_j 108 64 g a ?_
 refine o_X 109 65 g a ?_
 exact o_W 66 g a hret H (by rw[W];exact ⟨_,_,_,rfl,ad,KP,j,o_hL hxl M1 M2⟩)
def o_d3 (h0:Heap)(n0:Nat)(qx b da rm ra qa:Addr)(a:Int32)(c:Int64):Prop:=n0≤rm∧n0≤ra∧n0≤qx∧n0≤qa∧h0.size≤rm∧h0.size≤ra∧(qa∈ [qx,b]∨h0.size≤qa)∧rm≠ra∧da≠ra∧qx≠ra∧qa≠ra∧rm≠qa∧da≠qa∧qx≠qa∧qx≠rm∧da≠rm∧qa≠rm∧2147483648≤o_a a∧c.toInt=o_a a
def o_bB (Z:State)(h0:Heap)(n0:Nat)(mb qx a da rm ra qa:Addr)(kd kr kq:ClassId)(lim ll b dl zr c:Int32)(h:Heap)(f g:Nat→Int32):Prop:=Old Z n0 h∧Keep h0 h [qx,a]∧Exa Z h mb "java/math/MutableBigInteger"∧Exa Z h rm "java/math/MutableBigInteger"∧Fld Z h rm "java/math/MutableBigInteger" "offset" "I" (.int (0:Int32))∧Fld Z h rm "java/math/MutableBigInteger" "value" "[I" (.ref ra)∧Fld Z h rm "java/math/MutableBigInteger" "intLen" "I" (.int ll)∧Exa Z h ra "[I"∧o_x Z h ra kr zr f∧Arv Z h da kd .int (2:Int32) [(.int b),(.int dl)] (.int (0:Int32))∧Exa Z h qx "java/math/MutableBigInteger"∧Fld Z h qx "java/math/MutableBigInteger" "offset" "I" (.int (0:Int32))∧Fld Z h qx "java/math/MutableBigInteger" "value" "[I" (.ref qa)∧Fld Z h qx "java/math/MutableBigInteger" "intLen" "I" (.int lim)∧Exa Z h qa "[I"∧o_x Z h qa kq c g
theorem o_d4 (l:Launch)(Z:State)(a0:Array Value)(hw: ∀d∈tables_1,d.before a0 Z=true)(p:Program)(e:Env)(s:State)(m:MethodId)(L:List Frame)(aq:Method)(c:Code)(Fn:Outcome→State→Prop)(hx:p.tables.exec=Jvm.exec)(aR:c.code=jdk_2101_method_65_code)(bj:c.maxLocals=28)(bk:s.vm.findClass "java/math/MutableBigInteger"=some m.cls)(hZ:Z.Warmed39 s.vm)(h0:Heap)(n0:Nat)(Z0:n0≤h0.size)(mb dv qx qz da rm ra qa:Addr)(kd kr kq:ClassId)(sh nl lim ll o dl zr zq:Int32)(q:Int64)(G H:Nat)(hkc:G≤4)(hks:H≤24)(j j1:Int32)(k:Nat)(f g:Nat→Int32)(g16:Slot)(g17:Slot)(g18:Slot)(g19:Slot)(g20:Slot)(V:Slot)(g22:Slot)(g23:Slot)(g24:Slot)(g25:Slot)(y:Slot)(g27:Slot)(T0:State)(h1:Heap)(aS:List Loc)(X0:Stand p l e ({frames:=3,cells:=4,slots:=24,locals:=60}:Room) s m #[.ref mb,.ref dv,.ref qx,.int 1] L aq c T0 aS G H)(e0:T0.heap=h1)(N0:Fr n0 aS)(C:o_d3 h0 n0 qx qz da rm ra qa o q)(S0:o_bB Z h0 n0 mb qx qz da rm ra qa kd kr kq lim ll o dl zr zq h1 f g)(c16:o_9 g16)(c17:o_9 g17)(c18:o_9 g18)(c19:o_9 g19)(c20:o_9 g20)(WF:o_am V g22 g23 g24 g25 y g27)(hk:j.toInt=k)(hj1:j+1=j1)(hz:((k+2:Nat):Int)<zr.toInt)(bl:(k:Int)<zq.toInt)(hg:g k=0)(hn:o_a (f k)*4294967296+o_a (f (k+1))<o_a o*4294967296+o_a dl)
  (K: ∀(T':State) (h':Heap) (L':List Loc) (w16:Slot) (aT:Slot) (aU:Slot) (aV:Slot) (aW:Slot) (aX:Slot) (aY:Slot) (aZ:Slot) (a5:Slot) (a6:Slot) (a7:Slot) (a8:Slot) (qd b' c':Int32),Stand p l e ({frames:=3,cells:=4,slots:=24,locals:=60}:Room) s m #[.ref mb,.ref dv,.ref qx,.int 1] L aq c T' L' G H→T'.heap=h'→Fr n0 L'→o_bB Z h0 n0 mb qx qz da rm ra qa kd kr kq lim ll o dl zr zq h' (o_T (o_T (o_T f k 0) (k+2) c') (k+1) b') (o_T g k qd)→o_9 w16→o_9 aT→o_9 aU→o_9 aV→o_9 aW→o_am aX aY aZ a5 a6 a7 a8→o_cL (f k) (f (k+1)) (f (k+2)) o dl qd b' c'→o_f p e L Fn T' (mkF m 423 #[rv mb,rv dv,rv qx,iv 1,iv sh,iv 2,rv da,rv rm,iv nl,iv lim,rv qa,iv o,.val (.long q),.second,iv dl,iv j1,w16,aT,aU,aV,aW,aX,aY,aZ,a5,a6,a7,a8] [])):o_f p e L Fn T0 (mkF m 432 #[rv mb,rv dv,rv qx,iv 1,iv sh,iv 2,rv da,rv rm,iv nl,iv lim,rv qa,iv o,.val (.long q),.second,iv dl,iv j,g16,g17,g18,g19,g20,V,g22,g23,g24,g25,y,g27] []):=by
 obtain ⟨bX,au,bY,a9,bZ,a_,bm,W,aC,X,aD,aE,bn,aF,b0,b5,b6,ad,hdl⟩:=C
 obtain ⟨z,KP,B,M,v,w,N,O,E,I,P,Q,R,S,T,U⟩:=S0
 have D:=o_S aR o_bV
 have a:=o_t hx aR o_bV bk hZ bj hw
 have hdn:q≠0:=o_e0 hdl ad
 have i0:=o_bc (c:=0) (n:=0) hk rfl (o_a3 hz 2)
 have i1:=o_bc (c:=0) (n:=0) (o_bc (c:=1) (n:=1) hk rfl (o_a3 hz 1)) rfl (o_a3 hz 1)
 have i2:=o_bc (c:=0) (n:=0) (o_bc (c:=2) (n:=2) hk rfl hz) rfl hz
 refine o_g 433 226 0 X0 a ?_
 refine o_az 435 16 #[rv mb,rv dv,rv qx,iv 1,iv sh,iv 2,rv da,rv rm,iv nl,iv lim,rv qa,iv o,.val (.long q),.second,iv dl,iv j,iv 0,g17,g18,g19,g20,V,g22,g23,g24,g25,y,g27] X0 hx (D 227 rfl) rfl c16 rfl rfl ?_
 refine o_g 436 228 0 X0 a ?_
 refine o_az 438 17 #[rv mb,rv dv,rv qx,iv 1,iv sh,iv 2,rv da,rv rm,iv nl,iv lim,rv qa,iv o,.val (.long q),.second,iv dl,iv j,iv 0,iv 0,g18,g19,g20,V,g22,g23,g24,g25,y,g27] X0 hx (D 229 rfl) rfl c17 rfl rfl ?_
 refine o_g 439 230 0 X0 a ?_
 refine o_az 441 18 #[rv mb,rv dv,rv qx,iv 1,iv sh,iv 2,rv da,rv rm,iv nl,iv lim,rv qa,iv o,.val (.long q),.second,iv dl,iv j,iv 0,iv 0,iv 0,g19,g20,V,g22,g23,g24,g25,y,g27] X0 hx (D 231 rfl) rfl c18 rfl rfl ?_
 refine o_l 443 232 X0 a ?_
 refine o_h 446 233 111 X0 a e0 w fun b7 aG bo=> ?_
 refine o_d 448 234 aG a ?_
 refine o_l 450 235 aG a ?_
 refine o_h 453 236 109 aG a bo v fun b8 J a'=> ?_
 refine o_v 454 237 J a ?_
 refine o_ai 455 k J hx hZ a' E i0 (o_a3 hz 2) (D 238 rfl) rfl ?_
 refine o_az 457 19 #[rv mb,rv dv,rv qx,iv 1,iv sh,iv 2,rv da,rv rm,iv nl,iv lim,rv qa,iv o,.val (.long q),.second,iv dl,iv j,iv 0,iv 0,iv 0,iv (f k),g20,V,g22,g23,g24,g25,y,g27] J hx (D 239 rfl) rfl c19 rfl rfl ?_
 refine o_d 459 240 J a ?_
 refine o_aL 461 230 241 J a ?_
 refine o_v 462 242 J a ?_
 refine o_az 464 20 #[rv mb,rv dv,rv qx,iv 1,iv sh,iv 2,rv da,rv rm,iv nl,iv lim,rv qa,iv o,.val (.long q),.second,iv dl,iv j,iv 0,iv 0,iv 0,iv (f k),iv ((f k)+(-2147483648:Int32)),V,g22,g23,g24,g25,y,g27] J hx (D 243 rfl) rfl c20 rfl rfl ?_
 refine o_l 466 244 J a ?_
 refine o_h 469 245 111 J a a' w fun b9 ae bp=> ?_
 refine o_d 471 246 ae a ?_
 refine o_g 472 247 1 ae a ?_
 refine o_v 473 248 ae a ?_
 refine o_l 475 249 ae a ?_
 refine o_h 478 250 109 ae a bp v fun bq b af=> ?_
 refine o_v 479 251 b a ?_
 refine o_ai 480 (k+1) b hx hZ af E i1 (o_a3 hz 1) (D 252 rfl) rfl ?_
 refine o_eI 482 b hx (D 253 rfl) WF rfl fun g22 WF=> ?_
 refine o_d 484 254 b a ?_
 refine o_d 486 255 b a ?_
 suffices jn: ∀(av:State) (aH:List Loc),Stand p l e ({frames:=3,cells:=4,slots:=24,locals:=60}:Room) s m #[.ref mb,.ref dv,.ref qx,.int 1] L aq c av aH G H→Fr n0 aH→av.heap=h1→ ∀(qh qr sk:Int32) (ag ah ai aj y26 ak:Slot),o_am (iv (f (k+1))) ag ah ai aj y26 ak→o_aM (f k) (f (k+1)) o dl qh qr sk→o_f p e L Fn av (mkF m 591 #[rv mb,rv dv,rv qx,iv 1,iv sh,iv 2,rv da,rv rm,iv nl,iv lim,rv qa,iv o,.val (.long q),.second,iv dl,iv j,iv qh,iv qr,iv sk,iv (f k),iv ((f k)+(-2147483648:Int32)),iv (f (k+1)),ag,ah,ai,aj,y26,ak] []) from by
  by_cases hab:(f k)=o
  ·refine o_E 489 256 b a rfl (teq hab).2 ?_
   refine o_g 490 257 (-1) b a ?_
   refine o_o 492 258 #[_,_,_,_,_,_,_,_,_,_,_,_,_,_,_,_,_,_,_,_,_,_,_,_,_,_,_,_] b a ?_
   refine o_d 494 259 b a ?_
   refine o_d 496 260 b a ?_
   refine o_v 497 261 b a ?_
   refine o_o 499 262 #[_,_,_,_,_,_,_,_,_,_,_,_,_,_,_,_,_,_,_,_,_,_,_,_,_,_,_,_] b a ?_
   refine o_d 501 263 b a ?_
   refine o_aL 503 230 264 b a ?_
   refine o_v 504 265 b a ?_
   refine o_d 506 266 b a ?_
   by_cases hov:(((f k)+(f (k+1)))+(-2147483648:Int32))<((f k)+(-2147483648:Int32))
   ·refine o_E 509 267 b a rfl (tlt hov).2.1 ?_
    refine o_g 510 268 1 b a ?_
    refine o_w 514 269 b a ?_
    refine o_o 516 271 #[_,_,_,_,_,_,_,_,_,_,_,_,_,_,_,_,_,_,_,_,_,_,_,_,_,_,_,_] b a ?_
    refine o_w 591 272 b a ?_
    exact jn _ _ b N0 af _ _ _ _ _ _ _ _ _ WF ((o_cN hab hn).1 hov)
   ·refine o_z 513 267 b a rfl (flt hov).2.1 ?_
    refine o_g 514 270 0 b a ?_
    refine o_o 516 271 #[_,_,_,_,_,_,_,_,_,_,_,_,_,_,_,_,_,_,_,_,_,_,_,_,_,_,_,_] b a ?_
    refine o_w 591 272 b a ?_
    exact jn _ _ b N0 af _ _ _ _ _ _ _ _ _ WF ((o_cN hab hn).2 hov)
  ·refine o_z 519 256 b a rfl (feq hab).2 ?_
   have hlt:=o_eK hn hab
   refine o_d 521 273 b a ?_
   refine o_D 522 274 b a ?_
   refine o_B 524 275 32 b a ?_
   refine o_ay 525 276 b a ?_
   refine o_d 527 277 b a ?_
   refine o_D 528 278 b a ?_
   refine o_y 531 214 279 b a ?_
   refine o_A 532 280 b a ?_
   refine o_a0 533 281 b a ?_
   generalize aI:((((f k).toInt64)<<<((32:Int32)&&&0x3f).toInt64)|||(((f (k+1)).toInt64)&&&(4294967295:Int64)))=nC
   refine o_eE 535 b hx (D 282 rfl) WF (Or.inl rfl) rfl fun g24 WF=> ?_
   refine o_j 537 283 b a ?_
   refine o_ac 538 284 0 b a ?_
   refine o_3 539 285 b a ?_
   by_cases hneg:(lcmpW nC (0:Int64))<(0:Int32)
   ·refine o_p 565 286 b a rfl ((if0 _ _).trans (tlt hneg).1) ?_
    refine o_j 567 301 b a ?_
    refine o_d 569 302 b a ?_
    refine o_F 572 2 0 G H 303 295 296 103 297 b a (o_d1 l Z a0 hw [] nC o h1 n0 (Nat.le_trans Z0 KP.1) z ad (o_e1 aI hlt)) o_dW af (hc:=hkc) (hs:=hks) fun _ b_ ca A br=> ?_
    obtain ⟨cb,rfl,bt,bu,hw1,hw2⟩:=br
    have bv:=Fr.app N0 bt
    refine o_k [_] ?_
    refine o_eF 574 A hx (D 304 rfl) WF (Or.inr rfl) rfl fun y WF=> ?_
    refine o_j 576 305 A a ?_
    refine o_y 579 214 306 A a ?_
    refine o_A 580 307 A a ?_
    refine o_X 581 308 A a ?_
    refine o_o 583 309 #[_,_,_,_,_,_,_,_,_,_,_,_,_,_,_,_,_,_,_,_,_,_,_,_,_,_,_,_] A a ?_
    refine o_j 585 310 A a ?_
    refine o_B 587 311 32 A a ?_
    refine o_ak 588 312 A a ?_
    refine o_X 589 313 A a ?_
    refine o_o 591 314 #[_,_,_,_,_,_,_,_,_,_,_,_,_,_,_,_,_,_,_,_,_,_,_,_,_,_,_,_] A a ?_
    exact jn _ _ A bv bu _ _ _ _ _ _ _ _ _ WF (o_eO aI ad hw1 hw2)
   ·refine o_r 542 286 b a rfl ((if0 _ _).trans (flt hneg).1) ?_
    refine o_j 544 287 b a ?_
    refine o_j 546 288 b a ?_
    refine o_i (T':=bq) (mkF m 547 #[rv mb,rv dv,rv qx,iv 1,iv sh,iv 2,rv da,rv rm,iv nl,iv lim,rv qa,iv o,.val (.long q),.second,iv dl,iv j,iv 0,iv 0,iv 0,iv (f k),iv ((f k)+(-2147483648:Int32)),iv (f (k+1)),.val (.long nC),.second,g24,g25,y,g27] [(.long (nC/q))]) (fun _ k=>XS.ldiv b.here hx rfl (D 289 rfl) rfl hdn k) ?_
    refine o_X 548 290 b a ?_
    refine o_o 550 291 #[_,_,_,_,_,_,_,_,_,_,_,_,_,_,_,_,_,_,_,_,_,_,_,_,_,_,_,_] b a ?_
    refine o_j 552 292 b a ?_
    refine o_d 554 293 b a ?_
    refine o_D 555 294 b a ?_
    refine o_j 557 295 b a ?_
    refine o_ah 558 296 b a ?_
    refine o_aK 559 297 b a ?_
    refine o_X 560 298 b a ?_
    refine o_o 562 299 #[_,_,_,_,_,_,_,_,_,_,_,_,_,_,_,_,_,_,_,_,_,_,_,_,_,_,_,_] b a ?_
    refine o_w 591 300 b a ?_
    exact jn _ _ b N0 af _ _ _ _ _ _ _ _ _ WF (o_eN aI hdl ad hlt hneg)
 intro av aH x aJ aK qh qr sk g22 g23 g24 g25 y g27 WF TR
 refine o_d 593 315 x a ?_
 by_cases hq0:qh=(0:Int32)
 ·refine o_r 596 316 x a rfl ((if0 _ _).trans (teq hq0).2) ?_
  have Z1:=o_eX (c:=f (k+2)) TR hq0
  refine o_w 822 317 x a ?_
  refine o_G 825 437 #[_,_,_,_,_,_,_,_,_,_,_,_,_,_,_,iv (j+(1:Int32)),_,_,_,_,_,_,_,_,_,_,_,_] x a ?_
  refine o_w 423 438 x a ?_
  rw[hj1]
  exact K _ _ _ _ _ _ _ _ _ _ _ _ _ _ _ 0 (f (k+1)) (f (k+2)) x aK aJ ⟨z,KP,B,M,v,w,N,O,(E.fe (o_e2 (o_cA Z1.1))),I,P,Q,R,S,T,(U.fe (o_e3 hg))⟩ ⟨rfl,rfl⟩ ⟨rfl,rfl⟩ ⟨rfl,rfl⟩ ⟨rfl,rfl⟩ ⟨rfl,rfl⟩ WF Z1.2
 ·refine o_p 599 316 x a rfl ((if0 _ _).trans (feq hq0).2) ?_
  refine o_d 601 318 x a ?_
  suffices jm: ∀(aw:State) (aL:List Loc),Stand p l e ({frames:=3,cells:=4,slots:=24,locals:=60}:Room) s m #[.ref mb,.ref dv,.ref qx,.int 1] L aq c aw aL G H→Fr n0 aL→aw.heap=h1→ ∀(qd qs:Int32) (ag ah ai aj y26 ak:Slot),o_am (iv (f (k+1))) ag ah ai aj y26 ak→o_a2 (f k) (f (k+1)) (f (k+2)) o dl qd→o_f p e L Fn aw (mkF m 740 #[rv mb,rv dv,rv qx,iv 1,iv sh,iv 2,rv da,rv rm,iv nl,iv lim,rv qa,iv o,.val (.long q),.second,iv dl,iv j,iv qd,iv qs,iv sk,iv (f k),iv ((f k)+(-2147483648:Int32)),iv (f (k+1)),ag,ah,ai,aj,y26,ak] []) from by
   by_cases hs0:sk=(0:Int32)
   ·refine o_r 604 319 x a rfl ((if0 _ _).trans (teq hs0).2) ?_
    refine o_l 606 320 x a ?_
    refine o_h 609 321 111 x a aK w fun cd am bw=> ?_
    refine o_d 611 322 am a ?_
    refine o_g 612 323 2 am a ?_
    refine o_v 613 324 am a ?_
    refine o_l 615 325 am a ?_
    refine o_h 618 326 109 am a bw v fun ce i bb=> ?_
    refine o_v 619 327 i a ?_
    refine o_ai 620 (k+2) i hx hZ bb E i2 hz (D 328 rfl) rfl ?_
    refine o_D 621 329 i a ?_
    refine o_y 624 214 330 i a ?_
    refine o_A 625 331 i a ?_
    refine o_eE 627 i hx (D 332 rfl) WF (Or.inl rfl) rfl fun g24 WF=> ?_
    refine o_d 629 333 i a ?_
    refine o_D 630 334 i a ?_
    refine o_y 633 214 335 i a ?_
    refine o_A 634 336 i a ?_
    refine o_B 636 337 32 i a ?_
    refine o_ay 637 338 i a ?_
    refine o_j 639 339 i a ?_
    refine o_a0 640 340 i a ?_
    refine o_eF 642 i hx (D 341 rfl) WF (Or.inr rfl) rfl fun y WF=> ?_
    refine o_d 644 342 i a ?_
    refine o_D 645 343 i a ?_
    refine o_y 648 214 344 i a ?_
    refine o_A 649 345 i a ?_
    refine o_d 651 346 i a ?_
    refine o_D 652 347 i a ?_
    refine o_y 655 214 348 i a ?_
    refine o_A 656 349 i a ?_
    refine o_ah 657 350 i a ?_
    refine o_hE 659 i hx (D 351 rfl) WF (Or.inr rfl) rfl fun WF=> ?_
    refine o_c 660 352 i a ?_
    refine o_j 662 353 i a ?_
    refine o_j 664 354 i a ?_
    refine o_aD 667 2 0 G H 355 270 271 273 272 103 274 i a (o_dj l Z a0 hw [] mb (((dl.toInt64)&&&(4294967295:Int64))*((qh.toInt64)&&&(4294967295:Int64))) ((((qr.toInt64)&&&(4294967295:Int64))<<<((32:Int32)&&&0x3f).toInt64)|||(((f (k+2)).toInt64)&&&(4294967295:Int64))) h1 n0 (Nat.le_trans Z0 KP.1) z) o_c_ bb B (hc:=hkc) (hs:=hks) fun _ cg ci h bx=> ?_
    obtain ⟨bz,aM,bA⟩:=bx
    have aN:=Fr.app aJ bz
    rcases bA with ⟨rfl,hu⟩|⟨rfl,hu⟩
    ·refine o_k [_] ?_
     refine o_r 670 356 h a rfl ((if0 _ _).trans (feq (by decide: ¬((1:Int32)=(0:Int32)))).1) ?_
     refine o_G 673 357 #[_,_,_,_,_,_,_,_,_,_,_,_,_,_,_,_,iv (qh+(-1:Int32)),_,_,_,_,_,_,_,_,_,_,_] h a ?_
     generalize aO:(qh+(-1:Int32))=q1
     refine o_d 675 358 h a ?_
     refine o_D 676 359 h a ?_
     refine o_y 679 214 360 h a ?_
     refine o_A 680 361 h a ?_
     refine o_j 682 362 h a ?_
     refine o_4 683 363 h a ?_
     refine o_X 684 364 h a ?_
     refine o_o 686 365 #[_,_,_,_,_,_,_,_,_,_,_,_,_,_,_,_,_,_,_,_,_,_,_,_,_,_,_,_] h a ?_
     refine o_d 688 366 h a ?_
     refine o_D 689 367 h a ?_
     refine o_y 692 214 368 h a ?_
     refine o_A 693 369 h a ?_
     refine o_j 695 370 h a ?_
     refine o_3 696 371 h a ?_
     by_cases ho:(lcmpW ((((((qr.toInt64)&&&(4294967295:Int64))+q).toInt32).toInt64)&&&(4294967295:Int64)) q)<(0:Int32)
     ·refine o_p 740 372 h a rfl ((if0 _ _).trans (tlt ho).1) ?_
      exact jm _ _ h aN aM _ _ _ _ _ _ _ _ WF (o_eT TR hs0 hdl hu ho aO)
     ·refine o_r 699 372 h a rfl ((if0 _ _).trans (flt ho).1) ?_
      refine o_j 701 373 h a ?_
      refine o_d 703 374 h a ?_
      refine o_D 704 375 h a ?_
      refine o_y 707 214 376 h a ?_
      refine o_A 708 377 h a ?_
      refine o_aK 709 378 h a ?_
      refine o_H 711 379 #[_,_,_,_,_,_,_,_,_,_,_,_,_,_,_,_,_,_,_,_,_,_,_,_,_,_,_,_] h a ?_
      refine o_d 713 380 h a ?_
      refine o_D 714 381 h a ?_
      refine o_y 717 214 382 h a ?_
      refine o_A 718 383 h a ?_
      refine o_B 720 384 32 h a ?_
      refine o_ay 721 385 h a ?_
      refine o_j 723 386 h a ?_
      refine o_a0 724 387 h a ?_
      refine o_H 726 388 #[_,_,_,_,_,_,_,_,_,_,_,_,_,_,_,_,_,_,_,_,_,_,_,_,_,_,_,_] h a ?_
      refine o_c 727 389 h a ?_
      refine o_j 729 390 h a ?_
      refine o_j 731 391 h a ?_
      refine o_aD 734 2 0 G H 392 270 271 273 272 103 274 h a (o_dj l Z a0 hw [] mb ((((dl.toInt64)&&&(4294967295:Int64))*((qh.toInt64)&&&(4294967295:Int64)))-((dl.toInt64)&&&(4294967295:Int64))) ((((((((qr.toInt64)&&&(4294967295:Int64))+q).toInt32).toInt64)&&&(4294967295:Int64))<<<((32:Int32)&&&0x3f).toInt64)|||(((f (k+2)).toInt64)&&&(4294967295:Int64))) h1 n0 (Nat.le_trans Z0 KP.1) z) o_c_ aM B (hc:=hkc) (hs:=hks) fun _ cj ck ao bB=> ?_
      obtain ⟨bC,bd,bD⟩:=bB
      have be:=Fr.app aN bC
      rcases bD with ⟨rfl,hv⟩|⟨rfl,hv⟩
      ·refine o_k [_] ?_
       refine o_r 737 393 ao a rfl ((if0 _ _).trans (feq (by decide: ¬((1:Int32)=(0:Int32)))).1) ?_
       refine o_G 740 394 #[_,_,_,_,_,_,_,_,_,_,_,_,_,_,_,_,iv (q1+(-1:Int32)),_,_,_,_,_,_,_,_,_,_,_] ao a ?_
       generalize bE:(q1+(-1:Int32))=q2
       exact jm _ _ ao be bd _ _ _ _ _ _ _ _ ⟨rfl,rfl,rfl,rfl,rfl,rfl,WF.2.2.2.2.2.2.1,WF.2.2.2.2.2.2.2⟩ (o_eV TR hs0 hu aO bE ad (o_cO (o_bP hu)) (o_cQ hdl ho) hv)
      ·refine o_k [_] ?_
       refine o_p 740 393 ao a rfl ((if0 _ _).trans (teq (by decide:(0:Int32)=(0:Int32))).1) ?_
       exact jm _ _ ao be bd _ _ _ _ _ _ _ _ ⟨rfl,rfl,rfl,rfl,rfl,rfl,WF.2.2.2.2.2.2.1,WF.2.2.2.2.2.2.2⟩ (o_eU TR hs0 hu (o_cO (o_bP hu)) (o_cQ hdl ho) hv aO)
    ·refine o_k [_] ?_
     refine o_p 740 356 h a rfl ((if0 _ _).trans (teq (by decide:(0:Int32)=(0:Int32))).1) ?_
     exact jm _ _ h aN aM _ _ _ _ _ _ _ _ WF (o_eQ TR hs0 hu)
   ·refine o_p 740 319 x a rfl ((if0 _ _).trans (feq hs0).2) ?_
    exact jm _ _ x aJ aK _ _ _ _ _ _ _ _ WF (o_eP TR hs0)
  intro aw aL bf bF bG qd qs g22 g23 g24 g25 y g27 WF TD
  refine o_l 742 395 bf a ?_
  refine o_h 745 396 111 bf a bG w fun cl aP bH=> ?_
  refine o_d 747 397 aP a ?_
  refine o_l 749 398 aP a ?_
  refine o_h 752 399 109 aP a bH v fun cm aQ bI=> ?_
  refine o_v 753 400 aQ a ?_
  refine o_g 754 401 0 aQ a ?_
  refine o_as 755 k aQ hx hZ bI E i0 (o_a3 hz 2) (D 402 rfl) rfl fun cn bJ ax bK r bL=> ?_
  have bM:=Fr.snoc ax bF au
  have z:=z.wr r au
  have KP:=KP.wr r (Or.inr a_)
  have B:=B.wr r
  have M:=M.wr r
  have v:=v.other r (Or.inl W)
  have w:=w.other r (Or.inl W)
  have N:=N.other r (Or.inl W)
  have O:=O.wr r
  have I:=I.other r aC
  have P:=P.wr r
  have Q:=Q.other r (Or.inl X)
  have R:=R.other r (Or.inl X)
  have S:=S.other r (Or.inl X)
  have T:=T.wr r
  have U:=U.other r aD
  have E:=bL
  refine o_c 756 403 ax a ?_
  refine o_l 758 404 ax a ?_
  refine o_h 761 405 111 ax a bK w fun co Y bN=> ?_
  refine o_l 763 406 Y a ?_
  refine o_d 765 407 Y a ?_
  refine o_d 767 408 Y a ?_
  refine o_d 769 409 Y a ?_
  refine o_l 771 410 Y a ?_
  refine o_h 774 411 109 Y a bN v fun cp bg bO=> ?_
  refine o_v 775 412 bg a ?_
  refine o_aD 778 5 0 G H 413 276 277 279 278 103 280 bg a (o_gc l Z a0 hw [] mb ra kr zr (o_T f k (0:Int32)) da kd o dl qd (j+(0:Int32)) k bJ n0 (Nat.le_trans Z0 KP.1) z au aC E I i0 hz) o_fW bO B (hc:=hkc) (hs:=hks) fun _ cq cr F bP=> ?_
  obtain ⟨b',c',rb,rfl,bQ,t,bR,bh⟩:=bP
  have bS:=Fr.app bM bQ
  have z:=z.keep t (allS au all0)
  have KP:=KP.trans t (allS (Or.inr a_) all0)
  have B:=B.keep t
  have M:=M.keep t
  have v:=v.keep t (ninS W nin0)
  have w:=w.keep t (ninS W nin0)
  have N:=N.keep t (ninS W nin0)
  have O:=O.keep t
  have I:=I.keep t (ninS aC nin0)
  have P:=P.keep t
  have Q:=Q.keep t (ninS X nin0)
  have R:=R.keep t (ninS X nin0)
  have S:=S.keep t (ninS X nin0)
  have T:=T.keep t
  have U:=U.keep t (ninS aD nin0)
  refine o_k [_] ?_
  have E:=bR
  rw[o_bI (f:=f) (by omega: ¬k+1=k),o_bI (f:=f) (by omega: ¬k+2=k)] at bh
  obtain ⟨er,DG⟩:=o_eW TD bh
  subst er
  refine o_hG 780 F hx (D 414 rfl) WF rfl rfl fun g23 WF=> ?_
  refine o_d 782 415 F a ?_
  refine o_aL 784 230 416 F a ?_
  refine o_v 785 417 F a ?_
  refine o_d 787 418 F a ?_
  refine o_z 815 419 F a rfl (flt (o_ea _)).2.2.2 ?_
  refine o_l 817 433 F a ?_
  refine o_d 819 434 F a ?_
  refine o_d 821 435 F a ?_
  refine o_as 822 k F hx hZ rfl U hk bl (D 436 rfl) rfl fun ct cu ay bU u bV=> ?_
  have bW:=Fr.snoc ay bS a9
  have z:=z.wr u a9
  have KP:=KP.wr u bm
  have B:=B.wr u
  have M:=M.wr u
  have v:=v.other u (Or.inl aE)
  have w:=w.other u (Or.inl aE)
  have N:=N.other u (Or.inl aE)
  have O:=O.wr u
  have I:=I.other u bn
  have P:=P.wr u
  have Q:=Q.other u (Or.inl aF)
  have R:=R.other u (Or.inl aF)
  have S:=S.other u (Or.inl aF)
  have T:=T.wr u
  have E:=E.other u (Ne.symm aD)
  have U:=bV
  refine o_G 825 437 #[_,_,_,_,_,_,_,_,_,_,_,_,_,_,_,iv (j+(1:Int32)),_,_,_,_,_,_,_,_,_,_,_,_] ay a ?_
  refine o_w 423 438 ay a ?_
  rw[hj1]
  exact K _ _ _ _ _ _ _ _ _ _ _ _ _ _ _ qd b' c' ay bU bW ⟨z,KP,B,M,v,w,N,O,E,I,P,Q,R,S,T,U⟩ ⟨rfl,rfl⟩ ⟨rfl,rfl⟩ ⟨rfl,rfl⟩ ⟨rfl,rfl⟩ ⟨rfl,rfl⟩ WF DG
theorem o_d5 (l:Launch)(Z:State)(a0:Array Value)(hw: ∀d∈tables_1,d.before a0 Z=true)(p:Program)(e:Env)(s:State)(m:MethodId)(M:List Frame)(aw:Method)(c:Code)(Fn:Outcome→State→Prop)(hx:p.tables.exec=Jvm.exec)(aR:c.code=jdk_2101_method_65_code)(a8:c.maxLocals=28)(a9:s.vm.findClass "java/math/MutableBigInteger"=some m.cls)(hZ:Z.Warmed39 s.vm)(h0:Heap)(n0:Nat)(Z0:n0≤h0.size)(mb dv qx qz da rm ra qa:Addr)(kd kr kq:ClassId)(sh nl lim ll o dl zr zq:Int32)(q:Int64)(G H:Nat)(hkc:G≤4)(hks:H≤24)(j:Int32)(k:Nat)(f g:Nat→Int32)(g16:Slot)(g17:Slot)(g18:Slot)(g19:Slot)(g20:Slot)(I:Slot)(g22:Slot)(g23:Slot)(g24:Slot)(g25:Slot)(E:Slot)(g27:Slot)(T0:State)(h1:Heap)(aS:List Loc)(X0:Stand p l e ({frames:=3,cells:=4,slots:=24,locals:=60}:Room) s m #[.ref mb,.ref dv,.ref qx,.int 1] M aw c T0 aS G H)(e0:T0.heap=h1)(N0:Fr n0 aS)(C:o_d3 h0 n0 qx qz da rm ra qa o q)(S0:o_bB Z h0 n0 mb qx qz da rm ra qa kd kr kq lim ll o dl zr zq h1 f g)(c16:o_9 g16)(c17:o_9 g17)(c18:o_9 g18)(c19:o_9 g19)(c20:o_9 g20)(WF:o_am I g22 g23 g24 g25 E g27)(hlim:lim.toInt=(k+1:Nat))(hz:((k+2:Nat):Int)<zr.toInt)(a_:(k:Int)<zq.toInt)(hg:g k=0)(hn:o_a (f k)*4294967296+o_a (f (k+1))<o_a o*4294967296+o_a dl)
  (K: ∀(T':State) (h':Heap) (L':List Loc) (a' w16 bb bd be bf bg bh bj bk bl bm bn:Slot) (qd b' c':Int32),Stand p l e ({frames:=3,cells:=4,slots:=24,locals:=60}:Room) s m #[.ref mb,.ref dv,.ref qx,.int 1] M aw c T' L' G H→T'.heap=h'→Fr n0 L'→o_bB Z h0 n0 mb qx qz da rm ra qa kd kr kq lim ll o dl zr zq h' (o_T (o_T (o_T f k 0) (k+2) c') (k+1) b') (o_T g k qd)→o_cL (f k) (f (k+1)) (f (k+2)) o dl qd b' c'→o_f p e M Fn T' (mkF m 1261 #[rv mb,rv dv,rv qx,iv 1,iv sh,iv 2,rv da,rv rm,iv nl,iv lim,rv qa,iv o,.val (.long q),.second,iv dl,a',w16,bb,bd,be,bf,bg,bh,bj,bk,bl,bm,bn] [])):o_f p e M Fn T0 (mkF m 828 #[rv mb,rv dv,rv qx,iv 1,iv sh,iv 2,rv da,rv rm,iv nl,iv lim,rv qa,iv o,.val (.long q),.second,iv dl,iv j,g16,g17,g18,g19,g20,I,g22,g23,g24,g25,E,g27] []):=by
 obtain ⟨bZ,ax,b0,aT,b5,aU,bo,X,aD,Y,aE,aF,bp,aG,b6,b7,b8,ae,hdl⟩:=C
 obtain ⟨y,KP,A,N,v,w,O,P,B,J,Q,R,S,T,U,V⟩:=S0
 have D:=o_S aR o_bV
 have a:=o_t hx aR o_bV a9 hZ a8 hw
 have hdn:q≠0:=o_e0 hdl ae
 have hkl:(lim-(1:Int32)).toInt=k:=o_aV (j:=1) hlim rfl (Nat.le_add_left 1 k)
 have i0:=o_bc (c:=0) (n:=0) hkl rfl (o_a3 hz 2)
 have i1:=o_bc (c:=0) (n:=0) hlim rfl (o_a3 hz 1)
 have i2:=o_bc (c:=0) (n:=0) (o_bc (c:=1) (n:=1) hlim rfl hz) rfl hz
 refine o_g 829 439 0 X0 a ?_
 refine o_o 831 440 #[_,_,_,_,_,_,_,_,_,_,_,_,_,_,_,_,_,_,_,_,_,_,_,_,_,_,_,_] X0 a ?_
 refine o_g 832 441 0 X0 a ?_
 refine o_az 834 16 #[rv mb,rv dv,rv qx,iv 1,iv sh,iv 2,rv da,rv rm,iv nl,iv lim,rv qa,iv o,.val (.long q),.second,iv dl,iv 0,iv 0,g17,g18,g19,g20,I,g22,g23,g24,g25,E,g27] X0 hx (D 442 rfl) rfl c16 rfl rfl ?_
 refine o_g 835 443 0 X0 a ?_
 refine o_az 837 17 #[rv mb,rv dv,rv qx,iv 1,iv sh,iv 2,rv da,rv rm,iv nl,iv lim,rv qa,iv o,.val (.long q),.second,iv dl,iv 0,iv 0,iv 0,g18,g19,g20,I,g22,g23,g24,g25,E,g27] X0 hx (D 444 rfl) rfl c17 rfl rfl ?_
 refine o_l 839 445 X0 a ?_
 refine o_h 842 446 111 X0 a e0 w fun b9 af bq=> ?_
 refine o_d 844 447 af a ?_
 refine o_g 845 448 1 af a ?_
 refine o_J 846 449 af a ?_
 refine o_l 848 450 af a ?_
 refine o_h 851 451 109 af a bq v fun b_ L aV=> ?_
 refine o_v 852 452 L a ?_
 refine o_ai 853 k L hx hZ aV B i0 (o_a3 hz 2) (D 453 rfl) rfl ?_
 refine o_az 855 18 #[rv mb,rv dv,rv qx,iv 1,iv sh,iv 2,rv da,rv rm,iv nl,iv lim,rv qa,iv o,.val (.long q),.second,iv dl,iv 0,iv 0,iv 0,iv (f k),g19,g20,I,g22,g23,g24,g25,E,g27] L hx (D 454 rfl) rfl c18 rfl rfl ?_
 refine o_d 857 455 L a ?_
 refine o_aL 859 230 456 L a ?_
 refine o_v 860 457 L a ?_
 refine o_az 862 19 #[rv mb,rv dv,rv qx,iv 1,iv sh,iv 2,rv da,rv rm,iv nl,iv lim,rv qa,iv o,.val (.long q),.second,iv dl,iv 0,iv 0,iv 0,iv (f k),iv ((f k)+(-2147483648:Int32)),g20,I,g22,g23,g24,g25,E,g27] L hx (D 458 rfl) rfl c19 rfl rfl ?_
 refine o_l 864 459 L a ?_
 refine o_h 867 460 111 L a aV w fun ca aH br=> ?_
 refine o_d 869 461 aH a ?_
 refine o_l 871 462 aH a ?_
 refine o_h 874 463 109 aH a br v fun bt b ag=> ?_
 refine o_v 875 464 b a ?_
 refine o_ai 876 (k+1) b hx hZ ag B i1 (o_a3 hz 1) (D 465 rfl) rfl ?_
 refine o_az 878 20 #[rv mb,rv dv,rv qx,iv 1,iv sh,iv 2,rv da,rv rm,iv nl,iv lim,rv qa,iv o,.val (.long q),.second,iv dl,iv 0,iv 0,iv 0,iv (f k),iv ((f k)+(-2147483648:Int32)),iv (f (k+1)),I,g22,g23,g24,g25,E,g27] b hx (D 466 rfl) rfl c20 rfl rfl ?_
 refine o_d 880 467 b a ?_
 refine o_d 882 468 b a ?_
 suffices jn: ∀(ay:State) (aI:List Loc),Stand p l e ({frames:=3,cells:=4,slots:=24,locals:=60}:Room) s m #[.ref mb,.ref dv,.ref qx,.int 1] M aw c ay aI G H→Fr n0 aI→ay.heap=h1→ ∀(qh qr sk:Int32) (ah ai aj ak al y26 am:Slot),o_am ah ai aj ak al y26 am→o_aM (f k) (f (k+1)) o dl qh qr sk→o_f p e M Fn ay (mkF m 987 #[rv mb,rv dv,rv qx,iv 1,iv sh,iv 2,rv da,rv rm,iv nl,iv lim,rv qa,iv o,.val (.long q),.second,iv dl,iv qh,iv qr,iv sk,iv (f k),iv ((f k)+(-2147483648:Int32)),iv (f (k+1)),ah,ai,aj,ak,al,y26,am] []) from by
  by_cases hab:(f k)=o
  ·refine o_E 885 469 b a rfl (teq hab).2 ?_
   refine o_g 886 470 (-1) b a ?_
   refine o_o 888 471 #[_,_,_,_,_,_,_,_,_,_,_,_,_,_,_,_,_,_,_,_,_,_,_,_,_,_,_,_] b a ?_
   refine o_d 890 472 b a ?_
   refine o_d 892 473 b a ?_
   refine o_v 893 474 b a ?_
   refine o_o 895 475 #[_,_,_,_,_,_,_,_,_,_,_,_,_,_,_,_,_,_,_,_,_,_,_,_,_,_,_,_] b a ?_
   refine o_d 897 476 b a ?_
   refine o_aL 899 230 477 b a ?_
   refine o_v 900 478 b a ?_
   refine o_d 902 479 b a ?_
   by_cases hov:(((f k)+(f (k+1)))+(-2147483648:Int32))<((f k)+(-2147483648:Int32))
   ·refine o_E 905 480 b a rfl (tlt hov).2.1 ?_
    refine o_g 906 481 1 b a ?_
    refine o_w 910 482 b a ?_
    refine o_o 912 484 #[_,_,_,_,_,_,_,_,_,_,_,_,_,_,_,_,_,_,_,_,_,_,_,_,_,_,_,_] b a ?_
    refine o_w 987 485 b a ?_
    exact jn _ _ b N0 ag _ _ _ _ _ _ _ _ _ _ WF ((o_cN hab hn).1 hov)
   ·refine o_z 909 480 b a rfl (flt hov).2.1 ?_
    refine o_g 910 483 0 b a ?_
    refine o_o 912 484 #[_,_,_,_,_,_,_,_,_,_,_,_,_,_,_,_,_,_,_,_,_,_,_,_,_,_,_,_] b a ?_
    refine o_w 987 485 b a ?_
    exact jn _ _ b N0 ag _ _ _ _ _ _ _ _ _ _ WF ((o_cN hab hn).2 hov)
  ·refine o_z 915 469 b a rfl (feq hab).2 ?_
   have hlt:=o_eK hn hab
   refine o_d 917 486 b a ?_
   refine o_D 918 487 b a ?_
   refine o_B 920 488 32 b a ?_
   refine o_ay 921 489 b a ?_
   refine o_d 923 490 b a ?_
   refine o_D 924 491 b a ?_
   refine o_y 927 214 492 b a ?_
   refine o_A 928 493 b a ?_
   refine o_a0 929 494 b a ?_
   generalize aJ:((((f k).toInt64)<<<((32:Int32)&&&0x3f).toInt64)|||(((f (k+1)).toInt64)&&&(4294967295:Int64)))=nC
   refine o_eG 931 b hx (D 495 rfl) WF rfl fun g23 WF=> ?_
   refine o_j 933 496 b a ?_
   refine o_ac 934 497 0 b a ?_
   refine o_3 935 498 b a ?_
   by_cases hneg:(lcmpW nC (0:Int64))<(0:Int32)
   ·refine o_p 961 499 b a rfl ((if0 _ _).trans (tlt hneg).1) ?_
    refine o_j 963 514 b a ?_
    refine o_d 965 515 b a ?_
    refine o_F 968 2 0 G H 516 295 296 103 297 b a (o_d1 l Z a0 hw [] nC o h1 n0 (Nat.le_trans Z0 KP.1) y ae (o_e1 aJ hlt)) o_dW ag (hc:=hkc) (hs:=hks) fun _ cb cd z bu=> ?_
    obtain ⟨ce,rfl,bv,bw,hw1,hw2⟩:=bu
    have bx:=Fr.app N0 bv
    refine o_k [_] ?_
    refine o_eH 970 z hx (D 517 rfl) WF (Or.inr rfl) rfl fun g25 WF=> ?_
    refine o_j 972 518 z a ?_
    refine o_y 975 214 519 z a ?_
    refine o_A 976 520 z a ?_
    refine o_X 977 521 z a ?_
    refine o_o 979 522 #[_,_,_,_,_,_,_,_,_,_,_,_,_,_,_,_,_,_,_,_,_,_,_,_,_,_,_,_] z a ?_
    refine o_j 981 523 z a ?_
    refine o_B 983 524 32 z a ?_
    refine o_ak 984 525 z a ?_
    refine o_X 985 526 z a ?_
    refine o_o 987 527 #[_,_,_,_,_,_,_,_,_,_,_,_,_,_,_,_,_,_,_,_,_,_,_,_,_,_,_,_] z a ?_
    exact jn _ _ z bx bw _ _ _ _ _ _ _ _ _ _ WF (o_eO aJ ae hw1 hw2)
   ·refine o_r 938 499 b a rfl ((if0 _ _).trans (flt hneg).1) ?_
    refine o_j 940 500 b a ?_
    refine o_j 942 501 b a ?_
    refine o_i (T':=bt) (mkF m 943 #[rv mb,rv dv,rv qx,iv 1,iv sh,iv 2,rv da,rv rm,iv nl,iv lim,rv qa,iv o,.val (.long q),.second,iv dl,iv 0,iv 0,iv 0,iv (f k),iv ((f k)+(-2147483648:Int32)),iv (f (k+1)),.val (.long nC),.second,g23,g24,g25,E,g27] [(.long (nC/q))]) (fun _ k=>XS.ldiv b.here hx rfl (D 502 rfl) rfl hdn k) ?_
    refine o_X 944 503 b a ?_
    refine o_o 946 504 #[_,_,_,_,_,_,_,_,_,_,_,_,_,_,_,_,_,_,_,_,_,_,_,_,_,_,_,_] b a ?_
    refine o_j 948 505 b a ?_
    refine o_d 950 506 b a ?_
    refine o_D 951 507 b a ?_
    refine o_j 953 508 b a ?_
    refine o_ah 954 509 b a ?_
    refine o_aK 955 510 b a ?_
    refine o_X 956 511 b a ?_
    refine o_o 958 512 #[_,_,_,_,_,_,_,_,_,_,_,_,_,_,_,_,_,_,_,_,_,_,_,_,_,_,_,_] b a ?_
    refine o_w 987 513 b a ?_
    exact jn _ _ b N0 ag _ _ _ _ _ _ _ _ _ _ WF (o_eN aJ hdl ae hlt hneg)
 intro ay aI F aK aL qh qr sk I g22 g23 g24 g25 E g27 WF TR
 refine o_d 989 528 F a ?_
 by_cases hq0:qh=(0:Int32)
 ·refine o_p 1261 529 F a rfl ((if0 _ _).trans (teq hq0).1) ?_
  have Z1:=o_eX (c:=f (k+2)) TR hq0
  exact K _ _ _ _ _ _ _ _ _ _ _ _ _ _ _ _ 0 (f (k+1)) (f (k+2)) F aL aK ⟨y,KP,A,N,v,w,O,P,(B.fe (o_e2 (o_cA Z1.1))),J,Q,R,S,T,U,(V.fe (o_e3 hg))⟩ Z1.2
 ·refine o_r 992 529 F a rfl ((if0 _ _).trans (feq hq0).1) ?_
  refine o_d 994 530 F a ?_
  suffices jm: ∀(aA:State) (aM:List Loc),Stand p l e ({frames:=3,cells:=4,slots:=24,locals:=60}:Room) s m #[.ref mb,.ref dv,.ref qx,.int 1] M aw c aA aM G H→Fr n0 aM→aA.heap=h1→ ∀(qd qs:Int32) (ah ai aj ak al y26 am:Slot),o_am ah ai aj ak al y26 am→o_a2 (f k) (f (k+1)) (f (k+2)) o dl qd→o_f p e M Fn aA (mkF m 1133 #[rv mb,rv dv,rv qx,iv 1,iv sh,iv 2,rv da,rv rm,iv nl,iv lim,rv qa,iv o,.val (.long q),.second,iv dl,iv qd,iv qs,iv sk,iv (f k),iv ((f k)+(-2147483648:Int32)),iv (f (k+1)),ah,ai,aj,ak,al,y26,am] []) from by
   by_cases hs0:sk=(0:Int32)
   ·refine o_r 997 531 F a rfl ((if0 _ _).trans (teq hs0).2) ?_
    refine o_l 999 532 F a ?_
    refine o_h 1002 533 111 F a aL w fun cg aq bz=> ?_
    refine o_d 1004 534 aq a ?_
    refine o_g 1005 535 1 aq a ?_
    refine o_v 1006 536 aq a ?_
    refine o_l 1008 537 aq a ?_
    refine o_h 1011 538 109 aq a bz v fun ci i aW=> ?_
    refine o_v 1012 539 i a ?_
    refine o_ai 1013 (k+2) i hx hZ aW B i2 hz (D 540 rfl) rfl ?_
    refine o_D 1014 541 i a ?_
    refine o_y 1017 214 542 i a ?_
    refine o_A 1018 543 i a ?_
    refine o_eG 1020 i hx (D 544 rfl) WF rfl fun g23 WF=> ?_
    refine o_d 1022 545 i a ?_
    refine o_D 1023 546 i a ?_
    refine o_y 1026 214 547 i a ?_
    refine o_A 1027 548 i a ?_
    refine o_B 1029 549 32 i a ?_
    refine o_ay 1030 550 i a ?_
    refine o_j 1032 551 i a ?_
    refine o_a0 1033 552 i a ?_
    refine o_eH 1035 i hx (D 553 rfl) WF (Or.inr rfl) rfl fun g25 WF=> ?_
    refine o_d 1037 554 i a ?_
    refine o_D 1038 555 i a ?_
    refine o_y 1041 214 556 i a ?_
    refine o_A 1042 557 i a ?_
    refine o_d 1044 558 i a ?_
    refine o_D 1045 559 i a ?_
    refine o_y 1048 214 560 i a ?_
    refine o_A 1049 561 i a ?_
    refine o_ah 1050 562 i a ?_
    refine o_hF 1052 i hx (D 563 rfl) WF (Or.inr rfl) rfl fun g27 WF=> ?_
    refine o_c 1053 564 i a ?_
    refine o_j 1055 565 i a ?_
    refine o_j 1057 566 i a ?_
    refine o_aD 1060 2 0 G H 567 270 271 273 272 103 274 i a (o_dj l Z a0 hw [] mb (((dl.toInt64)&&&(4294967295:Int64))*((qh.toInt64)&&&(4294967295:Int64))) ((((qr.toInt64)&&&(4294967295:Int64))<<<((32:Int32)&&&0x3f).toInt64)|||(((f (k+2)).toInt64)&&&(4294967295:Int64))) h1 n0 (Nat.le_trans Z0 KP.1) y) o_c_ aW A (hc:=hkc) (hs:=hks) fun _ cj ck h bA=> ?_
    obtain ⟨bB,aN,bC⟩:=bA
    have aO:=Fr.app aK bB
    rcases bC with ⟨rfl,hu⟩|⟨rfl,hu⟩
    ·refine o_k [_] ?_
     refine o_r 1063 568 h a rfl ((if0 _ _).trans (feq (by decide: ¬((1:Int32)=(0:Int32)))).1) ?_
     refine o_G 1066 569 #[_,_,_,_,_,_,_,_,_,_,_,_,_,_,_,iv (qh+(-1:Int32)),_,_,_,_,_,_,_,_,_,_,_,_] h a ?_
     generalize aP:(qh+(-1:Int32))=q1
     refine o_d 1068 570 h a ?_
     refine o_D 1069 571 h a ?_
     refine o_y 1072 214 572 h a ?_
     refine o_A 1073 573 h a ?_
     refine o_j 1075 574 h a ?_
     refine o_4 1076 575 h a ?_
     refine o_X 1077 576 h a ?_
     refine o_o 1079 577 #[_,_,_,_,_,_,_,_,_,_,_,_,_,_,_,_,_,_,_,_,_,_,_,_,_,_,_,_] h a ?_
     refine o_d 1081 578 h a ?_
     refine o_D 1082 579 h a ?_
     refine o_y 1085 214 580 h a ?_
     refine o_A 1086 581 h a ?_
     refine o_j 1088 582 h a ?_
     refine o_3 1089 583 h a ?_
     by_cases ho:(lcmpW ((((((qr.toInt64)&&&(4294967295:Int64))+q).toInt32).toInt64)&&&(4294967295:Int64)) q)<(0:Int32)
     ·refine o_p 1133 584 h a rfl ((if0 _ _).trans (tlt ho).1) ?_
      exact jm _ _ h aO aN _ _ _ _ _ _ _ _ _ WF (o_eT TR hs0 hdl hu ho aP)
     ·refine o_r 1092 584 h a rfl ((if0 _ _).trans (flt ho).1) ?_
      refine o_j 1094 585 h a ?_
      refine o_d 1096 586 h a ?_
      refine o_D 1097 587 h a ?_
      refine o_y 1100 214 588 h a ?_
      refine o_A 1101 589 h a ?_
      refine o_aK 1102 590 h a ?_
      refine o_H 1104 591 #[_,_,_,_,_,_,_,_,_,_,_,_,_,_,_,_,_,_,_,_,_,_,_,_,_,_,_,_] h a ?_
      refine o_d 1106 592 h a ?_
      refine o_D 1107 593 h a ?_
      refine o_y 1110 214 594 h a ?_
      refine o_A 1111 595 h a ?_
      refine o_B 1113 596 32 h a ?_
      refine o_ay 1114 597 h a ?_
      refine o_j 1116 598 h a ?_
      refine o_a0 1117 599 h a ?_
      refine o_H 1119 600 #[_,_,_,_,_,_,_,_,_,_,_,_,_,_,_,_,_,_,_,_,_,_,_,_,_,_,_,_] h a ?_
      refine o_c 1120 601 h a ?_
      refine o_j 1122 602 h a ?_
      refine o_j 1124 603 h a ?_
      refine o_aD 1127 2 0 G H 604 270 271 273 272 103 274 h a (o_dj l Z a0 hw [] mb ((((dl.toInt64)&&&(4294967295:Int64))*((qh.toInt64)&&&(4294967295:Int64)))-((dl.toInt64)&&&(4294967295:Int64))) ((((((((qr.toInt64)&&&(4294967295:Int64))+q).toInt32).toInt64)&&&(4294967295:Int64))<<<((32:Int32)&&&0x3f).toInt64)|||(((f (k+2)).toInt64)&&&(4294967295:Int64))) h1 n0 (Nat.le_trans Z0 KP.1) y) o_c_ aN A (hc:=hkc) (hs:=hks) fun _ cl cm au bD=> ?_
      obtain ⟨bE,aX,bF⟩:=bD
      have aY:=Fr.app aO bE
      rcases bF with ⟨rfl,hv⟩|⟨rfl,hv⟩
      ·refine o_k [_] ?_
       refine o_r 1130 605 au a rfl ((if0 _ _).trans (feq (by decide: ¬((1:Int32)=(0:Int32)))).1) ?_
       refine o_G 1133 606 #[_,_,_,_,_,_,_,_,_,_,_,_,_,_,_,iv (q1+(-1:Int32)),_,_,_,_,_,_,_,_,_,_,_,_] au a ?_
       generalize bG:(q1+(-1:Int32))=q2
       exact jm _ _ au aY aX _ _ _ _ _ _ _ _ _ ⟨rfl,rfl,rfl,rfl,rfl,rfl,WF.2.2.2.2.2.2.1,WF.2.2.2.2.2.2.2⟩ (o_eV TR hs0 hu aP bG ae (o_cO (o_bP hu)) (o_cQ hdl ho) hv)
      ·refine o_k [_] ?_
       refine o_p 1133 605 au a rfl ((if0 _ _).trans (teq (by decide:(0:Int32)=(0:Int32))).1) ?_
       exact jm _ _ au aY aX _ _ _ _ _ _ _ _ _ ⟨rfl,rfl,rfl,rfl,rfl,rfl,WF.2.2.2.2.2.2.1,WF.2.2.2.2.2.2.2⟩ (o_eU TR hs0 hu (o_cO (o_bP hu)) (o_cQ hdl ho) hv aP)
    ·refine o_k [_] ?_
     refine o_p 1133 568 h a rfl ((if0 _ _).trans (teq (by decide:(0:Int32)=(0:Int32))).1) ?_
     exact jm _ _ h aO aN _ _ _ _ _ _ _ _ _ WF (o_eQ TR hs0 hu)
   ·refine o_p 1133 531 F a rfl ((if0 _ _).trans (feq hs0).2) ?_
    exact jm _ _ F aK aL _ _ _ _ _ _ _ _ _ WF (o_eP TR hs0)
  intro aA aM aZ bH bI qd qs I g22 g23 g24 g25 E g27 WF TD
  refine o_l 1135 607 aZ a ?_
  refine o_h 1138 608 111 aZ a bI w fun cn av bJ=> ?_
  refine o_d 1140 609 av a ?_
  refine o_g 1141 610 1 av a ?_
  refine o_J 1142 611 av a ?_
  refine o_l 1144 612 av a ?_
  refine o_h 1147 613 109 av a bJ v fun co aQ bK=> ?_
  refine o_v 1148 614 aQ a ?_
  refine o_g 1149 615 0 aQ a ?_
  refine o_as 1150 k aQ hx hZ bK B i0 (o_a3 hz 2) (D 616 rfl) rfl fun cp bL ad bM r bN=> ?_
  have bO:=Fr.snoc ad bH ax
  have y:=y.wr r ax
  have KP:=KP.wr r (Or.inr aU)
  have A:=A.wr r
  have N:=N.wr r
  have v:=v.other r (Or.inl X)
  have w:=w.other r (Or.inl X)
  have O:=O.other r (Or.inl X)
  have P:=P.wr r
  have J:=J.other r aD
  have Q:=Q.wr r
  have R:=R.other r (Or.inl Y)
  have S:=S.other r (Or.inl Y)
  have T:=T.other r (Or.inl Y)
  have U:=U.wr r
  have V:=V.other r aE
  have B:=bN
  refine o_e 1151 617 ad a ?_
  refine o_r 1154 618 ad a rfl ((if0 _ _).trans (feq (by decide: ¬((1:Int32)=(0:Int32)))).1) ?_
  refine o_c 1155 619 ad a ?_
  refine o_l 1157 620 ad a ?_
  refine o_h 1160 621 111 ad a bM w fun cq W bP=> ?_
  refine o_l 1162 622 W a ?_
  refine o_d 1164 623 W a ?_
  refine o_d 1166 624 W a ?_
  refine o_d 1168 625 W a ?_
  refine o_g 1169 626 1 W a ?_
  refine o_J 1170 627 W a ?_
  refine o_l 1172 628 W a ?_
  refine o_h 1175 629 109 W a bP v fun cr a5 bQ=> ?_
  refine o_v 1176 630 a5 a ?_
  refine o_aD 1179 5 0 G H 631 276 277 279 278 103 280 a5 a (o_gc l Z a0 hw [] mb ra kr zr (o_T f k (0:Int32)) da kd o dl qd ((lim-(1:Int32))+(0:Int32)) k bL n0 (Nat.le_trans Z0 KP.1) y ax aD B J i0 hz) o_fW bQ A (hc:=hkc) (hs:=hks) fun _ ct cu x bR=> ?_
  obtain ⟨b',c',rb,rfl,bS,t,bT,a6⟩:=bR
  have bU:=Fr.app bO bS
  have y:=y.keep t (allS ax all0)
  have KP:=KP.trans t (allS (Or.inr aU) all0)
  have A:=A.keep t
  have N:=N.keep t
  have v:=v.keep t (ninS X nin0)
  have w:=w.keep t (ninS X nin0)
  have O:=O.keep t (ninS X nin0)
  have P:=P.keep t
  have J:=J.keep t (ninS aD nin0)
  have Q:=Q.keep t
  have R:=R.keep t (ninS Y nin0)
  have S:=S.keep t (ninS Y nin0)
  have T:=T.keep t (ninS Y nin0)
  have U:=U.keep t
  have V:=V.keep t (ninS aE nin0)
  refine o_k [_] ?_
  have B:=bT
  rw[o_bI (f:=f) (by omega: ¬k+1=k),o_bI (f:=f) (by omega: ¬k+2=k)] at a6
  obtain ⟨er,DG⟩:=o_eW TD a6
  subst er
  refine o_eI 1181 x hx (D 632 rfl) WF rfl fun g22 WF=> ?_
  refine o_w 1211 633 x a ?_
  refine o_d 1213 648 x a ?_
  refine o_aL 1215 230 649 x a ?_
  refine o_v 1216 650 x a ?_
  refine o_d 1218 651 x a ?_
  refine o_z 1252 652 x a rfl (flt (o_ea _)).2.2.2 ?_
  refine o_l 1254 670 x a ?_
  refine o_d 1256 671 x a ?_
  refine o_g 1257 672 1 x a ?_
  refine o_J 1258 673 x a ?_
  refine o_d 1260 674 x a ?_
  refine o_as 1261 k x hx hZ rfl V hkl a_ (D 675 rfl) rfl fun cv cw a7 bW u bX=> ?_
  have bY:=Fr.snoc a7 bU aT
  have y:=y.wr u aT
  have KP:=KP.wr u bo
  have A:=A.wr u
  have N:=N.wr u
  have v:=v.other u (Or.inl aF)
  have w:=w.other u (Or.inl aF)
  have O:=O.other u (Or.inl aF)
  have P:=P.wr u
  have J:=J.other u bp
  have Q:=Q.wr u
  have R:=R.other u (Or.inl aG)
  have S:=S.other u (Or.inl aG)
  have T:=T.other u (Or.inl aG)
  have U:=U.wr u
  have B:=B.other u (Ne.symm aE)
  have V:=bX
  exact K _ _ _ _ _ _ _ _ _ _ _ _ _ _ _ _ qd b' c' a7 bW bY ⟨y,KP,A,N,v,w,O,P,B,J,Q,R,S,T,U,V⟩ DG
def o_nZ (Z:State)(h0:Heap)(n0:Nat)(v:Option Value)(h:Heap)(L:List Loc):Prop:=v=some (.int 0)∧Fr n0 L∧h=h0
theorem o_n0 (l:Launch)(Z:State)(a0:Array Value)(hw: ∀d∈tables_1,d.before a0 Z=true)(ws:List Jvm.Cond)(h0:Heap)(n0:Nat)(Z0:n0≤h0.size)(f:Old Z n0 h0):
  o_q l (⟨"java/math/BigInteger","bitLengthForInt","(I)I"⟩:MethodName) (Jvm.Cond.code (⟨"java/math/BigInteger","bitLengthForInt","(I)I"⟩:MethodName) jdk_2097_method_74_code 1 (some .int)::ws) ({frames:=1,cells:=0,slots:=0,locals:=16}:Room) #[(.int (0:Int32))] Z h0 (o_nZ Z h0 n0):=by
 refine o_u (plainFor_of_name o_Y) (fun m=>o_l2 m (0:Int32)) fun p e s m u v c s₁ hx g h i (j:s.vm.findClass "java/math/BigInteger"=some m.cls) hnm hret X0 hZ e0=> ?_
 have a:=o_t hx g o_kn j hZ i hw
 have N0:=Fr.nil n0
 have KP:Keep h0 h0 []:=Keep.refl _ _
 refine o_B 2 0 32 X0 a ?_
 refine o_e 3 1 X0 a ?_
 refine o_F 6 1 1 0 0 2 289 216 47 217 X0 a (o_di l Z a0 hw [] (0:Int32) h0 n0 (Nat.le_trans Z0 KP.1) f) o_aN e0 fun _ w x b k=> ?_
 obtain ⟨rn,rfl,n,o,q⟩:=k
 have t:=Fr.app N0 n
 refine o_k [_,_] ?_
 refine o_J 7 3 b a ?_
 exact o_W 4 b a hret h (by rw[o];exact ⟨congrArg (fun r=>some (Value.int r)) (o_hR q),t,rfl⟩)
def o_gd (Z:State)(mb ra:Addr)(kr:ClassId)(ll zz ns:Int32)(f:Nat→Int32)(nn:Nat)(h0:Heap)(n0:Nat)(v:Option Value)(h:Heap)(L:List Loc):Prop:=v=none∧Fr n0 L∧Keep h0 h [ra]∧Exa Z h mb "java/math/MutableBigInteger"∧Fld Z h mb "java/math/MutableBigInteger" "offset" "I" (.int (0:Int32))∧Fld Z h mb "java/math/MutableBigInteger" "value" "[I" (.ref ra)∧Fld Z h mb "java/math/MutableBigInteger" "intLen" "I" (.int ll)∧o_x Z h ra kr zz (o_T (o_aI ns f (nn-1)) (nn-1) (f (nn-1)<<<(ns&&&31)))
theorem o_n1 (l:Launch)(Z:State)(a0:Array Value)(hw: ∀d∈tables_1,d.before a0 Z=true)(ws:List Jvm.Cond)(mb ra:Addr)(kr:ClassId)(ll zz ns:Int32)(f:Nat→Int32)(nn:Nat)(h0:Heap)(n0:Nat)(Z0:n0≤h0.size)(x:Old Z n0 h0)(F:n0≤ra)(y:mb≠ra)(o:Exa Z h0 mb "java/math/MutableBigInteger")(h:Fld Z h0 mb "java/math/MutableBigInteger" "offset" "I" (.int (0:Int32)))(n:Fld Z h0 mb "java/math/MutableBigInteger" "value" "[I" (.ref ra))(k:Fld Z h0 mb "java/math/MutableBigInteger" "intLen" "I" (.int ll))(g:o_x Z h0 ra kr zz f)(hll:ll.toInt=nn)(hzz:zz.toInt=nn)(h2:2≤nn)(h9:nn≤9):
  o_q l (⟨"java/math/MutableBigInteger","primitiveLeftShift","(I)V"⟩:MethodName) (Jvm.Cond.code (⟨"java/math/MutableBigInteger","primitiveLeftShift","(I)V"⟩:MethodName) jdk_2101_method_42_code 8 none::ws) ({frames:=0,cells:=0,slots:=0,locals:=0}:Room) #[(.ref mb),(.int ns)] Z h0 (o_gd Z mb ra kr ll zz ns f nn h0 n0):=by
 refine o_u (plainFor_of_name o_ag) (fun m=>o_l3 m mb ns) fun p e s m H Q c s₁ hx I R S (T:s.vm.findClass "java/math/MutableBigInteger"=some m.cls) hnm hret X0 hZ e0=> ?_
 have D:=o_S I o_fI
 have a:=o_t hx I o_fI T hZ S hw
 have N0:=Fr.nil n0
 have KP:Keep h0 h0 [ra]:=Keep.refl _ _
 refine o_c 1 0 X0 a ?_
 refine o_h 4 1 111 X0 a e0 n fun ak w U=> ?_
 refine o_bt 5 2 #[_,_,_,_,_,_,_,_] w a ?_
 refine o_B 7 3 32 w a ?_
 refine o_e 8 4 w a ?_
 refine o_J 9 5 w a ?_
 refine o_O 10 6 #[_,_,_,_,_,_,_,_] w a ?_
 refine o_c 11 7 w a ?_
 refine o_h 14 8 109 w a U h fun al q J=> ?_
 refine o_o 16 9 #[_,_,_,_,_,_,_,_] q a ?_
 refine o_c 17 10 q a ?_
 refine o_d 19 11 q a ?_
 refine o_ai 20 0 q hx hZ J g rfl (by omega) (D 12 rfl) rfl ?_
 refine o_o 22 13 #[_,_,_,_,_,_,_,_] q a ?_
 refine o_d 24 14 q a ?_
 refine o_c 25 15 q a ?_
 refine o_h 28 16 113 q a J k fun am B V=> ?_
 refine o_v 29 17 B a ?_
 refine o_g 30 18 1 B a ?_
 refine o_J 31 19 B a ?_
 generalize K:(((0:Int32)+ll)-(1:Int32))=mm
 have hm:mm.toInt=((nn-1:Nat):Int):=K▸o_aV (j:=1) (o_aE (i:=0) rfl hll (by omega):_=((0+nn:Nat):Int)) rfl (by omega)|>.trans (by omega)
 refine o_o 33 20 #[_,_,_,_,_,_,_,_] B a ?_
 have LP: ∀r:Nat,∀(G:State) (t:Heap) (L:List Loc) (i:Nat) (u:Int32) (g7:Slot),Stand p l e ({frames:=0,cells:=0,slots:=0,locals:=0}:Room) s m #[(.ref mb),(.int ns)] H Q c G L 0 0→G.heap=t→Fr n0 L→Old Z n0 t→Keep h0 t [ra]→Exa Z t mb "java/math/MutableBigInteger"→Fld Z t mb "java/math/MutableBigInteger" "offset" "I" (.int (0:Int32))→Fld Z t mb "java/math/MutableBigInteger" "value" "[I" (.ref ra)→Fld Z t mb "java/math/MutableBigInteger" "intLen" "I" (.int ll)→o_x Z t ra kr zz (o_aI ns f i)→i+r+1=nn→u.toInt=i→o_9 g7→o_f p e H (o_V s (o_gd Z mb ra kr ll zz ns f nn h0 n0) ({frames:=0,cells:=0,slots:=0,locals:=0}:Room).cells ({frames:=0,cells:=0,slots:=0,locals:=0}:Room).slots) G (mkF m 33 #[rv mb,iv ns,rv ra,iv ((32:Int32)-ns),iv u,iv (f i),iv mm,g7] []):=by
  intro r
  induction r with
  |zero=>
   intro ao aq au i u g7 z W X x KP o h n k g hr hi c7
   refine o_d 35 21 z a ?_
   refine o_d 37 22 z a ?_
   refine o_z 71 23 z a rfl (flt (o_an hi hm (by omega))).2.1 ?_
   refine o_c 72 44 z a ?_
   refine o_c 73 45 z a ?_
   refine o_h 76 46 109 z a W h fun av M Y=> ?_
   refine o_c 77 47 M a ?_
   refine o_h 80 48 113 M a Y k fun aw v N=> ?_
   refine o_v 81 49 v a ?_
   refine o_g 82 50 1 v a ?_
   refine o_J 83 51 v a ?_
   rw[K]
   refine o_hB 84 v hx (D 52 rfl) rfl rfl rfl ?_
   refine o_ai 85 (nn-1) v hx hZ N g hm (by omega) (D 53 rfl) rfl ?_
   rw[o_e4 (f:=f) (by omega:i≤nn-1)]
   refine o_e 86 54 v a ?_
   refine o_aS 87 55 v a ?_
   refine o_as 88 (nn-1) v hx hZ N g hm (by omega) (D 56 rfl) rfl fun ax ay O ad C ae=> ?_
   have af:=Fr.snoc O X F
   have KP:=KP.wr C (Or.inl (List.mem_of_getElem? (i:=0) rfl))
   have o:=o.wr C
   have h:=h.other C (Or.inl y)
   have n:=n.other C (Or.inl y)
   have k:=k.other C (Or.inl y)
   have g:=ae
   obtain rfl:i=nn-1:=by omega
   exact o_al 57 O a hret R (by rw[ad];exact ⟨rfl,af,KP,o,h,n,k,g⟩)
  |succ r IH=>
   intro aA aB aC i u g7 b P ag x KP o h n k g hr hi c7
   refine o_d 35 21 b a ?_
   refine o_d 37 22 b a ?_
   refine o_E 40 23 b a rfl (tlt (o_aA hi hm (by omega))).2.1 ?_
   refine o_d 42 24 b a ?_
   refine o_az 44 7 #[rv mb,iv ns,rv ra,iv ((32:Int32)-ns),iv u,iv (f i),iv mm,iv (f i)] b hx (D 25 rfl) rfl c7 rfl rfl ?_
   have hi1:(u+(1:Int32)).toInt=((i+1:Nat):Int):=o_aE hi rfl (by omega)
   refine o_c 45 26 b a ?_
   refine o_d 47 27 b a ?_
   refine o_g 48 28 1 b a ?_
   refine o_v 49 29 b a ?_
   refine o_ai 50 (i+1) b hx hZ P g hi1 (by omega) (D 30 rfl) rfl ?_
   rw[o_e4 (f:=f) (by omega:i≤i+1)]
   refine o_o 52 31 #[_,_,_,_,_,_,_,_] b a ?_
   refine o_c 53 32 b a ?_
   refine o_d 55 33 b a ?_
   refine o_d 57 34 b a ?_
   refine o_e 58 35 b a ?_
   refine o_aS 59 36 b a ?_
   refine o_d 61 37 b a ?_
   refine o_e 62 38 b a ?_
   refine o_af 63 39 b a ?_
   refine o_b9 64 40 b a ?_
   refine o_as 65 i b hx hZ P g hi (by omega) (D 41 rfl) rfl fun aD aE E ah A ai=> ?_
   have aj:=Fr.snoc E ag F
   have x:=x.wr A F
   have KP:=KP.wr A (Or.inl (List.mem_of_getElem? (i:=0) rfl))
   have o:=o.wr A
   have h:=h.other A (Or.inl y)
   have n:=n.other A (Or.inl y)
   have k:=k.other A (Or.inl y)
   have g:=ai
   refine o_G 68 42 #[_,_,_,_,iv (u+(1:Int32)),_,_,_] E a ?_
   refine o_w 33 43 E a ?_
   exact IH _ _ _ (i+1) (u+(1:Int32)) _ E ah aj x KP o h n k (o_hP g) (by omega) hi1 ⟨rfl,rfl⟩
 exact LP (nn-1) _ _ _ 0 (0:Int32) .unset B V N0 x KP o h n k (by rw[o_hN];exact g) (by omega) rfl ⟨rfl,rfl⟩
def o_n2 (Z:State)(mb ra:Addr)(kr:ClassId)(ll zz sh:Int32)(f:Nat→Int32)(nn:Nat)(h0:Heap)(n0:Nat)(v:Option Value)(h:Heap)(L:List Loc):Prop:=v=none∧Fr n0 L∧Keep h0 h [mb,ra]∧Exa Z h mb "java/math/MutableBigInteger"∧Fld Z h mb "java/math/MutableBigInteger" "offset" "I" (.int (0:Int32))∧Fld Z h mb "java/math/MutableBigInteger" "value" "[I" (.ref ra)∧Fld Z h mb "java/math/MutableBigInteger" "intLen" "I" (.int (ll-(1:Int32)))∧o_x Z h ra kr zz (o_T (o_aI ((32:Int32)-sh) f (nn-1)) (nn-1) (f (nn-1)<<<(((32:Int32)-sh)&&&31)))
theorem o_n3 (l:Launch)(Z:State)(a0:Array Value)(hw: ∀d∈tables_1,d.before a0 Z=true)(ws:List Jvm.Cond)(mb ra:Addr)(kr:ClassId)(ll zz sh:Int32)(f:Nat→Int32)(nn:Nat)(h0:Heap)(n0:Nat)(Z0:n0≤h0.size)(y:Old Z n0 h0)(ks:Nat)(z:n0≤mb)(K:n0≤ra)(u:mb≠ra)(h:Exa Z h0 mb "java/math/MutableBigInteger")(k:Fld Z h0 mb "java/math/MutableBigInteger" "offset" "I" (.int (0:Int32)))(n:Fld Z h0 mb "java/math/MutableBigInteger" "value" "[I" (.ref ra))(b:Fld Z h0 mb "java/math/MutableBigInteger" "intLen" "I" (.int ll))(q:o_x Z h0 ra kr zz f)(hll:ll.toInt=nn)(hzz:zz.toInt=nn)(h2:2≤nn)(h9:nn≤9)(hs:sh.toInt=(ks:Int))(h1k:1≤ks)(hk:ks≤31)(hf0:f 0=0):
  o_q l (⟨"java/math/MutableBigInteger","rightShift","(I)V"⟩:MethodName) (Jvm.Cond.code (⟨"java/math/MutableBigInteger","rightShift","(I)V"⟩:MethodName) jdk_2101_method_35_code 5 none::ws) ({frames:=2,cells:=0,slots:=0,locals:=34}:Room) #[(.ref mb),(.int sh)] Z h0 (o_n2 Z mb ra kr ll zz sh f nn h0 n0):=by
 refine o_u (plainFor_of_name o_ag) (fun m=>o_l4 m mb sh) fun p e s m al am c s₁ hx G L M (N:s.vm.findClass "java/math/MutableBigInteger"=some m.cls) hnm hret X0 hZ e0=> ?_
 have D:=o_S G o_fJ
 have a:=o_t hx G o_fJ N hZ M hw
 have N0:=Fr.nil n0
 have KP:Keep h0 h0 [mb,ra]:=Keep.refl _ _
 refine o_c 1 0 X0 a ?_
 refine o_h 4 1 113 X0 a e0 b fun ao g O=> ?_
 refine o_p 8 2 g a rfl ((if0 _ _).trans (feq (o_bJ hll (by omega))).2) ?_
 refine o_e 9 4 g a ?_
 refine o_g 10 5 5 g a ?_
 refine o_af 11 6 g a ?_
 rw[o_dA hs hk]
 refine o_O 12 7 #[_,_,_,_,_] g a ?_
 refine o_e 13 8 g a ?_
 refine o_B 15 9 31 g a ?_
 refine o_ba 16 10 g a ?_
 rw[o_dB hs hk]
 refine o_O 17 11 #[_,_,_,_,_] g a ?_
 refine o_c 18 12 g a ?_
 refine o_ab 19 13 g a ?_
 refine o_h 22 14 113 g a O b fun aq A P=> ?_
 refine o_e 23 15 A a ?_
 refine o_J 24 16 A a ?_
 rw[o_e7 ll]
 refine o_R 27 17 113 102 A a P b h (Or.inl (o_b hw 114 rfl)) (ty:= .int) fun au B w Q r=> ?_
 have R:=Fr.snoc w N0 z
 have S:Fld Z B mb "java/math/MutableBigInteger" "intLen" "I" (.int ll):=b.same r
 have y:=y.wr r z
 have KP:=KP.wr r (Or.inl (List.mem_of_getElem? (i:=0) rfl))
 have h:=h.wr r
 have k:=k.other r (Or.inr (slot_ne (Or.inl (o_b hw 110 rfl)) (Or.inl (o_b hw 114 rfl)) (by decide) (t:= .int) (t':= .int) (by decide) (by decide)))
 have n:=n.other r (Or.inr (slot_ne (Or.inl (o_b hw 112 rfl)) (Or.inl (o_b hw 114 rfl)) (by decide) (t:=(.array .int)) (t':= .int) (by decide) (by decide)))
 have q:=q.other r (Ne.symm u)
 have b:=S
 refine o_e 28 18 w a ?_
 refine o_p 32 19 w a rfl ((if0 _ _).trans (feq (o_bJ hs h1k)).2) ?_
 refine o_c 33 21 w a ?_
 refine o_h 36 22 111 w a Q n fun av H T=> ?_
 refine o_c 37 23 H a ?_
 refine o_h 40 24 109 H a T k fun aw I J=> ?_
 refine o_ai 41 0 I hx hZ J q rfl (by omega) (D 25 rfl) rfl ?_
 rw[hf0]
 refine o_F 44 1 0 0 0 26 286 287 24 288 I a (o_n0 l Z a0 hw [] B n0 (Nat.le_trans Z0 KP.1) y) o_aN J fun _ ax ay o U=> ?_
 obtain ⟨rfl,V,W⟩:=U
 have X:=Fr.app R V
 refine o_k [_] ?_
 refine o_o 46 27 #[_,_,_,_,_] o a ?_
 refine o_e 47 28 o a ?_
 refine o_d 49 29 o a ?_
 refine o_E 52 30 o a rfl (flt (o_an hs (j:=0) rfl (by omega))).1 ?_
 refine o_c 53 31 o a ?_
 refine o_B 55 32 32 o a ?_
 refine o_e 56 33 o a ?_
 refine o_J 57 34 o a ?_
 refine o_aD 60 1 0 0 0 35 290 291 293 292 103 294 o a (o_n1 l Z a0 hw [] mb ra kr ll zz ((32:Int32)-sh) f nn B n0 (Nat.le_trans Z0 KP.1) y K u h k n b q hll hzz h2 h9) o_c' W h fun _ aA aB C Y=> ?_
 obtain ⟨rfl,ad,x,-,aC,aD,aE,ae⟩:=Y
 have af:=Fr.app X ad
 have KP:=KP.trans x (allS (Or.inl (List.mem_of_getElem? (i:=1) rfl)) all0)
 have h:=h.keep x
 have k:=k.keep x (ninS u nin0)
 have n:=n.keep x (ninS u nin0)
 have b:=b.keep x (ninS u nin0)
 refine o_k [] ?_
 have q:=ae
 refine o_c 61 36 C a ?_
 refine o_ab 62 37 C a ?_
 refine o_h 65 38 113 C a rfl b fun aF E ag=> ?_
 refine o_g 66 39 1 E a ?_
 refine o_J 67 40 E a ?_
 refine o_R 70 41 113 102 E a ag b h (Or.inl (o_b hw 114 rfl)) (ty:= .int) fun aG ah F ai v=> ?_
 have aj:=Fr.snoc F af z
 have ak:Fld Z ah mb "java/math/MutableBigInteger" "intLen" "I" (.int (ll-(1:Int32))):=b.same v
 have KP:=KP.wr v (Or.inl (List.mem_of_getElem? (i:=0) rfl))
 have h:=h.wr v
 have k:=k.other v (Or.inr (slot_ne (Or.inl (o_b hw 110 rfl)) (Or.inl (o_b hw 114 rfl)) (by decide) (t:= .int) (t':= .int) (by decide) (by decide)))
 have n:=n.other v (Or.inr (slot_ne (Or.inl (o_b hw 112 rfl)) (Or.inl (o_b hw 114 rfl)) (by decide) (t:=(.array .int)) (t':= .int) (by decide) (by decide)))
 have q:=q.other v (Ne.symm u)
 have b:=ak
 refine o_w 78 42 F a ?_
 exact o_al 46 F a hret L (by rw[ai];exact ⟨rfl,aj,KP,h,k,n,b,q⟩)
def o_d6 (Z:State)(mb ra:Addr)(f:Nat→Int32)(il:Nat)(h0:Heap)(n0:Nat)(v:Option Value)(h:Heap)(L:List Loc):Prop:=v=none∧Fr n0 L∧Keep h0 h [mb]∧ ∃oo l2:Int32,Exa Z h mb "java/math/MutableBigInteger"∧Fld Z h mb "java/math/MutableBigInteger" "offset" "I" (.int oo)∧Fld Z h mb "java/math/MutableBigInteger" "value" "[I" (.ref ra)∧Fld Z h mb "java/math/MutableBigInteger" "intLen" "I" (.int l2)∧o_a4 oo l2 il f
theorem o_d7 (l:Launch)(Z:State)(a0:Array Value)(hw: ∀d∈tables_1,d.before a0 Z=true)(ws:List Jvm.Cond)(mb ra:Addr)(f:Nat→Int32)(il:Nat)(h0:Heap)(n0:Nat)(Z0:n0≤h0.size)(w:Old Z n0 h0)(kr:ClassId)(ll zz:Int32)(M:n0≤mb)(aM:ra≠mb)(h:Exa Z h0 mb "java/math/MutableBigInteger")(b:Fld Z h0 mb "java/math/MutableBigInteger" "offset" "I" (.int (0:Int32)))(j:Fld Z h0 mb "java/math/MutableBigInteger" "value" "[I" (.ref ra))(g:Fld Z h0 mb "java/math/MutableBigInteger" "intLen" "I" (.int ll))(n:o_x Z h0 ra kr zz f)(hll:ll.toInt=il)(hzz:(il:Int)≤zz.toInt)(h1:1≤il)(h9:il≤9):
  o_q l (⟨"java/math/MutableBigInteger","normalize","()V"⟩:MethodName) (Jvm.Cond.code (⟨"java/math/MutableBigInteger","normalize","()V"⟩:MethodName) jdk_2101_method_21_code 4 none::ws) ({frames:=0,cells:=0,slots:=0,locals:=0}:Room) #[(.ref mb)] Z h0 (o_d6 Z mb ra f il h0 n0):=by
 refine o_u (plainFor_of_name o_ag) (fun m=>o_l5 m mb) fun p e s m K W c s₁ hx X N ai (aj:s.vm.findClass "java/math/MutableBigInteger"=some m.cls) hnm hret X0 hZ e0=> ?_
 have D:=o_S X o_fK
 have a:=o_t hx X o_fK aj hZ ai hw
 have N0:=Fr.nil n0
 have KP:Keep h0 h0 [mb]:=Keep.refl _ _
 refine o_c 1 0 X0 a ?_
 refine o_h 4 1 113 X0 a e0 g fun aN O ak=> ?_
 refine o_p 13 2 O a rfl ((if0 _ _).trans (feq (o_bJ hll (by omega))).2) ?_
 refine o_c 14 7 O a ?_
 refine o_h 17 8 109 O a ak b fun aO P al=> ?_
 refine o_O 18 9 #[_,_,_,_] P a ?_
 refine o_c 19 10 P a ?_
 refine o_h 22 11 111 P a al j fun aP u Q=> ?_
 refine o_e 23 12 u a ?_
 refine o_ai 24 0 u hx hZ Q n rfl (by omega) (D 13 rfl) rfl ?_
 by_cases hf0:(f 0)=(0:Int32)
 ·refine o_p 28 14 u a rfl ((if0 _ _).trans (teq hf0).1) ?_
  refine o_e 29 16 u a ?_
  refine o_c 30 17 u a ?_
  refine o_h 33 18 113 u a Q g fun aQ R am=> ?_
  refine o_v 34 19 R a ?_
  rw[o_cT ll]
  refine o_O 35 20 #[_,_,_,_] R a ?_
  have EX: ∀(y:State) (k:Heap) (E:List Loc) (z:Nat) (jz:Int32),Stand p l e ({frames:=0,cells:=0,slots:=0,locals:=0}:Room) s m #[(.ref mb)] K W c y E 0 0→y.heap=k→Fr n0 E→Old Z n0 k→Keep h0 k [mb]→Exa Z k mb "java/math/MutableBigInteger"→Fld Z k mb "java/math/MutableBigInteger" "offset" "I" (.int (0:Int32))→Fld Z k mb "java/math/MutableBigInteger" "value" "[I" (.ref ra)→Fld Z k mb "java/math/MutableBigInteger" "intLen" "I" (.int ll)→o_x Z k ra kr zz f→z≤il→jz.toInt=z→1≤z→(∀x,x<z→f x=0)→(z<il→ ¬f z=0)→o_f p e K (o_V s (o_d6 Z mb ra f il h0 n0) ({frames:=0,cells:=0,slots:=0,locals:=0}:Room).cells ({frames:=0,cells:=0,slots:=0,locals:=0}:Room).slots) y (mkF m 52 #[rv mb,iv jz,iv ll,.unset] []):=by
   intro aR aS aT z jz S ao aq w KP h b j g n hz Y h1 hlt hnz
   refine o_e 53 30 S a ?_
   refine o_c 54 31 S a ?_
   refine o_h 57 32 109 S a ao b fun aU F au=> ?_
   refine o_J 58 33 F a ?_
   rw[o_e7 jz]
   refine o_O 59 34 #[_,_,_,_] F a ?_
   refine o_c 60 35 F a ?_
   refine o_ab 61 36 F a ?_
   refine o_h 64 37 113 F a au g fun aV T av=> ?_
   refine o_e 65 38 T a ?_
   refine o_J 66 39 T a ?_
   refine o_R 69 40 113 102 T a av g h (Or.inl (o_b hw 114 rfl)) (ty:= .int) fun aW aw L ax G=> ?_
   have ad:=Fr.snoc L aq M
   have ay:Fld Z aw mb "java/math/MutableBigInteger" "intLen" "I" (.int (ll-jz)):=g.same G
   have KP:=KP.wr G (Or.inl (List.mem_of_getElem? (i:=0) rfl))
   have h:=h.wr G
   have b:=b.other G (Or.inr (slot_ne (Or.inl (o_b hw 110 rfl)) (Or.inl (o_b hw 114 rfl)) (by decide) (t:= .int) (t':= .int) (by decide) (by decide)))
   have j:=j.other G (Or.inr (slot_ne (Or.inl (o_b hw 112 rfl)) (Or.inl (o_b hw 114 rfl)) (by decide) (t:=(.array .int)) (t':= .int) (by decide) (by decide)))
   have g:=ay
   refine o_c 70 41 L a ?_
   refine o_c 71 42 L a ?_
   refine o_h 74 43 113 L a ax g fun aX A ae=> ?_
   have hl2:(ll-jz).toInt=((il-z:Nat):Int):=o_aV hll Y hz
   by_cases hl0:(ll-jz)=(0:Int32)
   ·refine o_r 77 44 A a rfl ((if0 _ _).trans (teq hl0).2) ?_
    have ez:z=il:=by have o:(0:Int32).toInt=0:=rfl;rw[hl0] at hl2;omega
    refine o_g 78 45 0 A a ?_
    refine o_w 87 46 A a ?_
    refine o_R 90 51 109 102 A a ae b h (Or.inl (o_b hw 110 rfl)) (ty:= .int) fun aY aA af aB H=> ?_
    have aC:=Fr.snoc af ad M
    have aD:Fld Z aA mb "java/math/MutableBigInteger" "offset" "I" (.int (0:Int32)):=b.same H
    have KP:=KP.wr H (Or.inl (List.mem_of_getElem? (i:=0) rfl))
    have h:=h.wr H
    have j:=j.other H (Or.inr (slot_ne (Or.inl (o_b hw 112 rfl)) (Or.inl (o_b hw 110 rfl)) (by decide) (t:=(.array .int)) (t':= .int) (by decide) (by decide)))
    have g:=g.other H (Or.inr (slot_ne (Or.inl (o_b hw 114 rfl)) (Or.inl (o_b hw 110 rfl)) (by decide) (t:= .int) (t':= .int) (by decide) (by decide)))
    have b:=aD
    exact o_al 52 af a hret N (by rw[aB];exact ⟨rfl,aC,KP,_,_,h,b,j,g,z,hz,hlt,hnz,hl2,fun q=>absurd q (by omega),fun _=>rfl⟩)
   ·refine o_p 81 44 A a rfl ((if0 _ _).trans (feq hl0).2) ?_
    refine o_c 82 47 A a ?_
    refine o_h 85 48 109 A a ae b fun aZ U aE=> ?_
    refine o_e 86 49 U a ?_
    refine o_v 87 50 U a ?_
    rw[o_cT jz]
    refine o_R 90 51 109 102 U a aE b h (Or.inl (o_b hw 110 rfl)) (ty:= .int) fun a5 aF ag aG I=> ?_
    have aH:=Fr.snoc ag ad M
    have aI:Fld Z aF mb "java/math/MutableBigInteger" "offset" "I" (.int jz):=b.same I
    have KP:=KP.wr I (Or.inl (List.mem_of_getElem? (i:=0) rfl))
    have h:=h.wr I
    have j:=j.other I (Or.inr (slot_ne (Or.inl (o_b hw 112 rfl)) (Or.inl (o_b hw 110 rfl)) (by decide) (t:=(.array .int)) (t':= .int) (by decide) (by decide)))
    have g:=g.other I (Or.inr (slot_ne (Or.inl (o_b hw 114 rfl)) (Or.inl (o_b hw 110 rfl)) (by decide) (t:= .int) (t':= .int) (by decide) (by decide)))
    have b:=aI
    exact o_al 52 ag a hret N (by rw[aG];exact ⟨rfl,aH,KP,_,_,h,b,j,g,z,hz,hlt,hnz,hl2,fun _=>Y,fun q=>absurd (o_cS (by omega)) hl0⟩)
  have LP: ∀r:Nat,∀(y:State) (k:Heap) (E:List Loc) (i:Nat) (v:Int32),Stand p l e ({frames:=0,cells:=0,slots:=0,locals:=0}:Room) s m #[(.ref mb)] K W c y E 0 0→y.heap=k→Fr n0 E→Old Z n0 k→Keep h0 k [mb]→Exa Z k mb "java/math/MutableBigInteger"→Fld Z k mb "java/math/MutableBigInteger" "offset" "I" (.int (0:Int32))→Fld Z k mb "java/math/MutableBigInteger" "value" "[I" (.ref ra)→Fld Z k mb "java/math/MutableBigInteger" "intLen" "I" (.int ll)→o_x Z k ra kr zz f→i+r+1=il→v.toInt=i→(∀x,x≤i→f x=0)→o_f p e K (o_V s (o_d6 Z mb ra f il h0 n0) ({frames:=0,cells:=0,slots:=0,locals:=0}:Room).cells ({frames:=0,cells:=0,slots:=0,locals:=0}:Room).slots) y (mkF m 35 #[rv mb,iv v,iv ll,.unset] []):=by
   intro r
   induction r with
   |zero=>
    intro a6 a7 a8 i v J aJ aK w KP h b j g n hr hi hz
    have hi1:(v+(1:Int32)).toInt=((i+1:Nat):Int):=o_aE hi rfl (by omega)
    refine o_G 38 21 #[_,iv (v+(1:Int32)),_,_] J a ?_
    refine o_e 39 22 J a ?_
    refine o_e 40 23 J a ?_
    refine o_z 52 24 J a rfl (flt (o_an hi1 hll (by omega))).2.1 ?_
    exact EX _ _ _ (i+1) _ J aJ aK w KP h b j g n (by omega) hi1 (by omega) (fun x q=>hz x (by omega)) (fun q=>absurd q (by omega))
   |succ r IH=>
    intro a9 a_ a' i v B aL ah w KP h b j g n hr hi hz
    have hi1:(v+(1:Int32)).toInt=((i+1:Nat):Int):=o_aE hi rfl (by omega)
    refine o_G 38 21 #[_,iv (v+(1:Int32)),_,_] B a ?_
    refine o_e 39 22 B a ?_
    refine o_e 40 23 B a ?_
    refine o_E 43 24 B a rfl (tlt (o_aA hi1 hll (by omega))).2.1 ?_
    refine o_c 44 25 B a ?_
    refine o_h 47 26 111 B a aL j fun bb C V=> ?_
    refine o_e 48 27 C a ?_
    refine o_ai 49 (i+1) C hx hZ V n hi1 (by omega) (D 28 rfl) rfl ?_
    by_cases hfi:(f (i+1))=(0:Int32)
    ·refine o_p 35 29 C a rfl ((if0 _ _).trans (teq hfi).1) ?_
     exact IH _ _ _ (i+1) _ C V ah w KP h b j g n (by omega) hi1 (o_hS hz hfi)
    ·refine o_r 52 29 C a rfl ((if0 _ _).trans (feq hfi).1) ?_
     exact EX _ _ _ (i+1) _ C V ah w KP h b j g n (by omega) hi1 (by omega) (fun x q=>hz x (by omega)) (fun _=>hfi)
  exact LP (il-1) _ _ _ 0 _ R am N0 w KP h b j g n (by omega) rfl (o_hT hf0)
 ·refine o_r 27 14 u a rfl ((if0 _ _).trans (feq hf0).1) ?_
  exact o_al 15 u a hret N (by rw[Q];exact ⟨rfl,N0,KP,(0:Int32),ll,h,b,j,g,0,by omega,fun i q=>absurd q (by omega),fun _=>hf0,hll,fun _=>rfl,fun q=>absurd q (by omega)⟩)
def o_ge (Z:State)(b:Addr)(kb:ClassId)(zb cn sh:Int32)(f g:Nat→Int32)(d nn:Nat)(h0:Heap)(n0:Nat)(v:Option Value)(h:Heap)(L:List Loc):Prop:=v=none∧Fr n0 L∧Keep h0 h [b]∧o_x Z h b kb zb (o_T (o_aU sh f g d (nn-1)) (d+(nn-1)) (f (nn-1)<<<(sh&&&31)))
theorem o_gf (l:Launch)(Z:State)(a0:Array Value)(hw: ∀d∈tables_1,d.before a0 Z=true)(ws:List Jvm.Cond)(a b:Addr)(kb:ClassId)(zb cn dd sh:Int32)(f g:Nat→Int32)(d nn:Nat)(h0:Heap)(n0:Nat)(Z0:n0≤h0.size)(u:Old Z n0 h0)(ka:ClassId)(za:Int32)(x:n0≤b)(G:a≠b)(t:o_x Z h0 a ka za f)(q:o_x Z h0 b kb zb g)(hcn:cn.toInt=nn)(hdd:dd.toInt=d)(h1:1≤nn)(h9:nn≤9)(hd9:d≤9)(hza:(nn:Int)≤za.toInt)(hzb:((d+nn:Nat):Int)≤zb.toInt):
  o_q l (⟨"java/math/MutableBigInteger","copyAndShift","([III[III)V"⟩:MethodName) (Jvm.Cond.code (⟨"java/math/MutableBigInteger","copyAndShift","([III[III)V"⟩:MethodName) jdk_2101_method_64_code 10 none::ws) ({frames:=0,cells:=0,slots:=0,locals:=0}:Room) #[(.ref a),(.int (0:Int32)),(.int cn),(.ref b),(.int dd),(.int sh)] Z h0 (o_ge Z b kb zb cn sh f g d nn h0 n0):=by
 refine o_u (plainFor_of_name o_ag) (fun m=>o_l6 m a (0:Int32) cn b dd sh) fun p e s m A H c s₁ hx B I J (K:s.vm.findClass "java/math/MutableBigInteger"=some m.cls) hnm hret X0 hZ e0=> ?_
 have D:=o_S B o_fL
 have h:=o_t hx B o_fL K hZ J hw
 have N0:=Fr.nil n0
 have KP:Keep h0 h0 [b]:=Keep.refl _ _
 refine o_B 2 0 32 X0 h ?_
 refine o_d 4 1 X0 h ?_
 refine o_J 5 2 X0 h ?_
 refine o_o 7 3 #[_,_,_,_,_,_,_,_,_,_] X0 h ?_
 refine o_c 8 4 X0 h ?_
 refine o_e 9 5 X0 h ?_
 refine o_ai 10 0 X0 hx hZ e0 t rfl (by omega) (D 6 rfl) rfl ?_
 refine o_o 12 7 #[_,_,_,_,_,_,_,_,_,_] X0 h ?_
 refine o_g 13 8 0 X0 h ?_
 refine o_o 15 9 #[_,_,_,_,_,_,_,_,_,_] X0 h ?_
 have hm:(cn-(1:Int32)).toInt=((nn-1:Nat):Int):=o_aV (j:=1) hcn rfl h1
 have LP: ∀r:Nat,∀(y:State) (v:Heap) (C:List Loc) (i:Nat) (o:Int32) (g9:Slot),Stand p l e ({frames:=0,cells:=0,slots:=0,locals:=0}:Room) s m #[(.ref a),(.int (0:Int32)),(.int cn),(.ref b),(.int dd),(.int sh)] A H c y C 0 0→y.heap=v→Fr n0 C→Old Z n0 v→Keep h0 v [b]→o_x Z v a ka za f→o_x Z v b kb zb (o_aU sh f g d i)→i+r+1=nn→o.toInt=i→o_9 g9→o_f p e A (o_V s (o_ge Z b kb zb cn sh f g d nn h0 n0) ({frames:=0,cells:=0,slots:=0,locals:=0}:Room).cells ({frames:=0,cells:=0,slots:=0,locals:=0}:Room).slots) y (mkF m 15 #[rv a,iv o,iv cn,rv b,iv dd,iv sh,iv ((32:Int32)-sh),iv (f i),iv o,g9] []):=by
  intro r
  induction r with
  |zero=>
   intro V W X i o g9 n L M u KP t q hr hi c9
   refine o_d 17 10 n h ?_
   refine o_e 18 11 n h ?_
   refine o_g 19 12 1 n h ?_
   refine o_J 20 13 n h ?_
   refine o_z 59 14 n h rfl (flt (o_an hi hm (by omega))).2.1 ?_
   obtain rfl:i=nn-1:=by omega
   refine o_c 60 36 n h ?_
   refine o_d 62 37 n h ?_
   refine o_e 63 38 n h ?_
   refine o_v 64 39 n h ?_
   refine o_g 65 40 1 n h ?_
   refine o_J 66 41 n h ?_
   refine o_d 68 42 n h ?_
   refine o_d 70 43 n h ?_
   refine o_aS 71 44 n h ?_
   refine o_as 72 (d+(nn-1)) n hx hZ L q ((o_aV (j:=1) (o_aE hdd hcn (by omega)) rfl (by omega)).trans (by omega)) (by omega) (D 45 rfl) rfl fun Y ad E N O P=> ?_
   have Q:=Fr.snoc E M x
   have KP:=KP.wr O (Or.inl (List.mem_of_getElem? (i:=0) rfl))
   have q:=P
   exact o_al 46 E h hret I (by rw[N];exact ⟨rfl,Q,KP,q⟩)
  |succ r IH=>
   intro ae af ag i o g9 k F R u KP t q hr hi c9
   refine o_d 17 10 k h ?_
   refine o_e 18 11 k h ?_
   refine o_g 19 12 1 k h ?_
   refine o_J 20 13 k h ?_
   refine o_E 23 14 k h rfl (tlt (o_aA hi hm (by omega))).2.1 ?_
   have hi1:(o+(1:Int32)).toInt=((i+1:Nat):Int):=o_aE hi rfl (by omega)
   refine o_d 25 15 k h ?_
   refine o_az 27 9 #[rv a,iv o,iv cn,rv b,iv dd,iv sh,iv ((32:Int32)-sh),iv (f i),iv o,iv (f i)] k hx (D 16 rfl) rfl c9 rfl rfl ?_
   refine o_c 28 17 k h ?_
   refine o_G 31 18 #[_,iv (o+(1:Int32)),_,_,_,_,_,_,_,_] k h ?_
   refine o_e 32 19 k h ?_
   refine o_ai 33 (i+1) k hx hZ F t hi1 (by omega) (D 20 rfl) rfl ?_
   refine o_o 35 21 #[_,_,_,_,_,_,_,_,_,_] k h ?_
   refine o_c 36 22 k h ?_
   refine o_d 38 23 k h ?_
   refine o_d 40 24 k h ?_
   refine o_v 41 25 k h ?_
   refine o_d 43 26 k h ?_
   refine o_d 45 27 k h ?_
   refine o_aS 46 28 k h ?_
   refine o_d 48 29 k h ?_
   refine o_d 50 30 k h ?_
   refine o_af 51 31 k h ?_
   refine o_b9 52 32 k h ?_
   refine o_as 53 (d+i) k hx hZ F q (o_aE hdd hi (by omega)) (by omega) (D 33 rfl) rfl fun ah ai w S z T=> ?_
   have U:=Fr.snoc w R x
   have u:=u.wr z x
   have KP:=KP.wr z (Or.inl (List.mem_of_getElem? (i:=0) rfl))
   have t:=t.other z G
   have q:=T
   refine o_G 56 34 #[_,_,_,_,_,_,_,_,iv (o+(1:Int32)),_] w h ?_
   refine o_w 15 35 w h ?_
   exact IH _ _ _ (i+1) (o+(1:Int32)) _ w S U u KP t (o_e6 q) (by omega) hi1 ⟨rfl,rfl⟩
 exact LP (nn-1) _ _ _ 0 (0:Int32) .unset X0 e0 N0 u KP t (by rw[o_e5];exact q) (by omega) rfl ⟨rfl,rfl⟩
def o_gg (Z:State)(a:Addr)(ka:ClassId)(za:Int32)(h0:Heap)(n0:Nat)(v:Option Value)(h:Heap)(L:List Loc):Prop:=v=none∧Fr n0 L∧Keep h0 h [a]∧ ∃f',o_x Z h a ka za f'
theorem o_n4 (l:Launch)(Z:State)(a0:Array Value)(hw: ∀d∈tables_1,d.before a0 Z=true)(ws:List Jvm.Cond)(a:Addr)(ka:ClassId)(za:Int32)(h0:Heap)(n0:Nat)(Z0:n0≤h0.size)(j:Old Z n0 h0)(f:Nat→Int32)(nn:Nat)(u:n0≤a)(g:o_x Z h0 a ka za f)(hza:za.toInt=nn)(h9:nn≤9):
  o_q l (⟨"java/util/Arrays","fill","([II)V"⟩:MethodName) (Jvm.Cond.code (⟨"java/util/Arrays","fill","([II)V"⟩:MethodName) jdk_65_method_103_code 4 none::ws) ({frames:=0,cells:=0,slots:=0,locals:=0}:Room) #[(.ref a),(.int (0:Int32))] Z h0 (o_gg Z a ka za h0 n0):=by
 refine o_u (plainFor_of_name o_aW) (fun m=>o_l7 m a (0:Int32)) fun p e s m v z c s₁ hx w A B (C:s.vm.findClass "java/util/Arrays"=some m.cls) hnm hret X0 hZ e0=> ?_
 have D:=o_S w o_fM
 have b:=o_t hx w o_fM C hZ B hw
 have N0:=Fr.nil n0
 have KP:Keep h0 h0 [a]:=Keep.refl _ _
 refine o_g 1 0 0 X0 b ?_
 refine o_O 2 1 #[_,_,_,_] X0 b ?_
 refine o_c 3 2 X0 b ?_
 refine o_C 4 3 X0 b e0 g ?_
 refine o_O 5 4 #[_,_,_,_] X0 b ?_
 have LP: ∀r:Nat,∀(t:State) (n:Heap) (x:List Loc) (fx:Nat→Int32) (i:Nat) (k:Int32),Stand p l e ({frames:=0,cells:=0,slots:=0,locals:=0}:Room) s m #[(.ref a),(.int (0:Int32))] v z c t x 0 0→t.heap=n→Fr n0 x→Old Z n0 n→Keep h0 n [a]→o_x Z n a ka za fx→i+r=nn→k.toInt=i→o_f p e v (o_V s (o_gg Z a ka za h0 n0) ({frames:=0,cells:=0,slots:=0,locals:=0}:Room).cells ({frames:=0,cells:=0,slots:=0,locals:=0}:Room).slots) t (mkF m 5 #[rv a,iv 0,iv k,iv za] []):=by
  intro r
  induction r with
  |zero=>
   intro L M N fx i k o E F j KP g hr hi
   refine o_e 6 5 o b ?_
   refine o_e 7 6 o b ?_
   refine o_z 20 7 o b rfl (flt (o_an hi hza (by omega))).2.1 ?_
   exact o_al 14 o b hret A (by rw[E];exact ⟨rfl,F,KP,_,g⟩)
  |succ r IH=>
   intro O P Q fx i k h G H j KP g hr hi
   refine o_e 6 5 h b ?_
   refine o_e 7 6 h b ?_
   refine o_E 10 7 h b rfl (tlt (o_aA hi hza (by omega))).2.1 ?_
   refine o_c 11 8 h b ?_
   refine o_e 12 9 h b ?_
   refine o_e 13 10 h b ?_
   refine o_as 14 i h hx hZ G g hi (by omega) (D 11 rfl) rfl fun R S q I y J=> ?_
   have K:=Fr.snoc q H u
   have j:=j.wr y u
   have KP:=KP.wr y (Or.inl (List.mem_of_getElem? (i:=0) rfl))
   have g:=J
   refine o_G 17 12 #[_,_,iv (k+(1:Int32)),_] q b ?_
   refine o_w 5 13 q b ?_
   exact IH _ _ _ _ (i+1) (k+(1:Int32)) q I K j KP g (by omega) (o_aE hi rfl (by omega))
 exact LP nn _ _ _ f 0 (0:Int32) X0 e0 N0 j KP g (by omega) rfl
def o_d8 (Z:State)(a:Addr)(f:Nat→Int32)(fo to:Int32)(i0 n1:Nat)(h0:Heap)(n0:Nat)(v:Option Value)(h:Heap)(L:List Loc):Prop:= ∃(b:Addr) (kb:ClassId),v=some (.ref b)∧Fr n0 L∧Keep h0 h []∧n0≤b∧h0.size≤b∧o_x Z h b kb (to-fo) (fun i=>f (i0+i))∧Exa Z h b "[I"
theorem o_n5 (l:Launch)(Z:State)(a0:Array Value)(hw: ∀d∈tables_1,d.before a0 Z=true)(ws:List Jvm.Cond)(a:Addr)(f:Nat→Int32)(fo to:Int32)(i0 n1:Nat)(h0:Heap)(n0:Nat)(Z0:n0≤h0.size)(q:Old Z n0 h0)(ka:ClassId)(za:Int32)(o:o_x Z h0 a ka za f)(hfo:fo.toInt=i0)(hto:to.toInt=((i0+n1:Nat):Int))(hza:((i0+n1:Nat):Int)≤za.toInt)(h9:i0+n1≤9):
  o_q l (⟨"java/util/Arrays","copyOfRangeInt","([III)[I"⟩:MethodName) (Jvm.Cond.code (⟨"java/util/Arrays","copyOfRangeInt","([III)[I"⟩:MethodName) jdk_65_method_137_code 5 (some (.array .int))::ws) ({frames:=1,cells:=1,slots:=9,locals:=40}:Room) #[(.ref a),(.int fo),(.int to)] Z h0 (o_d8 Z a f fo to i0 n1 h0 n0):=by
 refine o_u (plainFor_of_name o_aW) (fun m=>o_l8 m a fo to) fun p e s m ag ah c s₁ hx A L B (C:s.vm.findClass "java/util/Arrays"=some m.cls) hnm hret X0 hZ e0=> ?_
 have D:=o_S A o_bw
 have b:=o_t hx A o_bw C hZ B hw
 have N0:=Fr.nil n0
 have KP:Keep h0 h0 []:=Keep.refl _ _
 have hnl:(to-fo).toInt=(n1:Int):=(o_aV hto hfo (by omega)).trans (by omega)
 have h00: ¬(0:Int32)<0:=by decide
 refine o_e 1 0 X0 b ?_
 refine o_e 2 1 X0 b ?_
 refine o_F 5 2 0 0 0 2 61 62 56 63 X0 b (o_dg l Z a0 hw [] fo to h0 n0 (Nat.le_trans Z0 KP.1) q (o_an hto hfo (by omega))) o_c7 e0 fun _ ai aj n M=> ?_
 obtain ⟨rfl,N,O⟩:=M
 have P:=Fr.app N0 N
 refine o_k [] ?_
 refine o_e 6 3 n b ?_
 refine o_e 7 4 n b ?_
 refine o_J 8 5 n b ?_
 refine o_O 9 6 #[_,_,_,_,_] n b ?_
 refine o_e 10 7 n b ?_
 obtain ⟨ak,t,u,h,E,v,F,G,H⟩:=newPE n hx hZ (o_b hw 52 rfl) O (g:=(mkF m 10 #[rv a,iv fo,iv to,iv (to-fo),.unset] [(.int (to-fo))])) rfl (D 8 rfl) rfl (o_an (j:=0) hnl rfl (by omega)) (cap:=9) (by rw[o_aT hnl];omega) (by decide) (by decide) (by decide) (ad:="[I") (by decide)
 obtain ⟨k,w⟩: ∃z,z=h0.size:=⟨_,rfl⟩
 rw[←w] at F G H
 have x:h0.size≤k:=Nat.le_trans KP.1 (Nat.le_of_eq w.symm)
 have I:n0≤k:=Nat.le_trans Z0 x
 have al:a≠k:=Nat.ne_of_lt (Nat.lt_of_lt_of_le o.lt (Nat.le_of_eq w.symm))
 have q:=q.ext v
 have KP:=KP.ext v
 have o:=o.ext v
 have y:Exa Z t k "[I":=G
 have r:o_x Z t k u (to-fo) (fun _=>0):=o_bQ (Arv.new F (o_an (j:=0) hnl rfl (by omega)))
 refine o_i (mkF m 12 #[rv a,iv fo,iv to,iv (to-fo),.unset] [(.ref k)]) H ?_
 refine o_1 14 9 #[_,_,_,_,_] h b ?_
 refine o_c 15 10 h b ?_
 refine o_e 16 11 h b ?_
 refine o_l 18 12 h b ?_
 refine o_g 19 13 0 h b ?_
 refine o_c 20 14 h b ?_
 refine o_C 21 15 h b E o ?_
 refine o_e 22 16 h b ?_
 refine o_J 23 17 h b ?_
 refine o_e 24 18 h b ?_
 refine o_F 27 2 4 1 9 19 64 65 3 66 h b (o_dh l Z a0 hw [] (za-fo) (to-fo) t n0 (Nat.le_trans Z0 KP.1) q (o_an (o_hY hfo (by omega)) hnl (by omega))) o_c8 E fun _ am ao Q R=> ?_
 obtain ⟨rfl,S,T⟩:=R
 have U:=Fr.app P S
 refine o_k [_,_,_,_,_] ?_
 obtain ⟨aq,V,L351,J,X,Y,K,ae,af⟩:=cpA Q hx hZ C (o_b hw 67 rfl) (o_b hw 70 rfl) (o_b hw 68 rfl) (o_b hw 69 rfl) T o r (Or.inl ⟨rfl,rfl⟩) (o_an (j:=0) hfo rfl (by omega)) h00 (o_an (j:=0) hnl rfl (by omega)) (by rw[o_aT hfo,o_aT hnl];exact o_e8 hza) (by show 0+_≤_;omega) rfl (by rw[o_cK];show 0+_≤_;omega) U I (g:=(mkF m 27 #[rv a,iv fo,iv to,iv (to-fo),rv k] [(.int (to-fo)),(.int (0:Int32)),(.ref k),(.int fo),(.ref a)])) rfl (by rw[B];rfl) rfl (D 20 rfl) (by decide) (W:=0) (by show 2*0+_≤_;exact Nat.le_of_eq rfl) (by decide)
 have KP:=KP.trans K (allS (Or.inr x) all0)
 have y:=y.keep K
 have r:o_x Z V k u (to-fo) (fun i=>f (fo.toNatClampNeg+i)):=o_hU rfl (by rw[o_aT hfo,o_aT hnl];exact o_e8 hza) ae
 refine o_i (mkF m 30 #[rv a,iv fo,iv to,iv (to-fo),rv k] []) af ?_
 refine o_l 32 21 J b ?_
 rw[o_aT hfo] at r
 exact o_K 22 J b hret L (by rw[X];exact ⟨k,u,rfl,Y,KP,I,x,r,y⟩)
theorem o_n6 (l:Launch)(Z:State)(a0:Array Value)(hw: ∀d∈tables_1,d.before a0 Z=true)(ws:List Jvm.Cond)(a:Addr)(f:Nat→Int32)(fo to:Int32)(i0 n1:Nat)(h0:Heap)(n0:Nat)(Z0:n0≤h0.size)(h:Old Z n0 h0)(ka:ClassId)(za:Int32)(g:o_x Z h0 a ka za f)(hfo:fo.toInt=i0)(hto:to.toInt=((i0+n1:Nat):Int))(hza:((i0+n1:Nat):Int)≤za.toInt)(h9:i0+n1≤9)(hro:fo=0→ ¬to=za):
  o_q l (⟨"java/util/Arrays","copyOfRange","([III)[I"⟩:MethodName) (Jvm.Cond.code (⟨"java/util/Arrays","copyOfRange","([III)[I"⟩:MethodName) jdk_65_method_136_code 3 (some (.array .int))::ws) ({frames:=2,cells:=1,slots:=9,locals:=58}:Room) #[(.ref a),(.int fo),(.int to)] Z h0 (o_d8 Z a f fo to i0 n1 h0 n0):=by
 refine o_u (plainFor_of_name o_aW) (fun m=>o_l9 m a fo to) fun p e s m n q c s₁ hx r t u (v:s.vm.findClass "java/util/Arrays"=some m.cls) hnm hret X0 hZ e0=> ?_
 have b:=o_t hx r o_bx v hZ u hw
 have N0:=Fr.nil n0
 have KP:Keep h0 h0 []:=Keep.refl _ _
 have J: ∀(k:State) (i:Heap) (o:List Loc),Stand p l e ({frames:=2,cells:=1,slots:=9,locals:=58}:Room) s m #[(.ref a),(.int fo),(.int to)] n q c k o 0 0→k.heap=i→Fr n0 o→Old Z n0 i→Keep h0 i []→o_x Z i a ka za f→o_f p e n (o_V s (o_d8 Z a f fo to i0 n1 h0 n0) ({frames:=2,cells:=1,slots:=9,locals:=58}:Room).cells ({frames:=2,cells:=1,slots:=9,locals:=58}:Room).slots) k (mkF m 10 #[rv a,iv fo,iv to] []):=by
  intro L w M j x y h KP g
  refine o_c 11 6 j b ?_
  refine o_e 12 7 j b ?_
  refine o_e 13 8 j b ?_
  have z:=KP
  refine o_F 16 3 0 1 9 9 58 59 56 60 j b (o_n5 l Z a0 hw [] a f fo to i0 n1 w n0 (Nat.le_trans Z0 KP.1) h ka za g hfo hto hza h9) o_bf x fun _ N O A B=> ?_
  obtain ⟨bb,C,rfl,D,E,F,G,H⟩:=B
  have I:=Fr.app y D
  have KP:=KP.trans E all0
  refine o_k [_] ?_
  have K:h0.size≤bb:=Nat.le_trans z.1 G
  exact o_K 10 A b hret t (by exact ⟨bb,C,rfl,I,KP,F,K,H⟩)
 refine o_e 1 0 X0 b ?_
 by_cases hf:fo=(0:Int32)
 ·refine o_r 4 1 X0 b rfl ((if0 _ _).trans (teq hf).2) ?_
  refine o_e 5 2 X0 b ?_
  refine o_c 6 3 X0 b ?_
  refine o_C 7 4 X0 b e0 g ?_
  refine o_E 10 5 X0 b rfl (feq (hro hf)).1 ?_
  exact J _ _ _ X0 e0 N0 h KP g
 ·refine o_p 10 1 X0 b rfl ((if0 _ _).trans (feq hf).2) ?_
  exact J _ _ _ X0 e0 N0 h KP g
def o_gh (Z:State)(mb ra:Addr)(f:Nat→Int32)(l2:Int32)(i0:Nat)(h0:Heap)(n0:Nat)(v:Option Value)(h:Heap)(L:List Loc):Prop:= ∃(b:Addr) (kb:ClassId),v=some (.ref b)∧Fr n0 L∧Keep h0 h [mb,ra]∧(b=ra∨h0.size≤b)∧n0≤b∧o_x Z h b kb l2 (fun i=>f (i0+i))∧Exa Z h b "[I"
theorem o_n7 (l:Launch)(Z:State)(a0:Array Value)(hw: ∀d∈tables_1,d.before a0 Z=true)(ws:List Jvm.Cond)(mb ra:Addr)(f:Nat→Int32)(l2:Int32)(i0:Nat)(h0:Heap)(n0:Nat)(Z0:n0≤h0.size)(u:Old Z n0 h0)(kr:ClassId)(oo zz:Int32)(n1 nz:Nat)(F:n0≤mb)(P:n0≤ra)(G:mb≠ra)(g:Exa Z h0 mb "java/math/MutableBigInteger")(j:Fld Z h0 mb "java/math/MutableBigInteger" "offset" "I" (.int oo))(b:Fld Z h0 mb "java/math/MutableBigInteger" "value" "[I" (.ref ra))(h:Fld Z h0 mb "java/math/MutableBigInteger" "intLen" "I" (.int l2))(n:o_x Z h0 ra kr zz f)(C:Exa Z h0 ra "[I")(hoo:oo.toInt=i0)(hl2:l2.toInt=n1)(h1:1≤n1)(hzz:zz.toInt=nz)(hle:i0+n1≤nz)(h9:nz≤9):
  o_q l (⟨"java/math/MutableBigInteger","getMagnitudeArray","()[I"⟩:MethodName) (Jvm.Cond.code (⟨"java/math/MutableBigInteger","getMagnitudeArray","()[I"⟩:MethodName) jdk_2101_method_7_code 2 (some (.array .int))::ws) ({frames:=3,cells:=1,slots:=9,locals:=80}:Room) #[(.ref mb)] Z h0 (o_gh Z mb ra f l2 i0 h0 n0):=by
 refine o_u (plainFor_of_name o_ag) (fun m=>o_l_ m mb) fun p e s m Q ah c s₁ hx ai R aj (ak:s.vm.findClass "java/math/MutableBigInteger"=some m.cls) hnm hret X0 hZ e0=> ?_
 have a:=o_t hx ai o_ku ak hZ aj hw
 have N0:=Fr.nil n0
 have KP:Keep h0 h0 [mb,ra]:=Keep.refl _ _
 have J: ∀(H:State) (o:Heap) (S:List Loc),Stand p l e ({frames:=3,cells:=1,slots:=9,locals:=80}:Room) s m #[(.ref mb)] Q ah c H S 0 0→H.heap=o→Fr n0 S→Old Z n0 o→Keep h0 o [mb,ra]→Exa Z o mb "java/math/MutableBigInteger"→Fld Z o mb "java/math/MutableBigInteger" "offset" "I" (.int oo)→Fld Z o mb "java/math/MutableBigInteger" "value" "[I" (.ref ra)→Fld Z o mb "java/math/MutableBigInteger" "intLen" "I" (.int l2)→o_x Z o ra kr zz f→Exa Z o ra "[I"→(oo=0→ ¬(oo+l2)=zz)→o_f p e Q (o_V s (o_gh Z mb ra f l2 i0 h0 n0) ({frames:=3,cells:=1,slots:=9,locals:=80}:Room).cells ({frames:=3,cells:=1,slots:=9,locals:=80}:Room).slots) H (mkF m 19 #[rv mb,.unset] []):=by
  intro aY al aZ T am ao u KP g j b h n C hro
  refine o_c 20 9 T a ?_
  refine o_h 23 10 111 T a am b fun a5 U aq=> ?_
  refine o_c 24 11 U a ?_
  refine o_h 27 12 109 U a aq j fun a6 V au=> ?_
  refine o_c 28 13 V a ?_
  refine o_h 31 14 109 V a au j fun a7 W av=> ?_
  refine o_c 32 15 W a ?_
  refine o_h 35 16 113 W a av h fun a8 X aw=> ?_
  refine o_v 36 17 X a ?_
  have ax:=KP
  have ay:=g.lt
  have aA:=n.lt
  refine o_F 39 3 0 1 9 18 137 55 56 57 X a (o_n6 l Z a0 hw [] ra f oo (oo+l2) i0 n1 al n0 (Nat.le_trans Z0 KP.1) u kr zz n hoo (o_aE hoo hl2 (by omega)) (by omega) (by omega) hro) o_bf aw fun _ aB a9 I aC=> ?_
  obtain ⟨bb,aD,rfl,aE,v,aF,K,k,r⟩:=aC
  have aG:=Fr.app ao aE
  have u:=u.keep v all0
  have KP:=KP.trans v all0
  have g:=g.keep v
  have j:=j.keep v nin0
  have b:=b.keep v nin0
  have h:=h.keep v nin0
  have n:=n.keep v nin0
  refine o_k [_] ?_
  have aH:h0.size≤bb:=Nat.le_trans ax.1 K
  have L:mb≠bb:=Nat.ne_of_lt (Nat.lt_of_lt_of_le ay K)
  have aI:ra≠bb:=Nat.ne_of_lt (Nat.lt_of_lt_of_le aA K)
  rw[o_hV] at k
  refine o_bt 40 19 #[_,_] I a ?_
  refine o_c 41 20 I a ?_
  refine o_h 44 21 111 I a rfl b fun a_ Y aJ=> ?_
  refine o_g 45 22 0 Y a ?_
  refine o_F 48 2 0 1 9 23 243 244 56 245 Y a (o_n4 l Z a0 hw [] ra kr zz aB.heap n0 (Nat.le_trans Z0 KP.1) u f nz P n hzz h9) o_aw aJ fun _ a' bd M aK=> ?_
  obtain ⟨rfl,aL,w,-⟩:=aK
  have aM:=Fr.app aG aL
  have KP:=KP.trans w (allS (Or.inl (List.mem_of_getElem? (i:=1) rfl)) all0)
  have g:=g.keep w
  have j:=j.keep w (ninS G nin0)
  have b:=b.keep w (ninS G nin0)
  have h:=h.keep w (ninS G nin0)
  have k:=k.keep w (ninS (Ne.symm aI) nin0)
  have r:=r.keep w
  refine o_k [] ?_
  refine o_c 49 24 M a ?_
  refine o_g 50 25 0 M a ?_
  refine o_R 53 26 109 102 M a rfl j g (Or.inl (o_b hw 110 rfl)) (ty:= .int) fun be bf y ad x=> ?_
  have aN:=Fr.snoc y aM F
  have KP:=KP.wr x (Or.inl (List.mem_of_getElem? (i:=0) rfl))
  have g:=g.wr x
  have b:=b.other x (Or.inr (slot_ne (Or.inl (o_b hw 112 rfl)) (Or.inl (o_b hw 110 rfl)) (by decide) (t:=(.array .int)) (t':= .int) (by decide) (by decide)))
  have h:=h.other x (Or.inr (slot_ne (Or.inl (o_b hw 114 rfl)) (Or.inl (o_b hw 110 rfl)) (by decide) (t:= .int) (t':= .int) (by decide) (by decide)))
  have k:=k.other x (Ne.symm L)
  have r:=r.wr x
  refine o_c 54 27 y a ?_
  refine o_c 55 28 y a ?_
  refine o_C 56 29 y a ad k ?_
  refine o_R 59 30 113 102 y a ad h g (Or.inl (o_b hw 114 rfl)) (ty:= .int) fun bg bh D aO z=> ?_
  have aP:=Fr.snoc D aN F
  have KP:=KP.wr z (Or.inl (List.mem_of_getElem? (i:=0) rfl))
  have g:=g.wr z
  have b:=b.other z (Or.inr (slot_ne (Or.inl (o_b hw 112 rfl)) (Or.inl (o_b hw 114 rfl)) (by decide) (t:=(.array .int)) (t':= .int) (by decide) (by decide)))
  have k:=k.other z (Ne.symm L)
  have r:=r.wr z
  refine o_c 60 31 D a ?_
  refine o_c 61 32 D a ?_
  refine o_R 64 33 111 102 D a aO b g (Or.inl (o_b hw 112 rfl)) (ty:=(.array .int)) fun bj aQ N aR E=> ?_
  have aS:=Fr.snoc N aP F
  have aT:Fld Z aQ mb "java/math/MutableBigInteger" "value" "[I" (.ref bb):=b.same E
  have KP:=KP.wr E (Or.inl (List.mem_of_getElem? (i:=0) rfl))
  have k:=k.other E (Ne.symm L)
  have r:=r.wr E
  have b:=aT
  refine o_c 65 34 N a ?_
  refine o_h 68 35 111 N a aR b fun bk aU aV=> ?_
  exact o_K 36 aU a hret R (by rw[aV];exact ⟨bb,aD,rfl,aS,KP,Or.inr aH,aF,k,r⟩)
 refine o_c 1 0 X0 a ?_
 refine o_h 4 1 109 X0 a e0 j fun bl A ae=> ?_
 by_cases hgt:(0:Int32)<oo
 ·refine o_p 19 2 A a rfl ((if0 _ _).trans (tlt hgt).2.2.1) ?_
  exact J _ _ _ A ae N0 u KP g j b h n C (fun q=>absurd q (o_hX hoo hgt))
 ·refine o_r 7 2 A a rfl ((if0 _ _).trans (flt hgt).2.2.1) ?_
  have hi0:=o_hW hoo hgt
  refine o_c 8 3 A a ?_
  refine o_h 11 4 111 A a ae b fun bm O af=> ?_
  refine o_C 12 5 O a af n ?_
  refine o_c 13 6 O a ?_
  refine o_h 16 7 113 O a af h fun bn B ag=> ?_
  by_cases heq:zz=l2
  ·refine o_z 64 8 B a rfl (teq heq).1 ?_
   refine o_c 65 34 B a ?_
   refine o_h 68 35 111 B a ag b fun bo aW aX=> ?_
   subst heq
   exact o_K 36 aW a hret R (by rw[aX];exact ⟨ra,kr,rfl,N0,KP,Or.inl rfl,P,n.fe (fun i _=>by rw[hi0];exact congrArg f (Nat.zero_add i).symm),C⟩)
  ·refine o_E 19 8 B a rfl (feq heq).1 ?_
   exact J _ _ _ B ag N0 u KP g j b h n C (o_hZ heq)
def o_n8 (Z:State)(mb ra:Addr)(f:Nat→Int32)(l2:Int32)(i0:Nat)(h0:Heap)(n0:Nat)(v:Option Value)(h:Heap)(L:List Loc):Prop:= ∃(x b:Addr) (kb:ClassId),v=some (.ref x)∧Fr n0 L∧Keep h0 h [mb,ra]∧h0.size≤x∧(b=ra∨h0.size≤b)∧n0≤b∧Exa Z h x "java/math/BigInteger"∧Fld Z h x "java/math/BigInteger" "signum" "I" (.int (1:Int32))∧Fld Z h x "java/math/BigInteger" "mag" "[I" (.ref b)∧o_x Z h b kb l2 (fun i=>f (i0+i))∧Exa Z h b "[I"
theorem o_gi (l:Launch)(Z:State)(a0:Array Value)(hw: ∀d∈tables_1,d.before a0 Z=true)(ws:List Jvm.Cond)(mb ra:Addr)(f:Nat→Int32)(l2:Int32)(i0:Nat)(h0:Heap)(n0:Nat)(Z0:n0≤h0.size)(k:Old Z n0 h0)(kr:ClassId)(oo zz:Int32)(n1 nz:Nat)(L:n0≤mb)(M:n0≤ra)(W:mb≠ra)(n:Exa Z h0 mb "java/math/MutableBigInteger")(y:Fld Z h0 mb "java/math/MutableBigInteger" "offset" "I" (.int oo))(A:Fld Z h0 mb "java/math/MutableBigInteger" "value" "[I" (.ref ra))(r:Fld Z h0 mb "java/math/MutableBigInteger" "intLen" "I" (.int l2))(o:o_x Z h0 ra kr zz f)(B:Exa Z h0 ra "[I")(hoo:oo.toInt=i0)(hl2:l2.toInt=n1)(h1:1≤n1)(hzz:zz.toInt=nz)(hle:i0+n1≤nz)(h9:nz≤9):
  o_q l (⟨"java/math/MutableBigInteger","toBigInteger","(I)Ljava/math/BigInteger;"⟩:MethodName) (Jvm.Cond.code (⟨"java/math/MutableBigInteger","toBigInteger","(I)Ljava/math/BigInteger;"⟩:MethodName) jdk_2101_method_9_code 2 (some (.object "java/math/BigInteger"))::ws) ({frames:=4,cells:=2,slots:=15,locals:=100}:Room) #[(.ref mb),(.int (1:Int32))] Z h0 (o_n8 Z mb ra f l2 i0 h0 n0):=by
 refine o_u (plainFor_of_name o_ag) (fun m=>o_l' m mb (1:Int32)) fun p e s m aA aB c s₁ hx N X Y (O:s.vm.findClass "java/math/MutableBigInteger"=some m.cls) hnm hret X0 hZ e0=> ?_
 have D:=o_S N o_c4
 have a:=o_t hx N o_c4 O hZ Y hw
 have N0:=Fr.nil n0
 have KP:Keep h0 h0 [mb,ra]:=Keep.refl _ _
 refine o_c 1 0 X0 a ?_
 refine o_h 4 1 113 X0 a e0 r fun aC t ad=> ?_
 refine o_r 7 2 t a rfl ((if0 _ _).trans (feq (o_bJ hl2 (by omega))).1) ?_
 refine o_e 8 3 t a ?_
 refine o_p 15 4 t a rfl ((if0 _ _).trans (feq (by decide: ¬((1:Int32)=(0:Int32)))).2) ?_
 obtain ⟨aD,u,C,ae,h,P,E,-,Q⟩:=newO t hx hZ O (o_b hw 153 rfl) (o_b hw 72 rfl) (o_b hw 24 rfl) ad (g:=(mkF m 15 #[rv mb,iv 1] [])) rfl (D 7 rfl) (by decide) (by decide)
 obtain ⟨b,v⟩: ∃z,z=h0.size:=⟨_,rfl⟩
 rw[←v] at P E Q
 have F:h0.size≤b:=Nat.le_trans KP.1 (Nat.le_of_eq v.symm)
 have af:n0≤b:=Nat.le_trans Z0 F
 have R:mb≠b:=Nat.ne_of_lt (Nat.lt_of_lt_of_le n.lt (Nat.le_of_eq v.symm))
 have G:ra≠b:=Nat.ne_of_lt (Nat.lt_of_lt_of_le o.lt (Nat.le_of_eq v.symm))
 have k:=k.ext h
 have KP:=KP.ext h
 have n:=n.ext h
 have y:=y.ext h
 have A:=A.ext h
 have r:=r.ext h
 have o:=o.ext h
 have B:=B.ext h
 have w:Exa Z u b "java/math/BigInteger":=P
 have H:Fld Z u b "java/math/BigInteger" "signum" "I" (.int (0:Int32)):=E (Or.inr (o_b hw 39 rfl)) (ty:= .int) (by decide)
 have I:Fld Z u b "java/math/BigInteger" "mag" "[I" .null:=E (Or.inr (o_b hw 41 rfl)) (ty:=(.array .int)) (by decide)
 refine o_i (mkF m 18 #[rv mb,iv 1] [(.ref b)]) Q ?_
 refine o_ab 19 8 C a ?_
 refine o_c 20 9 C a ?_
 have ag:=KP
 have aE:=n.lt
 have aF:=o.lt
 have ah:=w.lt
 refine o_aD 23 0 2 2 15 10 154 155 157 156 103 158 C a (o_n7 l Z a0 hw [] mb ra f l2 i0 u n0 (Nat.le_trans Z0 KP.1) k kr oo zz n1 nz L M W n y A r o B hoo hl2 h1 hzz hle h9) o_kW ae n fun _ ai aG S aj=> ?_
 obtain ⟨bb,T,rfl,ak,q,U,al,x,J⟩:=aj
 have am:=Fr.app N0 ak
 have k:=k.keep q (allS L (allS M all0))
 have KP:=KP.trans q (allS (Or.inl (List.mem_of_getElem? (i:=0) rfl)) (allS (Or.inl (List.mem_of_getElem? (i:=1) rfl)) all0))
 have w:=w.keep q
 have H:=H.keep q (ninS (Ne.symm R) (ninS (Ne.symm G) nin0))
 have I:=I.keep q (ninS (Ne.symm R) (ninS (Ne.symm G) nin0))
 refine o_k [_,_,_] ?_
 have V:=o_bR U G ah
 refine o_e 24 11 S a ?_
 refine o_7 27 2 1 2 15 12 159 74 24 76 S a (o_aG l Z a0 hw [] b bb ai.heap n0 (Nat.le_trans Z0 KP.1) k af w H I T l2 _ V x (o_bJ hl2 (by omega)) (o_aA (j:=67108864) hl2 rfl (by omega))) o_aw rfl rfl fun _ aH aI ao aq=> ?_
 obtain ⟨rfl,au,K,av,aw,ax⟩:=aq
 have ay:=Fr.app am au
 have KP:=KP.trans K (allS (Or.inr F) all0)
 have x:=x.keep K (ninS V nin0)
 have J:=J.keep K
 refine o_k [_] ?_
 exact o_K 13 ao a hret X (by exact ⟨b,bb,T,rfl,ay,KP,F,U.imp id (Nat.le_trans ag.1),al,av,aw,ax,x,J⟩)
def o_n9 (Z:State)(mb zx:Addr)(h0:Heap)(n0:Nat)(v:Option Value)(h:Heap)(L:List Loc):Prop:=v=some (.ref zx)∧Fr n0 L∧h=h0
def o_bm (Z:State)(qx a:Addr)(A D:Int)(h0:Heap)(n0:Nat)(v:Option Value)(h:Heap)(L:List Loc):Prop:= ∃(rm ra qa:Addr) (kr kq:ClassId) (oo lr zr b c d:Int32) (F G:Nat→Int32) (nr nz nq:Nat),v=some (.ref rm)∧Fr n0 L∧Keep h0 h [qx,a]∧h0.size≤rm∧h0.size≤ra∧rm≠ra∧(qa=a∨h0.size≤qa)∧qa≠rm∧qa≠ra∧qx≠qa∧Exa Z h rm "java/math/MutableBigInteger"∧Fld Z h rm "java/math/MutableBigInteger" "offset" "I" (.int oo)∧Fld Z h rm "java/math/MutableBigInteger" "value" "[I" (.ref ra)∧Fld Z h rm "java/math/MutableBigInteger" "intLen" "I" (.int lr)∧o_x Z h ra kr zr F∧Exa Z h ra "[I"∧Exa Z h qx "java/math/MutableBigInteger"∧Fld Z h qx "java/math/MutableBigInteger" "offset" "I" (.int b)∧Fld Z h qx "java/math/MutableBigInteger" "value" "[I" (.ref qa)∧Fld Z h qx "java/math/MutableBigInteger" "intLen" "I" (.int c)∧o_x Z h qa kq d G∧Exa Z h qa "[I"∧zr.toInt=(nz:Int)∧nr≤nz∧nz≤9∧o_a4 oo lr nr F∧d.toInt=(nq:Int)∧nq≤8∧o_a4 b c nq G∧o_n G nq=A/D∧(lr=0↔A%D=0)
theorem o_n_ (l:Launch)(Z:State)(a0:Array Value)(hw: ∀d∈tables_1,d.before a0 Z=true)(ws:List Jvm.Cond)(mb dv qx H:Addr)(fa ft:Nat→Int32)(n:Nat)(h0:Heap)(n0:Nat)(Z0:n0≤h0.size)(f:Old Z n0 h0)(cn:Int32)(aa dz:Addr)(ka kz kq:ClassId)(bm:n0≤qx)(ev:n0≤H)(ew:qx≠H)(w:Exa Z h0 mb "java/math/MutableBigInteger")(P:Fld Z h0 mb "java/math/MutableBigInteger" "offset" "I" (.int (0:Int32)))(Q:Fld Z h0 mb "java/math/MutableBigInteger" "value" "[I" (.ref aa))(I:Fld Z h0 mb "java/math/MutableBigInteger" "intLen" "I" (.int cn))(K:o_x Z h0 aa ka cn fa)(ex:Exa Z h0 dv "java/math/MutableBigInteger")(cj:Fld Z h0 dv "java/math/MutableBigInteger" "offset" "I" (.int (0:Int32)))(ck:Fld Z h0 dv "java/math/MutableBigInteger" "value" "[I" (.ref dz))(ey:Fld Z h0 dv "java/math/MutableBigInteger" "intLen" "I" (.int (2:Int32)))(bU:o_x Z h0 dz kz (2:Int32) ft)(b:Exa Z h0 qx "java/math/MutableBigInteger")(u:Fld Z h0 qx "java/math/MutableBigInteger" "offset" "I" (.int (0:Int32)))(h:Fld Z h0 qx "java/math/MutableBigInteger" "value" "[I" (.ref H))(v:Fld Z h0 qx "java/math/MutableBigInteger" "intLen" "I" (.int (0:Int32)))(E:o_x Z h0 H kq (1:Int32) (fun _=>0))(L:Exa Z h0 H "[I")(hcn:cn.toInt=n)(ez:2≤n)(hn4:n≤4)(ha0:0<o_a (fa 0))(ht0:0<o_a (ft 0))(ht1:o_a (ft 0)<2147483648)(hle:o_n fa n≤4503599627370496*o_n ft 2):
  o_q l (⟨"java/math/MutableBigInteger","divideMagnitude","(Ljava/math/MutableBigInteger;Ljava/math/MutableBigInteger;Z)Ljava/math/MutableBigInteger;"⟩:MethodName) (Jvm.Cond.code (⟨"java/math/MutableBigInteger","divideMagnitude","(Ljava/math/MutableBigInteger;Ljava/math/MutableBigInteger;Z)Ljava/math/MutableBigInteger;"⟩:MethodName) jdk_2101_method_65_code 28 (some (.object "java/math/MutableBigInteger"))::ws) ({frames:=3,cells:=4,slots:=24,locals:=60}:Room) #[(.ref mb),(.ref dv),(.ref qx),(.int (1:Int32))] Z h0 (o_bm Z qx H (o_n fa n) (o_n ft 2) h0 n0):=by
 refine o_u (plainFor_of_name o_ag) (fun m=>o_ma m mb dv qx (1:Int32)) fun p e s m aM a8 c s₁ hx bn eA bA (bg:s.vm.findClass "java/math/MutableBigInteger"=some m.cls) hnm hret X0 hZ e0=> ?_
 have D:=o_S bn o_bV
 have a:=o_t hx bn o_bV bg hZ bA hw
 have N0:=Fr.nil n0
 have KP:Keep h0 h0 [qx,H]:=Keep.refl _ _
 have hD0:0<o_n ft 2:=o_ig ht0
 refine o_c 1 0 X0 a ?_
 refine o_h 4 1 111 X0 a e0 ck fun hI de eB=> ?_
 refine o_c 5 2 de a ?_
 refine o_h 8 3 109 de a eB cj fun hJ df dg=> ?_
 refine o_ai 9 0 df hx hZ dg bU rfl (by decide) (D 4 rfl) rfl ?_
 refine o_F 12 1 0 0 0 5 215 216 47 217 df a (o_di l Z a0 hw [] (ft 0) h0 n0 (Nat.le_trans Z0 KP.1) f) o_aN dg fun _ hK hL cI eC=> ?_
 obtain ⟨sh,rfl,eD,eE,hns⟩:=eC
 have eF:=Fr.app N0 eD
 refine o_k [_] ?_
 obtain ⟨ks,hs,h1k,hk,hp1,hp2⟩:=o_h0 hns ht0 ht1
 refine o_o 14 6 #[_,_,_,_,_,_,_,_,_,_,_,_,_,_,_,_,_,_,_,_,_,_,_,_,_,_,_,_] cI a ?_
 refine o_c 15 7 cI a ?_
 refine o_h 18 8 113 cI a eE ey fun hM bV eG=> ?_
 refine o_o 20 9 #[_,_,_,_,_,_,_,_,_,_,_,_,_,_,_,_,_,_,_,_,_,_,_,_,_,_,_,_] bV a ?_
 refine o_d 22 10 bV a ?_
 refine o_r 25 11 bV a rfl ((if0 _ _).trans (tlt (o_aA (i:=0) rfl hs h1k)).2.2.2) ?_
 refine o_d 27 12 bV a ?_
 obtain ⟨hN,di,aH,cJ,eH,av,dj,eI,dk⟩:=newPE bV hx hZ (o_b hw 52 rfl) eG (g:=(mkF m 27 #[rv mb,rv dv,rv qx,iv 1,iv sh,iv 2,.unset,.unset,.unset,.unset,.unset,.unset,.unset,.unset,.unset,.unset,.unset,.unset,.unset,.unset,.unset,.unset,.unset,.unset,.unset,.unset,.unset,.unset] [(.int (2:Int32))])) rfl (D 13 rfl) rfl (by decide) (cap:=2) (by decide) (by decide) (by decide) (by decide) (ad:="[I") (by decide)
 obtain ⟨B,bo⟩: ∃z,z=h0.size:=⟨_,rfl⟩
 rw[←bo] at dj eI dk
 have dm:h0.size≤B:=Nat.le_trans KP.1 (Nat.le_of_eq bo.symm)
 have dn:n0≤B:=Nat.le_trans Z0 dm
 have cK:mb≠B:=Nat.ne_of_lt (Nat.lt_of_lt_of_le w.lt (Nat.le_of_eq bo.symm))
 have eJ:aa≠B:=Nat.ne_of_lt (Nat.lt_of_lt_of_le K.lt (Nat.le_of_eq bo.symm))
 have hO:dv≠B:=Nat.ne_of_lt (Nat.lt_of_lt_of_le ex.lt (Nat.le_of_eq bo.symm))
 have eK:dz≠B:=Nat.ne_of_lt (Nat.lt_of_lt_of_le bU.lt (Nat.le_of_eq bo.symm))
 have bL:qx≠B:=Nat.ne_of_lt (Nat.lt_of_lt_of_le b.lt (Nat.le_of_eq bo.symm))
 have dp:H≠B:=Nat.ne_of_lt (Nat.lt_of_lt_of_le E.lt (Nat.le_of_eq bo.symm))
 have f:=f.ext av
 have KP:=KP.ext av
 have w:=w.ext av
 have P:=P.ext av
 have Q:=Q.ext av
 have I:=I.ext av
 have K:=K.ext av
 have cj:=cj.ext av
 have ck:=ck.ext av
 have bU:=bU.ext av
 have b:=b.ext av
 have u:=u.ext av
 have h:=h.ext av
 have v:=v.ext av
 have E:=E.ext av
 have L:=L.ext av
 have y:o_x Z di B aH (2:Int32) (fun _=>0):=o_bQ (Arv.new dj (by decide))
 refine o_i (mkF m 29 #[rv mb,rv dv,rv qx,iv 1,iv sh,iv 2,.unset,.unset,.unset,.unset,.unset,.unset,.unset,.unset,.unset,.unset,.unset,.unset,.unset,.unset,.unset,.unset,.unset,.unset,.unset,.unset,.unset,.unset] [(.ref B)]) dk ?_
 refine o_1 31 14 #[_,_,_,_,_,_,_,_,_,_,_,_,_,_,_,_,_,_,_,_,_,_,_,_,_,_,_,_] cJ a ?_
 refine o_c 32 15 cJ a ?_
 refine o_h 35 16 111 cJ a eH ck fun hP dq eL=> ?_
 refine o_c 36 17 dq a ?_
 refine o_h 39 18 109 dq a eL cj fun hQ bW eM=> ?_
 refine o_d 41 19 bW a ?_
 refine o_l 43 20 bW a ?_
 refine o_g 44 21 0 bW a ?_
 refine o_d 46 22 bW a ?_
 refine o_F 49 6 0 1 2 23 266 267 103 268 bW a (o_gf l Z a0 hw [] dz B aH (2:Int32) (2:Int32) (0:Int32) sh ft (fun _=>0) 0 2 di n0 (Nat.le_trans Z0 KP.1) f kz (2:Int32) dn eK bU y rfl rfl (by omega) (by omega) (by omega) (by decide) (by decide)) o_fX eM fun _ cL hS dr eN=> ?_
 obtain ⟨rfl,eO,aS,eP⟩:=eN
 have eQ:=Fr.app eF eO
 have f:=f.keep aS (allS dn all0)
 have KP:=KP.trans aS (allS (Or.inr dm) all0)
 have w:=w.keep aS
 have P:=P.keep aS (ninS cK nin0)
 have Q:=Q.keep aS (ninS cK nin0)
 have I:=I.keep aS (ninS cK nin0)
 have K:=K.keep aS (ninS eJ nin0)
 have b:=b.keep aS
 have u:=u.keep aS (ninS bL nin0)
 have h:=h.keep aS (ninS bL nin0)
 have v:=v.keep aS (ninS bL nin0)
 have E:=E.keep aS (ninS dp nin0)
 have L:=L.keep aS
 refine o_k [] ?_
 obtain ⟨X,du⟩: ∃z,z=o_ad sh ft 0:=⟨_,rfl⟩
 obtain ⟨dl,dw⟩: ∃z,z=ft 1<<<(sh&&&31):=⟨_,rfl⟩
 have y:=o_h_ eP du dw
 have SD:=o_h6 hs h1k hk hp2 hp1
 rw[←du,←dw] at SD
 refine o_c 50 24 dr a ?_
 refine o_h 53 25 111 dr a rfl Q fun hT dx eR=> ?_
 refine o_c 54 26 dx a ?_
 refine o_h 57 27 109 dx a eR P fun hU dy dA=> ?_
 refine o_ai 58 0 dy hx hZ dA K rfl (by omega) (D 28 rfl) rfl ?_
 refine o_F 61 1 0 1 2 29 215 216 47 217 dy a (o_di l Z a0 hw [] (fa 0) cL.heap n0 (Nat.le_trans Z0 KP.1) f) o_aN dA fun _ hV hW bB eS=> ?_
 obtain ⟨s2,rfl,eT,dB,hn2⟩:=eS
 have dC:=Fr.app eQ eT
 refine o_k [_] ?_
 have J: ∀(T_:State) (A:Heap) (L_:List Loc) (rm ra:Addr) (kr:ClassId) (nl zr:Int32) (Fa:Nat→Int32) (N:Nat) (g9 g10 g11 g12 g13:Slot),Stand p l e ({frames:=3,cells:=4,slots:=24,locals:=60}:Room) s m #[(.ref mb),(.ref dv),(.ref qx),(.int (1:Int32))] aM a8 c T_ L_ 3 11→T_.heap=A→Fr n0 L_→Old Z n0 A→Keep h0 A [qx,H]→Exa Z A mb "java/math/MutableBigInteger"→Exa Z A qx "java/math/MutableBigInteger"→Fld Z A qx "java/math/MutableBigInteger" "offset" "I" (.int (0:Int32))→Fld Z A qx "java/math/MutableBigInteger" "value" "[I" (.ref H)→Fld Z A qx "java/math/MutableBigInteger" "intLen" "I" (.int (0:Int32))→o_x Z A H kq (1:Int32) (fun _=>0)→Exa Z A H "[I"→Arv Z A B aH .int (2:Int32) [(.int X),(.int dl)] (.int (0:Int32))→Exa Z A rm "java/math/MutableBigInteger"→Fld Z A rm "java/math/MutableBigInteger" "offset" "I" (.int (1:Int32))→Fld Z A rm "java/math/MutableBigInteger" "value" "[I" (.ref ra)→Fld Z A rm "java/math/MutableBigInteger" "intLen" "I" (.int nl)→Exa Z A ra "[I"→o_x Z A ra kr zr (o_a5 sh Fa N)→h0.size≤rm→h0.size≤ra→rm≠ra→B≠ra→qx≠ra→H≠ra→qx≠rm→B≠rm→H≠rm→nl.toInt=(N:Int)→zr.toInt=((N+1:Nat):Int)→2≤N→N≤4→o_n Fa N=o_n fa n→o_a (Fa 0)*2^ks<4294967296→o_9 g9→o_9 g10→o_9 g11→o_9 g12→o_9 g13→o_f p e aM (o_V s (o_bm Z qx H (o_n fa n) (o_n ft 2) h0 n0) ({frames:=3,cells:=4,slots:=24,locals:=60}:Room).cells ({frames:=3,cells:=4,slots:=24,locals:=60}:Room).slots) T_ (mkF m 323 #[rv mb,rv dv,rv qx,iv 1,iv sh,iv 2,rv B,rv rm,rv ra,g9,g10,g11,g12,g13,.unset,.unset,.unset,.unset,.unset,.unset,.unset,.unset,.unset,.unset,.unset,.unset,.unset,.unset] []):=by
  intro hX eU hY rm ra kr nl zr Fa N g9 g10 g11 g12 g13 dD eV dE f KP w b u h v E L y M S T R U V bC bX a9 dF aZ eW W cM dG hnl hzr eX hN4 hval cN c9 c10 c11 c12 c13
  have bh:=Nat.le_trans Z0 bC
  have bY:=Nat.le_trans Z0 bX
  refine o_l 325 165 dD a ?_
  refine o_h 328 166 113 dD a eV R fun h1 bj eY=> ?_
  refine o_o 330 167 #[_,_,_,_,_,_,_,_,_,_,_,_,_,_,_,_,_,_,_,_,_,_,_,_,_,_,_,_] bj a ?_
  refine o_d 332 168 bj a ?_
  refine o_d 334 169 bj a ?_
  refine o_J 335 170 bj a ?_
  refine o_g 336 171 1 bj a ?_
  refine o_v 337 172 bj a ?_
  generalize eZ:((nl-(2:Int32))+(1:Int32))=lim
  have hlim:lim.toInt=((N-1:Nat):Int):=eZ▸(o_aE (o_aV (j:=2) hnl rfl eX) (j:=1) rfl (by omega)).trans (by omega)
  refine o_az 339 9 #[rv mb,rv dv,rv qx,iv 1,iv sh,iv 2,rv B,rv rm,iv nl,iv lim,g10,g11,g12,g13,.unset,.unset,.unset,.unset,.unset,.unset,.unset,.unset,.unset,.unset,.unset,.unset,.unset,.unset] bj hx (D 173 rfl) rfl c9 rfl rfl ?_
  refine o_c 340 174 bj a ?_
  refine o_h 343 175 111 bj a eY h fun h2 bq cO=> ?_
  refine o_C 344 176 bq a cO E ?_
  refine o_d 346 177 bq a ?_
  have JK: ∀(T_:State) (A:Heap) (L_:List Loc) (qa:Addr) (kq:ClassId) (zq:Int32) (bD bE:Nat),Stand p l e ({frames:=3,cells:=4,slots:=24,locals:=60}:Room) s m #[(.ref mb),(.ref dv),(.ref qx),(.int (1:Int32))] aM a8 c T_ L_ bD bE→T_.heap=A→Fr n0 L_→Old Z n0 A→Keep h0 A [qx,H]→Exa Z A mb "java/math/MutableBigInteger"→Exa Z A qx "java/math/MutableBigInteger"→Fld Z A qx "java/math/MutableBigInteger" "offset" "I" (.int (0:Int32))→Fld Z A qx "java/math/MutableBigInteger" "value" "[I" (.ref qa)→Fld Z A qx "java/math/MutableBigInteger" "intLen" "I" (.int (0:Int32))→Arv Z A B aH .int (2:Int32) [(.int X),(.int dl)] (.int (0:Int32))→Exa Z A rm "java/math/MutableBigInteger"→Fld Z A rm "java/math/MutableBigInteger" "offset" "I" (.int (1:Int32))→Fld Z A rm "java/math/MutableBigInteger" "value" "[I" (.ref ra)→Fld Z A rm "java/math/MutableBigInteger" "intLen" "I" (.int nl)→Exa Z A ra "[I"→o_x Z A ra kr zr (o_a5 sh Fa N)→o_x Z A qa kq zq (fun _=>0)→Exa Z A qa "[I"→bD≤4→bE≤24→n0≤qa→(qa=H∨h0.size≤qa)→qa≠ra→rm≠qa→B≠qa→qx≠qa→qa≠rm→zq.toInt=((N-1:Nat):Int)→o_f p e aM (o_V s (o_bm Z qx H (o_n fa n) (o_n ft 2) h0 n0) ({frames:=3,cells:=4,slots:=24,locals:=60}:Room).cells ({frames:=3,cells:=4,slots:=24,locals:=60}:Room).slots) T_ (mkF m 362 #[rv mb,rv dv,rv qx,iv 1,iv sh,iv 2,rv B,rv rm,iv nl,iv lim,g10,g11,g12,g13,.unset,.unset,.unset,.unset,.unset,.unset,.unset,.unset,.unset,.unset,.unset,.unset,.unset,.unset] []):=by
   intro h3 h4 h5 qa kq zq bD bE cP e2 e3 f KP w b u h v y M S T R U V ae ak hkc hks e4 dI cl e5 e6 bZ bM e7
   have e8:qa∈ [qx,H]∨h0.size≤qa:=o_ii dI
   refine o_c 363 186 cP a ?_
   refine o_d 365 187 cP a ?_
   refine o_R 368 188 113 102 cP a e2 v b (Or.inl (o_b hw 114 rfl)) (ty:= .int) fun h6 e9 cQ fb aw=> ?_
   have fc:=Fr.snoc cQ e3 bm
   have fe:Fld Z e9 qx "java/math/MutableBigInteger" "intLen" "I" (.int lim):=v.same aw
   have f:=f.wr aw bm
   have KP:=KP.wr aw (Or.inl (List.mem_of_getElem? (i:=0) rfl))
   have w:=w.wr aw
   have b:=b.wr aw
   have u:=u.other aw (Or.inr (slot_ne (Or.inl (o_b hw 110 rfl)) (Or.inl (o_b hw 114 rfl)) (by decide) (t:= .int) (t':= .int) (by decide) (by decide)))
   have h:=h.other aw (Or.inr (slot_ne (Or.inl (o_b hw 112 rfl)) (Or.inl (o_b hw 114 rfl)) (by decide) (t:=(.array .int)) (t':= .int) (by decide) (by decide)))
   have y:=y.other aw (Ne.symm bL)
   have M:=M.wr aw
   have S:=S.other aw (Or.inl (Ne.symm W))
   have T:=T.other aw (Or.inl (Ne.symm W))
   have R:=R.other aw (Or.inl (Ne.symm W))
   have U:=U.wr aw
   have V:=V.other aw (Ne.symm aZ)
   have ae:=ae.other aw (Ne.symm bZ)
   have ak:=ak.wr aw
   have v:=fe
   refine o_c 369 189 cQ a ?_
   refine o_h 372 190 111 cQ a fb h fun h7 cm ff=> ?_
   refine o_ie 374 10 #[rv mb,rv dv,rv qx,iv 1,iv sh,iv 2,rv B,rv rm,iv nl,iv lim,rv qa,g11,g12,g13,.unset,.unset,.unset,.unset,.unset,.unset,.unset,.unset,.unset,.unset,.unset,.unset,.unset,.unset] cm hx (D 191 rfl) rfl c10 rfl rfl ?_
   refine o_l 376 192 cm a ?_
   refine o_g 377 193 0 cm a ?_
   refine o_R 380 194 109 102 cm a ff S M (Or.inl (o_b hw 110 rfl)) (ty:= .int) fun h8 fg cR fh ax=> ?_
   have fi:=Fr.snoc cR fc bh
   have fj:Fld Z fg rm "java/math/MutableBigInteger" "offset" "I" (.int (0:Int32)):=S.same ax
   have f:=f.wr ax bh
   have KP:=KP.wr ax (Or.inr bC)
   have w:=w.wr ax
   have b:=b.wr ax
   have u:=u.other ax (Or.inl W)
   have h:=h.other ax (Or.inl W)
   have v:=v.other ax (Or.inl W)
   have y:=y.other ax cM
   have M:=M.wr ax
   have T:=T.other ax (Or.inr (slot_ne (Or.inl (o_b hw 112 rfl)) (Or.inl (o_b hw 110 rfl)) (by decide) (t:=(.array .int)) (t':= .int) (by decide) (by decide)))
   have R:=R.other ax (Or.inr (slot_ne (Or.inl (o_b hw 114 rfl)) (Or.inl (o_b hw 110 rfl)) (by decide) (t:= .int) (t':= .int) (by decide) (by decide)))
   have U:=U.wr ax
   have V:=V.other ax (Ne.symm a9)
   have ae:=ae.other ax bM
   have ak:=ak.wr ax
   have S:=fj
   refine o_l 382 195 cR a ?_
   refine o_h 385 196 111 cR a fh T fun h9 cS fk=> ?_
   refine o_g 386 197 0 cS a ?_
   refine o_g 387 198 0 cS a ?_
   refine o_as 388 0 cS hx hZ fk V rfl (by omega) (D 199 rfl) rfl fun ia ib co fl aJ fn=> ?_
   have fp:=Fr.snoc co fi bY
   have f:=f.wr aJ bY
   have KP:=KP.wr aJ (Or.inr bX)
   have w:=w.wr aJ
   have b:=b.wr aJ
   have u:=u.other aJ (Or.inl aZ)
   have h:=h.other aJ (Or.inl aZ)
   have v:=v.other aJ (Or.inl aZ)
   have y:=y.other aJ dF
   have M:=M.wr aJ
   have S:=S.other aJ (Or.inl a9)
   have T:=T.other aJ (Or.inl a9)
   have R:=R.other aJ (Or.inl a9)
   have U:=U.wr aJ
   have ae:=ae.other aJ cl
   have ak:=ak.wr aJ
   have V:=fn
   refine o_l 390 200 co a ?_
   refine o_ab 391 201 co a ?_
   refine o_h 394 202 113 co a fl R fun ic cT fu=> ?_
   refine o_g 395 203 1 cT a ?_
   refine o_v 396 204 cT a ?_
   generalize fv:(nl+(1:Int32))=ll
   have hll:ll.toInt=((N+1:Nat):Int):=fv▸o_aE hnl (j:=1) rfl (by omega)
   refine o_R 399 205 113 102 cT a fu R M (Or.inl (o_b hw 114 rfl)) (ty:= .int) fun ie cp O b0 ay=> ?_
   have cU:=Fr.snoc O fp bh
   have fw:Fld Z cp rm "java/math/MutableBigInteger" "intLen" "I" (.int ll):=R.same ay
   have f:=f.wr ay bh
   have KP:=KP.wr ay (Or.inr bC)
   have w:=w.wr ay
   have b:=b.wr ay
   have u:=u.other ay (Or.inl W)
   have h:=h.other ay (Or.inl W)
   have v:=v.other ay (Or.inl W)
   have y:=y.other ay cM
   have M:=M.wr ay
   have S:=S.other ay (Or.inr (slot_ne (Or.inl (o_b hw 110 rfl)) (Or.inl (o_b hw 114 rfl)) (by decide) (t:= .int) (t':= .int) (by decide) (by decide)))
   have T:=T.other ay (Or.inr (slot_ne (Or.inl (o_b hw 112 rfl)) (Or.inl (o_b hw 114 rfl)) (by decide) (t:=(.array .int)) (t':= .int) (by decide) (by decide)))
   have U:=U.wr ay
   have V:=V.other ay (Ne.symm a9)
   have ae:=ae.other ay bM
   have ak:=ak.wr ay
   have R:=fw
   refine o_l 401 206 O a ?_
   refine o_g 402 207 0 O a ?_
   refine o_Q 403 208 O a b0 y (x:=X) ?_
   refine o_az 405 11 #[rv mb,rv dv,rv qx,iv 1,iv sh,iv 2,rv B,rv rm,iv nl,iv lim,rv qa,iv X,g12,g13,.unset,.unset,.unset,.unset,.unset,.unset,.unset,.unset,.unset,.unset,.unset,.unset,.unset,.unset] O hx (D 209 rfl) rfl c11 rfl rfl ?_
   refine o_d 407 210 O a ?_
   refine o_D 408 211 O a ?_
   refine o_y 411 214 212 O a ?_
   refine o_A 412 213 O a ?_
   generalize fx:((X.toInt64)&&&(4294967295:Int64))=a_
   refine o_if 414 12 #[rv mb,rv dv,rv qx,iv 1,iv sh,iv 2,rv B,rv rm,iv nl,iv lim,rv qa,iv X,.val (.long a_),.second,.unset,.unset,.unset,.unset,.unset,.unset,.unset,.unset,.unset,.unset,.unset,.unset,.unset,.unset] O hx (D 214 rfl) rfl rfl c12 c13 rfl rfl ?_
   refine o_l 416 215 O a ?_
   refine o_g 417 216 1 O a ?_
   refine o_Q 418 217 O a b0 y (x:=dl) ?_
   refine o_o 420 218 #[_,_,_,_,_,_,_,_,_,_,_,_,_,_,_,_,_,_,_,_,_,_,_,_,_,_,_,_] O a ?_
   refine o_g 421 219 0 O a ?_
   refine o_o 423 220 #[_,_,_,_,_,_,_,_,_,_,_,_,_,_,_,_,_,_,_,_,_,_,_,_,_,_,_,_] O a ?_
   have hdl:a_.toInt=o_a X:=fx▸o_2 X
   have C:o_d3 h0 n0 qx H B rm ra qa X a_:=⟨bh,bY,bm,e4,bC,bX,e8,a9,dF,aZ,cl,e5,e6,bZ,W,cM,bM,SD.2,hdl⟩
   have hm1:(lim-(1:Int32)).toInt=((N-2:Nat):Int):=(o_aV (j:=1) hlim rfl (by omega)).trans (by omega)
   have TL: ∀(T':State) (h':Heap) (L':List Loc) (dJ w16 dK dL dM dN dO dP dQ dR dS dT dU:Slot) (F G:Nat→Int32) (k:Nat),Stand p l e ({frames:=3,cells:=4,slots:=24,locals:=60}:Room) s m #[.ref mb,.ref dv,.ref qx,.int 1] aM a8 c T' L' bD bE→T'.heap=h'→Fr n0 L'→o_bB Z h0 n0 mb qx H B rm ra qa aH kr kq lim ll X dl zr zq h' F G→k+2=N→(∀i,i≤k→F i=0)→o_n fa n*2^ks=o_n G (k+1)*(o_a X*4294967296+o_a dl)+(o_a (F (k+1))*4294967296+o_a (F (k+2)))→o_a (F (k+1))*4294967296+o_a (F (k+2))<o_a X*4294967296+o_a dl→o_f p e aM (o_V s (o_bm Z qx H (o_n fa n) (o_n ft 2) h0 n0) ({frames:=3,cells:=4,slots:=24,locals:=60}:Room).cells ({frames:=3,cells:=4,slots:=24,locals:=60}:Room).slots) T' (mkF m 1261 #[rv mb,rv dv,rv qx,iv 1,iv sh,iv 2,rv B,rv rm,iv nl,iv lim,rv qa,iv X,.val (.long a_),.second,iv dl,dJ,w16,dK,dL,dM,dN,dO,dP,dQ,dR,dS,dT,dU] []):=by
    intro T' h' L' dJ w16 dK dL dM dN dO dP dQ dR dS dT dU F G k X' e' N' S' hkN hz0 hA hR
    obtain ⟨f,KP,w,M,S,T,R,U,V,y,b,u,h,v,ak,ae⟩:=S'
    refine o_e 1262 676 X' a ?_
    refine o_r 1265 677 X' a rfl ((if0 _ _).trans (feq (by decide: ¬((1:Int32)=(0:Int32)))).1) ?_
    refine o_d 1267 678 X' a ?_
    refine o_r 1270 679 X' a rfl ((if0 _ _).trans (tlt (o_aA (i:=0) rfl hs h1k)).2.2.2) ?_
    refine o_l 1272 680 X' a ?_
    refine o_d 1274 681 X' a ?_
    refine o_aq 1277 1 0 bD bE 682 281 282 284 283 103 285 X' a (o_n3 l Z a0 hw [] rm ra kr ll zr sh F (k+3) h' n0 (Nat.le_trans Z0 KP.1) f ks bh bY a9 M S T R V (hll.trans (by omega)) (hzr.trans (by omega)) (by omega) (by omega) hs h1k hk (hz0 0 (by omega))) o_c' e' M (hc:=hkc) (hs:=hks) fun _ fy ig dV fz=> ?_
    obtain ⟨rfl,fA,a',-,S,T,R,V⟩:=fz
    have fB:=Fr.app N' fA
    have f:=f.keep a' (allS bh (allS bY all0))
    have KP:=KP.trans a' (allS (Or.inr bC) (allS (Or.inr bX) all0))
    have M:=M.keep a'
    have U:=U.keep a'
    have b:=b.keep a'
    have u:=u.keep a' (ninS W (ninS aZ nin0))
    have h:=h.keep a' (ninS W (ninS aZ nin0))
    have v:=v.keep a' (ninS W (ninS aZ nin0))
    have ak:=ak.keep a'
    have ae:=ae.keep a' (ninS bM (ninS cl nin0))
    refine o_k [] ?_
    refine o_l 1279 683 dV a ?_
    refine o_aq 1282 0 0 bD bE 684 219 220 222 221 103 223 dV a (o_d7 l Z a0 hw [] rm ra (o_T (o_aI ((32:Int32)-sh) F (k+3-1)) (k+3-1) (F (k+3-1)<<<(((32:Int32)-sh)&&&31))) (k+2) fy.heap n0 (Nat.le_trans Z0 KP.1) f kr (ll-(1:Int32)) zr bh (Ne.symm a9) M S T R V ((o_aV (j:=1) hll rfl (by omega)).trans (by omega)) (by omega) (by omega) (by omega)) o_be rfl M (hc:=hkc) (hs:=hks) fun _ fC ih dW fD=> ?_
    obtain ⟨rfl,fE,a5,oo,lr,-,S,T,R,dX⟩:=fD
    have fF:=Fr.app fB fE
    have f:=f.keep a5 (allS bh all0)
    have KP:=KP.trans a5 (allS (Or.inr bC) all0)
    have M:=M.keep a5
    have U:=U.keep a5
    have b:=b.keep a5
    have u:=u.keep a5 (ninS W nin0)
    have h:=h.keep a5 (ninS W nin0)
    have v:=v.keep a5 (ninS W nin0)
    have ak:=ak.keep a5
    have ae:=ae.keep a5 (ninS bM nin0)
    have V:=V.keep a5 (ninS (Ne.symm a9) nin0)
    refine o_k [] ?_
    refine o_c 1283 685 dW a ?_
    refine o_aq 1286 0 0 bD bE 686 219 220 222 221 103 223 dW a (o_d7 l Z a0 hw [] qx qa G (k+1) fC.heap n0 (Nat.le_trans Z0 KP.1) f kq lim zq bm (Ne.symm bZ) b u h v ae (hlim.trans (by omega)) (by omega) (by omega) (by omega)) o_be rfl b (hc:=hkc) (hs:=hks) fun _ ii ij b5 fG=> ?_
    obtain ⟨rfl,fH,bb,oq,lq,-,u,h,v,fK⟩:=fG
    have fL:=Fr.app fF fH
    have KP:=KP.trans bb (allS (Or.inl (List.mem_of_getElem? (i:=0) rfl)) all0)
    have M:=M.keep bb
    have U:=U.keep bb
    have b:=b.keep bb
    have ak:=ak.keep bb
    have ae:=ae.keep bb (ninS (Ne.symm bZ) nin0)
    have V:=V.keep bb (ninS (Ne.symm aZ) nin0)
    have S:=S.keep bb (ninS (Ne.symm W) nin0)
    have T:=T.keep bb (ninS (Ne.symm W) nin0)
    have R:=R.keep bb (ninS (Ne.symm W) nin0)
    refine o_k [] ?_
    refine o_e 1287 687 b5 a ?_
    refine o_r 1290 688 b5 a rfl ((if0 _ _).trans (feq (by decide: ¬((1:Int32)=(0:Int32)))).1) ?_
    refine o_l 1292 689 b5 a ?_
    refine o_w 1296 690 b5 a ?_
    obtain ⟨fq,fr⟩:=o_ic hs h1k hk hz0 hD0 hA hR SD.1 dX o_id
    exact o_d' b5 hx hret rfl eA (D 692 rfl) rfl hkc hks ⟨rm,ra,qa,kr,kq,oo,lr,zr,oq,lq,zq,_,G,k+2,k+3,k+1,rfl,fL,KP,bC,bX,a9,dI,bM,cl,bZ,M,S,T,R,V,U,b,u,h,v,ae,ak,hzr.trans (by omega),by omega,by omega,dX,e7.trans (by omega),by omega,fK,fq,fr⟩
   obtain rfl|rfl|rfl:N=2∨N=3∨N=4:=by omega
   ·have SW:=o_h3 hs h1k hk cN
    rw[hval] at SW
    refine o_d 425 221 O a ?_
    refine o_d 427 222 O a ?_
    refine o_g 428 223 1 O a ?_
    refine o_J 429 224 O a ?_
    refine o_z 828 225 O a rfl (flt (o_an (i:=0) rfl hm1 (by decide))).2.1 ?_
    refine o_d5 l Z a0 hw p e s m aM a8 c _ hx bn bA bg hZ h0 n0 Z0 mb dv qx H B rm ra qa aH kr kq sh nl lim ll X dl zr zq a_ _ _ hkc hks _ 0 _ _ _ _ _ _ _ _ _ _ _ _ _ _ _ _ _ O b0 cU C (⟨f,KP,w,M,S,T,R,U,V,y,b,u,h,v,ak,ae⟩:o_bB Z h0 n0 mb qx H B rm ra qa aH kr kq lim ll X dl zr zq cp (o_T (o_a5 sh Fa 2) 0 (0:Int32)) (fun _=>0)) ⟨rfl,rfl⟩ ⟨rfl,rfl⟩ ⟨rfl,rfl⟩ ⟨rfl,rfl⟩ ⟨rfl,rfl⟩ ⟨rfl,rfl,rfl,rfl,rfl,rfl,rfl,rfl⟩ (hlim.trans (by omega)) (by omega) (by omega) rfl (o_dL SD.2) ?_
    intro ik il im v15 v16 v17 v18 v19 v20 b6 v22 v23 b7 v25 b8 v27 dY dZ d0 fN fO fP fQ br
    exact TL _ _ _ _ _ _ _ _ _ _ _ _ _ _ _ _ _ _ 0 fN fO fP fQ rfl (o_e' rfl) (o_h' SW br.1) br.2
   ·have SW:=o_h4 hs h1k hk cN
    rw[hval] at SW
    refine o_d 425 221 O a ?_
    refine o_d 427 222 O a ?_
    refine o_g 428 223 1 O a ?_
    refine o_J 429 224 O a ?_
    refine o_E 432 225 O a rfl (tlt (o_aA (i:=0) rfl hm1 (by decide))).2.1 ?_
    refine o_d4 l Z a0 hw p e s m aM a8 c _ hx bn bA bg hZ h0 n0 Z0 mb dv qx H B rm ra qa aH kr kq sh nl lim ll X dl zr zq a_ _ _ hkc hks _ (1:Int32) 0 _ _ _ _ _ _ _ _ _ _ _ _ _ _ _ _ _ O b0 cU C (⟨f,KP,w,M,S,T,R,U,V,y,b,u,h,v,ak,ae⟩:o_bB Z h0 n0 mb qx H B rm ra qa aH kr kq lim ll X dl zr zq cp (o_T (o_a5 sh Fa 3) 0 (0:Int32)) (fun _=>0)) ⟨rfl,rfl⟩ ⟨rfl,rfl⟩ ⟨rfl,rfl⟩ ⟨rfl,rfl⟩ ⟨rfl,rfl⟩ ⟨rfl,rfl,rfl,rfl,rfl,rfl,rfl,rfl⟩ rfl rfl (by omega) (by omega) rfl (o_dL SD.2) ?_
    intro io ip iq v16 v17 v18 v19 v20 b6 v22 v23 b7 v25 b8 v27 dY dZ d0 bN fR fS fT k16 k17 k18 k19 k20 WF br
    refine o_d 425 221 bN a ?_
    refine o_d 427 222 bN a ?_
    refine o_g 428 223 1 bN a ?_
    refine o_J 429 224 bN a ?_
    refine o_z 828 225 bN a rfl (flt (o_an (i:=1) rfl hm1 (by decide))).2.1 ?_
    refine o_d5 l Z a0 hw p e s m aM a8 c _ hx bn bA bg hZ h0 n0 Z0 mb dv qx H B rm ra qa aH kr kq sh nl lim ll X dl zr zq a_ _ _ hkc hks _ 1 _ _ _ _ _ _ _ _ _ _ _ _ _ _ _ _ _ bN fR fS C fT k16 k17 k18 k19 k20 WF (hlim.trans (by omega)) (by omega) (by omega) rfl br.2 ?_
    intro iu iw iy v15 v16 v17 v18 v19 v20 b6 v22 v23 b7 v25 b8 v27 fU fV cd1 fW fX fY fZ b9
    exact TL _ _ _ _ _ _ _ _ _ _ _ _ _ _ _ _ _ _ 1 fW fX fY fZ rfl (o_fa rfl rfl) (o_ia SW br.1 b9.1) b9.2
   ·have SW:=o_h5 hs h1k hk cN
    rw[hval] at SW
    refine o_d 425 221 O a ?_
    refine o_d 427 222 O a ?_
    refine o_g 428 223 1 O a ?_
    refine o_J 429 224 O a ?_
    refine o_E 432 225 O a rfl (tlt (o_aA (i:=0) rfl hm1 (by decide))).2.1 ?_
    refine o_d4 l Z a0 hw p e s m aM a8 c _ hx bn bA bg hZ h0 n0 Z0 mb dv qx H B rm ra qa aH kr kq sh nl lim ll X dl zr zq a_ _ _ hkc hks _ (1:Int32) 0 _ _ _ _ _ _ _ _ _ _ _ _ _ _ _ _ _ O b0 cU C (⟨f,KP,w,M,S,T,R,U,V,y,b,u,h,v,ak,ae⟩:o_bB Z h0 n0 mb qx H B rm ra qa aH kr kq lim ll X dl zr zq cp (o_T (o_a5 sh Fa 4) 0 (0:Int32)) (fun _=>0)) ⟨rfl,rfl⟩ ⟨rfl,rfl⟩ ⟨rfl,rfl⟩ ⟨rfl,rfl⟩ ⟨rfl,rfl⟩ ⟨rfl,rfl,rfl,rfl,rfl,rfl,rfl,rfl⟩ rfl rfl (by omega) (by omega) rfl (o_dL SD.2) ?_
    intro iz iA iB v16 v17 v18 v19 v20 b6 v22 v23 b7 v25 b8 v27 dY dZ d0 bO f0 f1 f2 k16 k17 k18 k19 k20 WF br
    refine o_d 425 221 bO a ?_
    refine o_d 427 222 bO a ?_
    refine o_g 428 223 1 bO a ?_
    refine o_J 429 224 bO a ?_
    refine o_E 432 225 bO a rfl (tlt (o_aA (i:=1) rfl hm1 (by decide))).2.1 ?_
    refine o_d4 l Z a0 hw p e s m aM a8 c _ hx bn bA bg hZ h0 n0 Z0 mb dv qx H B rm ra qa aH kr kq sh nl lim ll X dl zr zq a_ _ _ hkc hks _ (2:Int32) 1 _ _ _ _ _ _ _ _ _ _ _ _ _ _ _ _ _ bO f0 f1 C f2 k16 k17 k18 k19 k20 WF rfl rfl (by omega) (by omega) rfl br.2 ?_
    intro iC iD iE v16 v17 v18 v19 v20 b6 v22 v23 b7 v25 b8 v27 fU fV cd1 bP f3 f4 f5 k16 k17 k18 k19 k20 WF b9
    refine o_d 425 221 bP a ?_
    refine o_d 427 222 bP a ?_
    refine o_g 428 223 1 bP a ?_
    refine o_J 429 224 bP a ?_
    refine o_z 828 225 bP a rfl (flt (o_an (i:=2) rfl hm1 (by decide))).2.1 ?_
    refine o_d5 l Z a0 hw p e s m aM a8 c _ hx bn bA bg hZ h0 n0 Z0 mb dv qx H B rm ra qa aH kr kq sh nl lim ll X dl zr zq a_ _ _ hkc hks _ 2 _ _ _ _ _ _ _ _ _ _ _ _ _ _ _ _ _ bP f3 f4 C f5 k16 k17 k18 k19 k20 WF (hlim.trans (by omega)) (by omega) (by omega) rfl b9.2 ?_
    intro iF iG iH v15 v16 v17 v18 v19 v20 b6 v22 v23 b7 v25 b8 v27 iI iJ cd2 f6 f7 f8 f9 d1
    exact TL _ _ _ _ _ _ _ _ _ _ _ _ _ _ _ _ _ _ 2 f6 f7 f8 f9 rfl (o_ij rfl rfl rfl) (o_ib SW br.1 b9.1 d1.1) d1.2
  by_cases hlm:(1:Int32)<lim
  ·refine o_E 349 178 bq a rfl (tlt hlm).2.1 ?_
   refine o_c 350 179 bq a ?_
   refine o_d 352 180 bq a ?_
   obtain ⟨iK,d2,d3,f_,f',aN,d4,d5,d6⟩:=newPE bq hx hZ (o_b hw 52 rfl) cO (g:=(mkF m 352 #[rv mb,rv dv,rv qx,iv 1,iv sh,iv 2,rv B,rv rm,iv nl,iv lim,g10,g11,g12,g13,.unset,.unset,.unset,.unset,.unset,.unset,.unset,.unset,.unset,.unset,.unset,.unset,.unset,.unset] [(.int lim),(.ref qx)])) rfl (D 181 rfl) rfl (o_an (j:=0) hlim rfl (by omega)) (cap:=3) (by rw[o_aT hlim];omega) (by decide) (by decide) (by decide) (ad:="[I") (by decide)
   obtain ⟨aT,bt⟩: ∃z,z=eU.size:=⟨_,rfl⟩
   rw[←bt] at d4 d5 d6
   have d7:h0.size≤aT:=Nat.le_trans KP.1 (Nat.le_of_eq bt.symm)
   have ga:n0≤aT:=Nat.le_trans Z0 d7
   have iL:mb≠aT:=Nat.ne_of_lt (Nat.lt_of_lt_of_le w.lt (Nat.le_of_eq bt.symm))
   have cV:qx≠aT:=Nat.ne_of_lt (Nat.lt_of_lt_of_le b.lt (Nat.le_of_eq bt.symm))
   have iM:H≠aT:=Nat.ne_of_lt (Nat.lt_of_lt_of_le E.lt (Nat.le_of_eq bt.symm))
   have gb:B≠aT:=Nat.ne_of_lt (Nat.lt_of_lt_of_le y.lt (Nat.le_of_eq bt.symm))
   have d8:rm≠aT:=Nat.ne_of_lt (Nat.lt_of_lt_of_le M.lt (Nat.le_of_eq bt.symm))
   have gd:ra≠aT:=Nat.ne_of_lt (Nat.lt_of_lt_of_le U.lt (Nat.le_of_eq bt.symm))
   have f:=f.ext aN
   have KP:=KP.ext aN
   have w:=w.ext aN
   have b:=b.ext aN
   have u:=u.ext aN
   have h:=h.ext aN
   have v:=v.ext aN
   have y:=y.ext aN
   have M:=M.ext aN
   have S:=S.ext aN
   have T:=T.ext aN
   have R:=R.ext aN
   have U:=U.ext aN
   have V:=V.ext aN
   have b_:Exa Z d2 aT "[I":=d5
   have b':o_x Z d2 aT d3 lim (fun _=>0):=o_bQ (Arv.new d4 (o_an (j:=0) hlim rfl (by omega)))
   refine o_i (mkF m 354 #[rv mb,rv dv,rv qx,iv 1,iv sh,iv 2,rv B,rv rm,iv nl,iv lim,g10,g11,g12,g13,.unset,.unset,.unset,.unset,.unset,.unset,.unset,.unset,.unset,.unset,.unset,.unset,.unset,.unset] [(.ref aT),(.ref qx)]) d6 ?_
   refine o_R 357 182 111 102 f_ a f' h b (Or.inl (o_b hw 112 rfl)) (ty:=(.array .int)) fun iN gf cq gg aA=> ?_
   have gi:=Fr.snoc cq dE bm
   have gj:Fld Z gf qx "java/math/MutableBigInteger" "value" "[I" (.ref aT):=h.same aA
   have f:=f.wr aA bm
   have KP:=KP.wr aA (Or.inl (List.mem_of_getElem? (i:=0) rfl))
   have w:=w.wr aA
   have b:=b.wr aA
   have u:=u.other aA (Or.inr (slot_ne (Or.inl (o_b hw 110 rfl)) (Or.inl (o_b hw 112 rfl)) (by decide) (t:= .int) (t':=(.array .int)) (by decide) (by decide)))
   have v:=v.other aA (Or.inr (slot_ne (Or.inl (o_b hw 114 rfl)) (Or.inl (o_b hw 112 rfl)) (by decide) (t:= .int) (t':=(.array .int)) (by decide) (by decide)))
   have y:=y.other aA (Ne.symm bL)
   have M:=M.wr aA
   have S:=S.other aA (Or.inl (Ne.symm W))
   have T:=T.other aA (Or.inl (Ne.symm W))
   have R:=R.other aA (Or.inl (Ne.symm W))
   have U:=U.wr aA
   have V:=V.other aA (Ne.symm aZ)
   have b_:=b_.wr aA
   have b':=b'.other aA (Ne.symm cV)
   have h:=gj
   refine o_c 358 183 cq a ?_
   refine o_g 359 184 0 cq a ?_
   refine o_R 362 185 109 102 cq a gg u b (Or.inl (o_b hw 110 rfl)) (ty:= .int) fun iO gk d9 gl aB=> ?_
   have gn:=Fr.snoc d9 gi bm
   have gp:Fld Z gk qx "java/math/MutableBigInteger" "offset" "I" (.int (0:Int32)):=u.same aB
   have f:=f.wr aB bm
   have KP:=KP.wr aB (Or.inl (List.mem_of_getElem? (i:=0) rfl))
   have w:=w.wr aB
   have b:=b.wr aB
   have h:=h.other aB (Or.inr (slot_ne (Or.inl (o_b hw 112 rfl)) (Or.inl (o_b hw 110 rfl)) (by decide) (t:=(.array .int)) (t':= .int) (by decide) (by decide)))
   have v:=v.other aB (Or.inr (slot_ne (Or.inl (o_b hw 114 rfl)) (Or.inl (o_b hw 110 rfl)) (by decide) (t:= .int) (t':= .int) (by decide) (by decide)))
   have y:=y.other aB (Ne.symm bL)
   have M:=M.wr aB
   have S:=S.other aB (Or.inl (Ne.symm W))
   have T:=T.other aB (Or.inl (Ne.symm W))
   have R:=R.other aB (Or.inl (Ne.symm W))
   have U:=U.wr aB
   have V:=V.other aB (Ne.symm aZ)
   have b_:=b_.wr aB
   have b':=b'.other aB (Ne.symm cV)
   have u:=gp
   exact JK _ _ _ aT d3 lim _ _ d9 gl gn f KP w b u h v y M S T R U V b' b_ (by decide) (by decide) ga (Or.inr d7) (Ne.symm gd) d8 gb cV (Ne.symm d8) hlim
  ·refine o_z 362 178 bq a rfl (flt hlm).2.1 ?_
   have hl1:N-1=1:=by have q:=hlm;rw[Int32.lt_iff_toInt_lt] at q;have o:(1:Int32).toInt=1:=rfl;omega
   exact JK _ _ _ H kq (1:Int32) _ _ bq cO dE f KP w b u h v y M S T R U V E L (by decide) (by decide) ev (Or.inl rfl) eW (Ne.symm dG) (Ne.symm dp) ew dG (by rw[hl1];rfl)
 refine o_d 63 30 bB a ?_
 by_cases hcs:s2<sh
 ·refine o_z 125 31 bB a rfl (tlt hcs).1 ?_
  have hn3:n≤3:=o_ih hcs hn2 hns ha0 ht0 hle hn4
  have hra:(cn+(2:Int32)).toInt=((n+2:Nat):Int):=o_aE hcn rfl (by omega)
  refine o_c 126 61 bB a ?_
  refine o_h 129 62 113 bB a dB I fun iP cW gq=> ?_
  refine o_g 130 63 2 cW a ?_
  refine o_v 131 64 cW a ?_
  obtain ⟨iQ,cX,cr,d_,gs,aO,d',ea,eb⟩:=newPE cW hx hZ (o_b hw 52 rfl) gq (g:=(mkF m 131 #[rv mb,rv dv,rv qx,iv 1,iv sh,iv 2,rv B,.unset,.unset,.unset,.unset,.unset,.unset,.unset,.unset,.unset,.unset,.unset,.unset,.unset,.unset,.unset,.unset,.unset,.unset,.unset,.unset,.unset] [(.int (cn+(2:Int32)))])) rfl (D 65 rfl) rfl (o_an (j:=0) hra rfl (by omega)) (cap:=6) (by rw[o_aT hra];omega) (by decide) (by decide) (by decide) (ad:="[I") (by decide)
  obtain ⟨af,bF⟩: ∃z,z=cL.heap.size:=⟨_,rfl⟩
  rw[←bF] at d' ea eb
  have ct:h0.size≤af:=Nat.le_trans KP.1 (Nat.le_of_eq bF.symm)
  have cu:n0≤af:=Nat.le_trans Z0 ct
  have cY:mb≠af:=Nat.ne_of_lt (Nat.lt_of_lt_of_le w.lt (Nat.le_of_eq bF.symm))
  have gu:aa≠af:=Nat.ne_of_lt (Nat.lt_of_lt_of_le K.lt (Nat.le_of_eq bF.symm))
  have bG:qx≠af:=Nat.ne_of_lt (Nat.lt_of_lt_of_le b.lt (Nat.le_of_eq bF.symm))
  have cZ:H≠af:=Nat.ne_of_lt (Nat.lt_of_lt_of_le E.lt (Nat.le_of_eq bF.symm))
  have c0:B≠af:=Nat.ne_of_lt (Nat.lt_of_lt_of_le y.lt (Nat.le_of_eq bF.symm))
  have f:=f.ext aO
  have KP:=KP.ext aO
  have w:=w.ext aO
  have P:=P.ext aO
  have Q:=Q.ext aO
  have I:=I.ext aO
  have K:=K.ext aO
  have b:=b.ext aO
  have u:=u.ext aO
  have h:=h.ext aO
  have v:=v.ext aO
  have E:=E.ext aO
  have L:=L.ext aO
  have y:=y.ext aO
  have am:Exa Z cX af "[I":=ea
  have ao:o_x Z cX af cr (cn+(2:Int32)) (fun _=>0):=o_bQ (Arv.new d' (o_an (j:=0) hra rfl (by omega)))
  refine o_i (mkF m 133 #[rv mb,rv dv,rv qx,iv 1,iv sh,iv 2,rv B,.unset,.unset,.unset,.unset,.unset,.unset,.unset,.unset,.unset,.unset,.unset,.unset,.unset,.unset,.unset,.unset,.unset,.unset,.unset,.unset,.unset] [(.ref af)]) eb ?_
  refine o_1 135 66 #[_,_,_,_,_,_,_,_,_,_,_,_,_,_,_,_,_,_,_,_,_,_,_,_,_,_,_,_] d_ a ?_
  obtain ⟨iR,ca,c2,gv,aC,ec,cv,-,ed⟩:=newO d_ hx hZ bg (o_b hw 133 rfl) (o_b hw 102 rfl) (o_b hw 103 rfl) gs (g:=(mkF m 135 #[rv mb,rv dv,rv qx,iv 1,iv sh,iv 2,rv B,.unset,rv af,.unset,.unset,.unset,.unset,.unset,.unset,.unset,.unset,.unset,.unset,.unset,.unset,.unset,.unset,.unset,.unset,.unset,.unset,.unset] [])) rfl (D 67 rfl) (by decide) (by decide)
  obtain ⟨Y,bu⟩: ∃z,z=cX.size:=⟨_,rfl⟩
  rw[←bu] at ec cv ed
  have cb:h0.size≤Y:=Nat.le_trans KP.1 (Nat.le_of_eq bu.symm)
  have bQ:n0≤Y:=Nat.le_trans Z0 cb
  have bk:mb≠Y:=Nat.ne_of_lt (Nat.lt_of_lt_of_le w.lt (Nat.le_of_eq bu.symm))
  have c3:aa≠Y:=Nat.ne_of_lt (Nat.lt_of_lt_of_le K.lt (Nat.le_of_eq bu.symm))
  have bd:qx≠Y:=Nat.ne_of_lt (Nat.lt_of_lt_of_le b.lt (Nat.le_of_eq bu.symm))
  have cw:H≠Y:=Nat.ne_of_lt (Nat.lt_of_lt_of_le E.lt (Nat.le_of_eq bu.symm))
  have cx:B≠Y:=Nat.ne_of_lt (Nat.lt_of_lt_of_le y.lt (Nat.le_of_eq bu.symm))
  have a6:af≠Y:=Nat.ne_of_lt (Nat.lt_of_lt_of_le am.lt (Nat.le_of_eq bu.symm))
  have f:=f.ext aC
  have KP:=KP.ext aC
  have w:=w.ext aC
  have P:=P.ext aC
  have Q:=Q.ext aC
  have I:=I.ext aC
  have K:=K.ext aC
  have b:=b.ext aC
  have u:=u.ext aC
  have h:=h.ext aC
  have v:=v.ext aC
  have E:=E.ext aC
  have L:=L.ext aC
  have y:=y.ext aC
  have am:=am.ext aC
  have ao:=ao.ext aC
  have aq:Exa Z ca Y "java/math/MutableBigInteger":=ec
  have gw:Fld Z ca Y "java/math/MutableBigInteger" "offset" "I" (.int (0:Int32)):=cv (Or.inl (o_b hw 110 rfl)) (ty:= .int) (by decide)
  have gx:Fld Z ca Y "java/math/MutableBigInteger" "value" "[I" .null:=cv (Or.inl (o_b hw 112 rfl)) (ty:=(.array .int)) (by decide)
  have gy:Fld Z ca Y "java/math/MutableBigInteger" "intLen" "I" (.int (0:Int32)):=cv (Or.inl (o_b hw 114 rfl)) (ty:= .int) (by decide)
  refine o_i (mkF m 138 #[rv mb,rv dv,rv qx,iv 1,iv sh,iv 2,rv B,.unset,rv af,.unset,.unset,.unset,.unset,.unset,.unset,.unset,.unset,.unset,.unset,.unset,.unset,.unset,.unset,.unset,.unset,.unset,.unset,.unset] [(.ref Y)]) ed ?_
  refine o_ab 139 68 c2 a ?_
  refine o_l 141 69 c2 a ?_
  refine o_7 144 1 1 3 11 70 269 116 103 117 c2 a (o_dl l Z a0 hw [] Y af (cn+(2:Int32)) ca n0 (Nat.le_trans Z0 KP.1) f bQ aq gw gx gy cr _ a6 ao) o_da gv rfl fun _ iS iT cy gA=> ?_
  obtain ⟨rfl,gB,aD,gC,gD,gE,gF⟩:=gA
  have gG:=Fr.app dC gB
  have f:=f.keep aD (allS bQ all0)
  have KP:=KP.trans aD (allS (Or.inr cb) all0)
  have w:=w.keep aD
  have P:=P.keep aD (ninS bk nin0)
  have Q:=Q.keep aD (ninS bk nin0)
  have I:=I.keep aD (ninS bk nin0)
  have K:=K.keep aD (ninS c3 nin0)
  have b:=b.keep aD
  have u:=u.keep aD (ninS bd nin0)
  have h:=h.keep aD (ninS bd nin0)
  have v:=v.keep aD (ninS bd nin0)
  have E:=E.keep aD (ninS cw nin0)
  have L:=L.keep aD
  have y:=y.keep aD (ninS cx nin0)
  have am:=am.keep aD
  have ao:=ao.keep aD (ninS a6 nin0)
  refine o_k [_] ?_
  have aq:=gC
  have aP:=gD
  have aU:=gE
  have aQ:=gF
  refine o_1 146 71 #[_,_,_,_,_,_,_,_,_,_,_,_,_,_,_,_,_,_,_,_,_,_,_,_,_,_,_,_] cy a ?_
  refine o_l 148 72 cy a ?_
  refine o_c 149 73 cy a ?_
  refine o_h 152 74 113 cy a rfl I fun iU c4 gH=> ?_
  refine o_g 153 75 1 c4 a ?_
  refine o_v 154 76 c4 a ?_
  refine o_R 157 77 113 102 c4 a gH aQ aq (Or.inl (o_b hw 114 rfl)) (ty:= .int) fun iV gI cz gJ ag=> ?_
  have gK:=Fr.snoc cz gG bQ
  have gL:Fld Z gI Y "java/math/MutableBigInteger" "intLen" "I" (.int (cn+(1:Int32))):=aQ.same ag
  have f:=f.wr ag bQ
  have KP:=KP.wr ag (Or.inr cb)
  have w:=w.wr ag
  have P:=P.other ag (Or.inl bk)
  have Q:=Q.other ag (Or.inl bk)
  have I:=I.other ag (Or.inl bk)
  have K:=K.other ag c3
  have b:=b.wr ag
  have u:=u.other ag (Or.inl bd)
  have h:=h.other ag (Or.inl bd)
  have v:=v.other ag (Or.inl bd)
  have E:=E.other ag cw
  have L:=L.wr ag
  have y:=y.other ag cx
  have am:=am.wr ag
  have ao:=ao.other ag a6
  have aq:=aq.wr ag
  have aP:=aP.other ag (Or.inr (slot_ne (Or.inl (o_b hw 110 rfl)) (Or.inl (o_b hw 114 rfl)) (by decide) (t:= .int) (t':= .int) (by decide) (by decide)))
  have aU:=aU.other ag (Or.inr (slot_ne (Or.inl (o_b hw 112 rfl)) (Or.inl (o_b hw 114 rfl)) (by decide) (t:=(.array .int)) (t':= .int) (by decide) (by decide)))
  have aQ:=gL
  refine o_l 159 78 cz a ?_
  refine o_g 160 79 1 cz a ?_
  refine o_R 163 80 109 102 cz a gJ aP aq (Or.inl (o_b hw 110 rfl)) (ty:= .int) fun iW gM c5 gN ah=> ?_
  have gO:=Fr.snoc c5 gK bQ
  have gP:Fld Z gM Y "java/math/MutableBigInteger" "offset" "I" (.int (1:Int32)):=aP.same ah
  have f:=f.wr ah bQ
  have KP:=KP.wr ah (Or.inr cb)
  have w:=w.wr ah
  have P:=P.other ah (Or.inl bk)
  have Q:=Q.other ah (Or.inl bk)
  have I:=I.other ah (Or.inl bk)
  have K:=K.other ah c3
  have b:=b.wr ah
  have u:=u.other ah (Or.inl bd)
  have h:=h.other ah (Or.inl bd)
  have v:=v.other ah (Or.inl bd)
  have E:=E.other ah cw
  have L:=L.wr ah
  have y:=y.other ah cx
  have am:=am.wr ah
  have ao:=ao.other ah a6
  have aq:=aq.wr ah
  have aU:=aU.other ah (Or.inr (slot_ne (Or.inl (o_b hw 112 rfl)) (Or.inl (o_b hw 110 rfl)) (by decide) (t:=(.array .int)) (t':= .int) (by decide) (by decide)))
  have aQ:=aQ.other ah (Or.inr (slot_ne (Or.inl (o_b hw 114 rfl)) (Or.inl (o_b hw 110 rfl)) (by decide) (t:= .int) (t':= .int) (by decide) (by decide)))
  have aP:=gP
  refine o_c 164 81 c5 a ?_
  refine o_h 167 82 109 c5 a gN P fun iX be gQ=> ?_
  refine o_o 169 83 #[_,_,_,_,_,_,_,_,_,_,_,_,_,_,_,_,_,_,_,_,_,_,_,_,_,_,_,_] be a ?_
  refine o_g 170 84 0 be a ?_
  refine o_o 172 85 #[_,_,_,_,_,_,_,_,_,_,_,_,_,_,_,_,_,_,_,_,_,_,_,_,_,_,_,_] be a ?_
  refine o_B 174 86 32 be a ?_
  refine o_d 176 87 be a ?_
  refine o_J 177 88 be a ?_
  refine o_o 179 89 #[_,_,_,_,_,_,_,_,_,_,_,_,_,_,_,_,_,_,_,_,_,_,_,_,_,_,_,_] be a ?_
  refine o_g 180 90 1 be a ?_
  refine o_o 182 91 #[_,_,_,_,_,_,_,_,_,_,_,_,_,_,_,_,_,_,_,_,_,_,_,_,_,_,_,_] be a ?_
  have hc1:(cn+(1:Int32)).toInt=((n+1:Nat):Int):=o_aE hcn rfl (by omega)
  have LP: ∀r:Nat,∀(T_:State) (A:Heap) (L_:List Loc) (i:Nat) (ji jk:Int32) (g13:Slot),Stand p l e ({frames:=3,cells:=4,slots:=24,locals:=60}:Room) s m #[(.ref mb),(.ref dv),(.ref qx),(.int (1:Int32))] aM a8 c T_ L_ 3 11→T_.heap=A→Fr n0 L_→Old Z n0 A→Keep h0 A [qx,H]→Exa Z A mb "java/math/MutableBigInteger"→Fld Z A mb "java/math/MutableBigInteger" "offset" "I" (.int (0:Int32))→Fld Z A mb "java/math/MutableBigInteger" "value" "[I" (.ref aa)→Fld Z A mb "java/math/MutableBigInteger" "intLen" "I" (.int cn)→o_x Z A aa ka cn fa→Exa Z A qx "java/math/MutableBigInteger"→Fld Z A qx "java/math/MutableBigInteger" "offset" "I" (.int (0:Int32))→Fld Z A qx "java/math/MutableBigInteger" "value" "[I" (.ref H)→Fld Z A qx "java/math/MutableBigInteger" "intLen" "I" (.int (0:Int32))→o_x Z A H kq (1:Int32) (fun _=>0)→Exa Z A H "[I"→Arv Z A B aH .int (2:Int32) [(.int X),(.int dl)] (.int (0:Int32))→Exa Z A af "[I"→o_x Z A af cr (cn+(2:Int32)) (o_aU sh (o_bd fa) (fun _=>0) 1 i)→Exa Z A Y "java/math/MutableBigInteger"→Fld Z A Y "java/math/MutableBigInteger" "offset" "I" (.int (1:Int32))→Fld Z A Y "java/math/MutableBigInteger" "value" "[I" (.ref af)→Fld Z A Y "java/math/MutableBigInteger" "intLen" "I" (.int (cn+(1:Int32)))→i+r=n→ji.toInt=i→jk.toInt=((1+i:Nat):Int)→o_9 g13→o_f p e aM (o_V s (o_bm Z qx H (o_n fa n) (o_n ft 2) h0 n0) ({frames:=3,cells:=4,slots:=24,locals:=60}:Room).cells ({frames:=3,cells:=4,slots:=24,locals:=60}:Room).slots) T_ (mkF m 182 #[rv mb,rv dv,rv qx,iv 1,iv sh,iv 2,rv B,rv Y,rv af,iv ji,iv (o_bd fa i),iv ((32:Int32)-sh),iv jk,g13,.unset,.unset,.unset,.unset,.unset,.unset,.unset,.unset,.unset,.unset,.unset,.unset,.unset,.unset] []):=by
   intro r
   induction r with
   |zero=>
    intro iY iZ i0 i ji jk g13 c6 gR gS f KP w P Q I K b u h v E L y am ao aq aP aU aQ hr hi hj c13
    refine o_d 184 92 c6 a ?_
    refine o_c 185 93 c6 a ?_
    refine o_h 188 94 113 c6 a gR I fun i1 bR gT=> ?_
    refine o_g 189 95 1 bR a ?_
    refine o_v 190 96 bR a ?_
    refine o_z 231 97 bR a rfl (flt (o_an hj hc1 (by omega))).2.1 ?_
    obtain rfl:i=n:=by omega
    refine o_l 233 118 bR a ?_
    refine o_c 234 119 bR a ?_
    refine o_h 237 120 113 bR a gT I fun i2 bS gU=> ?_
    refine o_g 238 121 1 bS a ?_
    refine o_v 239 122 bS a ?_
    refine o_d 241 123 bS a ?_
    refine o_d 243 124 bS a ?_
    refine o_aS 244 125 bS a ?_
    refine o_as 245 (1+i) bS hx hZ gU ao (hc1.trans (by omega)) (by omega) (D 126 rfl) rfl fun i3 i4 c7 gV aK gW=> ?_
    have gX:=Fr.snoc c7 gS cu
    have f:=f.wr aK cu
    have KP:=KP.wr aK (Or.inr ct)
    have w:=w.wr aK
    have b:=b.wr aK
    have u:=u.other aK (Or.inl bG)
    have h:=h.other aK (Or.inl bG)
    have v:=v.other aK (Or.inl bG)
    have E:=E.other aK cZ
    have L:=L.wr aK
    have y:=y.other aK c0
    have am:=am.wr aK
    have aq:=aq.wr aK
    have aP:=aP.other aK (Or.inl (Ne.symm a6))
    have aU:=aU.other aK (Or.inl (Ne.symm a6))
    have aQ:=aQ.other aK (Or.inl (Ne.symm a6))
    have ao:=gW
    refine o_w 323 127 c7 a ?_
    have i5:=c13
    exact J _ _ _ Y af cr (cn+(1:Int32)) (cn+(2:Int32)) (o_bd fa) (i+1) _ _ _ _ g13 c7 gV gX f KP w b u h v E L y aq aP aU aQ am ao cb ct (Ne.symm a6) c0 bG cZ bd cx cw hc1 hra (by omega) (by omega) (o_e_ fa i) (by show o_a 0*_<_;rw[show o_a (0:Int32)=0 from rfl];omega) ⟨rfl,rfl⟩ ⟨rfl,rfl⟩ ⟨rfl,rfl⟩ ⟨rfl,rfl⟩ c13
   |succ r IH=>
    intro i6 i7 i8 i ji jk g13 c8 gY gZ f KP w P Q I K b u h v E L y am ao aq aP aU aQ hr hi hj c13
    refine o_d 184 92 c8 a ?_
    refine o_c 185 93 c8 a ?_
    refine o_h 188 94 113 c8 a gY I fun i9 bI g0=> ?_
    refine o_g 189 95 1 bI a ?_
    refine o_v 190 96 bI a ?_
    refine o_E 193 97 bI a rfl (tlt (o_aA hj hc1 (by omega))).2.1 ?_
    refine o_d 195 98 bI a ?_
    refine o_az 197 13 #[rv mb,rv dv,rv qx,iv 1,iv sh,iv 2,rv B,rv Y,rv af,iv ji,iv (o_bd fa i),iv ((32:Int32)-sh),iv jk,iv (o_bd fa i),.unset,.unset,.unset,.unset,.unset,.unset,.unset,.unset,.unset,.unset,.unset,.unset,.unset,.unset] bI hx (D 99 rfl) rfl c13 rfl rfl ?_
    refine o_c 198 100 bI a ?_
    refine o_h 201 101 111 bI a g0 Q fun i_ aV ef=> ?_
    refine o_d 203 102 aV a ?_
    refine o_ai 204 i aV hx hZ ef K hi (by omega) (D 103 rfl) rfl ?_
    rw[(o_e9 fa i).symm]
    refine o_o 206 104 #[_,_,_,_,_,_,_,_,_,_,_,_,_,_,_,_,_,_,_,_,_,_,_,_,_,_,_,_] aV a ?_
    refine o_l 208 105 aV a ?_
    refine o_d 210 106 aV a ?_
    refine o_d 212 107 aV a ?_
    refine o_d 214 108 aV a ?_
    refine o_aS 215 109 aV a ?_
    refine o_d 217 110 aV a ?_
    refine o_d 219 111 aV a ?_
    refine o_af 220 112 aV a ?_
    refine o_b9 221 113 aV a ?_
    refine o_as 222 (1+i) aV hx hZ ef ao hj (by omega) (D 114 rfl) rfl fun i' ja cd g1 al g2=> ?_
    have g3:=Fr.snoc cd gZ cu
    have f:=f.wr al cu
    have KP:=KP.wr al (Or.inr ct)
    have w:=w.wr al
    have P:=P.other al (Or.inl cY)
    have Q:=Q.other al (Or.inl cY)
    have I:=I.other al (Or.inl cY)
    have K:=K.other al gu
    have b:=b.wr al
    have u:=u.other al (Or.inl bG)
    have h:=h.other al (Or.inl bG)
    have v:=v.other al (Or.inl bG)
    have E:=E.other al cZ
    have L:=L.wr al
    have y:=y.other al c0
    have am:=am.wr al
    have aq:=aq.wr al
    have aP:=aP.other al (Or.inl (Ne.symm a6))
    have aU:=aU.other al (Or.inl (Ne.symm a6))
    have aQ:=aQ.other al (Or.inl (Ne.symm a6))
    have ao:=g2
    refine o_G 225 115 #[_,_,_,_,_,_,_,_,_,_,_,_,iv (jk+(1:Int32)),_,_,_,_,_,_,_,_,_,_,_,_,_,_,_] cd a ?_
    refine o_G 228 116 #[_,_,_,_,_,_,_,_,_,iv (ji+(1:Int32)),_,_,_,_,_,_,_,_,_,_,_,_,_,_,_,_,_,_] cd a ?_
    refine o_w 182 117 cd a ?_
    exact IH _ _ _ (i+1) (ji+(1:Int32)) (jk+(1:Int32)) _ cd g1 g3 f KP w P Q I K b u h v E L y am (o_e6 ao) aq aP aU aQ (by omega) (o_aE hi rfl (by omega)) ((o_aE hj (j:=1) rfl (by omega)).trans (by omega)) ⟨rfl,rfl⟩
  exact LP n _ _ _ 0 (0:Int32) (1:Int32) .unset be gQ gO f KP w P Q I K b u h v E L y am (by rw[o_e5];exact ao) aq aP aU aQ (by omega) rfl rfl ⟨rfl,rfl⟩
 ·refine o_E 66 31 bB a rfl (flt hcs).1 ?_
  have hra:(cn+(1:Int32)).toInt=((n+1:Nat):Int):=o_aE hcn rfl (by omega)
  refine o_c 67 32 bB a ?_
  refine o_h 70 33 113 bB a dB I fun jb c_ g4=> ?_
  refine o_g 71 34 1 c_ a ?_
  refine o_v 72 35 c_ a ?_
  obtain ⟨jc,c',cA,eg,g5,aR,eh,ei,ej⟩:=newPE c_ hx hZ (o_b hw 52 rfl) g4 (g:=(mkF m 72 #[rv mb,rv dv,rv qx,iv 1,iv sh,iv 2,rv B,.unset,.unset,.unset,.unset,.unset,.unset,.unset,.unset,.unset,.unset,.unset,.unset,.unset,.unset,.unset,.unset,.unset,.unset,.unset,.unset,.unset] [(.int (cn+(1:Int32)))])) rfl (D 36 rfl) rfl (o_an (j:=0) hra rfl (by omega)) (cap:=6) (by rw[o_aT hra];omega) (by decide) (by decide) (by decide) (ad:="[I") (by decide)
  obtain ⟨aE,bJ⟩: ∃z,z=cL.heap.size:=⟨_,rfl⟩
  rw[←bJ] at eh ei ej
  have da:h0.size≤aE:=Nat.le_trans KP.1 (Nat.le_of_eq bJ.symm)
  have ek:n0≤aE:=Nat.le_trans Z0 da
  have jd:mb≠aE:=Nat.ne_of_lt (Nat.lt_of_lt_of_le w.lt (Nat.le_of_eq bJ.symm))
  have g6:aa≠aE:=Nat.ne_of_lt (Nat.lt_of_lt_of_le K.lt (Nat.le_of_eq bJ.symm))
  have cB:qx≠aE:=Nat.ne_of_lt (Nat.lt_of_lt_of_le b.lt (Nat.le_of_eq bJ.symm))
  have el:H≠aE:=Nat.ne_of_lt (Nat.lt_of_lt_of_le E.lt (Nat.le_of_eq bJ.symm))
  have em:B≠aE:=Nat.ne_of_lt (Nat.lt_of_lt_of_le y.lt (Nat.le_of_eq bJ.symm))
  have f:=f.ext aR
  have KP:=KP.ext aR
  have w:=w.ext aR
  have P:=P.ext aR
  have Q:=Q.ext aR
  have I:=I.ext aR
  have K:=K.ext aR
  have b:=b.ext aR
  have u:=u.ext aR
  have h:=h.ext aR
  have v:=v.ext aR
  have E:=E.ext aR
  have L:=L.ext aR
  have y:=y.ext aR
  have aW:Exa Z c' aE "[I":=ei
  have aX:o_x Z c' aE cA (cn+(1:Int32)) (fun _=>0):=o_bQ (Arv.new eh (o_an (j:=0) hra rfl (by omega)))
  refine o_i (mkF m 74 #[rv mb,rv dv,rv qx,iv 1,iv sh,iv 2,rv B,.unset,.unset,.unset,.unset,.unset,.unset,.unset,.unset,.unset,.unset,.unset,.unset,.unset,.unset,.unset,.unset,.unset,.unset,.unset,.unset,.unset] [(.ref aE)]) ej ?_
  refine o_1 76 37 #[_,_,_,_,_,_,_,_,_,_,_,_,_,_,_,_,_,_,_,_,_,_,_,_,_,_,_,_] eg a ?_
  obtain ⟨je,ce,db,g7,aF,eo,cC,-,ep⟩:=newO eg hx hZ bg (o_b hw 133 rfl) (o_b hw 102 rfl) (o_b hw 103 rfl) g5 (g:=(mkF m 76 #[rv mb,rv dv,rv qx,iv 1,iv sh,iv 2,rv B,.unset,rv aE,.unset,.unset,.unset,.unset,.unset,.unset,.unset,.unset,.unset,.unset,.unset,.unset,.unset,.unset,.unset,.unset,.unset,.unset,.unset] [])) rfl (D 38 rfl) (by decide) (by decide)
  obtain ⟨au,bv⟩: ∃z,z=c'.size:=⟨_,rfl⟩
  rw[←bv] at eo cC ep
  have cg:h0.size≤au:=Nat.le_trans KP.1 (Nat.le_of_eq bv.symm)
  have bT:n0≤au:=Nat.le_trans Z0 cg
  have bl:mb≠au:=Nat.ne_of_lt (Nat.lt_of_lt_of_le w.lt (Nat.le_of_eq bv.symm))
  have dc:aa≠au:=Nat.ne_of_lt (Nat.lt_of_lt_of_le K.lt (Nat.le_of_eq bv.symm))
  have bf:qx≠au:=Nat.ne_of_lt (Nat.lt_of_lt_of_le b.lt (Nat.le_of_eq bv.symm))
  have cD:H≠au:=Nat.ne_of_lt (Nat.lt_of_lt_of_le E.lt (Nat.le_of_eq bv.symm))
  have cE:B≠au:=Nat.ne_of_lt (Nat.lt_of_lt_of_le y.lt (Nat.le_of_eq bv.symm))
  have bw:aE≠au:=Nat.ne_of_lt (Nat.lt_of_lt_of_le aW.lt (Nat.le_of_eq bv.symm))
  have f:=f.ext aF
  have KP:=KP.ext aF
  have w:=w.ext aF
  have P:=P.ext aF
  have Q:=Q.ext aF
  have I:=I.ext aF
  have K:=K.ext aF
  have b:=b.ext aF
  have u:=u.ext aF
  have h:=h.ext aF
  have v:=v.ext aF
  have E:=E.ext aF
  have L:=L.ext aF
  have y:=y.ext aF
  have aW:=aW.ext aF
  have aX:=aX.ext aF
  have a7:Exa Z ce au "java/math/MutableBigInteger":=eo
  have g8:Fld Z ce au "java/math/MutableBigInteger" "offset" "I" (.int (0:Int32)):=cC (Or.inl (o_b hw 110 rfl)) (ty:= .int) (by decide)
  have g_:Fld Z ce au "java/math/MutableBigInteger" "value" "[I" .null:=cC (Or.inl (o_b hw 112 rfl)) (ty:=(.array .int)) (by decide)
  have g':Fld Z ce au "java/math/MutableBigInteger" "intLen" "I" (.int (0:Int32)):=cC (Or.inl (o_b hw 114 rfl)) (ty:= .int) (by decide)
  refine o_i (mkF m 79 #[rv mb,rv dv,rv qx,iv 1,iv sh,iv 2,rv B,.unset,rv aE,.unset,.unset,.unset,.unset,.unset,.unset,.unset,.unset,.unset,.unset,.unset,.unset,.unset,.unset,.unset,.unset,.unset,.unset,.unset] [(.ref au)]) ep ?_
  refine o_ab 80 39 db a ?_
  refine o_l 82 40 db a ?_
  refine o_7 85 1 1 3 11 41 269 116 103 117 db a (o_dl l Z a0 hw [] au aE (cn+(1:Int32)) ce n0 (Nat.le_trans Z0 KP.1) f bT a7 g8 g_ g' cA _ bw aX) o_da g7 rfl fun _ jf jg cF ha=> ?_
  obtain ⟨rfl,hd,aG,he,hf,hg,hh⟩:=ha
  have hl:=Fr.app dC hd
  have f:=f.keep aG (allS bT all0)
  have KP:=KP.trans aG (allS (Or.inr cg) all0)
  have w:=w.keep aG
  have P:=P.keep aG (ninS bl nin0)
  have Q:=Q.keep aG (ninS bl nin0)
  have I:=I.keep aG (ninS bl nin0)
  have K:=K.keep aG (ninS dc nin0)
  have b:=b.keep aG
  have u:=u.keep aG (ninS bf nin0)
  have h:=h.keep aG (ninS bf nin0)
  have v:=v.keep aG (ninS bf nin0)
  have E:=E.keep aG (ninS cD nin0)
  have L:=L.keep aG
  have y:=y.keep aG (ninS cE nin0)
  have aW:=aW.keep aG
  have aX:=aX.keep aG (ninS bw nin0)
  refine o_k [_] ?_
  have a7:=he
  have bx:=hf
  have bK:=hg
  have bz:=hh
  refine o_1 87 42 #[_,_,_,_,_,_,_,_,_,_,_,_,_,_,_,_,_,_,_,_,_,_,_,_,_,_,_,_] cF a ?_
  refine o_l 89 43 cF a ?_
  refine o_c 90 44 cF a ?_
  refine o_h 93 45 113 cF a rfl I fun jh hm hn=> ?_
  refine o_R 96 46 113 102 hm a hn bz a7 (Or.inl (o_b hw 114 rfl)) (ty:= .int) fun jj hp cG hq ai=> ?_
  have ht:=Fr.snoc cG hl bT
  have hu:Fld Z hp au "java/math/MutableBigInteger" "intLen" "I" (.int cn):=bz.same ai
  have f:=f.wr ai bT
  have KP:=KP.wr ai (Or.inr cg)
  have w:=w.wr ai
  have P:=P.other ai (Or.inl bl)
  have Q:=Q.other ai (Or.inl bl)
  have I:=I.other ai (Or.inl bl)
  have K:=K.other ai dc
  have b:=b.wr ai
  have u:=u.other ai (Or.inl bf)
  have h:=h.other ai (Or.inl bf)
  have v:=v.other ai (Or.inl bf)
  have E:=E.other ai cD
  have L:=L.wr ai
  have y:=y.other ai cE
  have aW:=aW.wr ai
  have aX:=aX.other ai bw
  have a7:=a7.wr ai
  have bx:=bx.other ai (Or.inr (slot_ne (Or.inl (o_b hw 110 rfl)) (Or.inl (o_b hw 114 rfl)) (by decide) (t:= .int) (t':= .int) (by decide) (by decide)))
  have bK:=bK.other ai (Or.inr (slot_ne (Or.inl (o_b hw 112 rfl)) (Or.inl (o_b hw 114 rfl)) (by decide) (t:=(.array .int)) (t':= .int) (by decide) (by decide)))
  have bz:=hu
  refine o_l 98 47 cG a ?_
  refine o_g 99 48 1 cG a ?_
  refine o_R 102 49 109 102 cG a hq bx a7 (Or.inl (o_b hw 110 rfl)) (ty:= .int) fun jl er dd hv aj=> ?_
  have hy:=Fr.snoc dd ht bT
  have hz:Fld Z er au "java/math/MutableBigInteger" "offset" "I" (.int (1:Int32)):=bx.same aj
  have f:=f.wr aj bT
  have KP:=KP.wr aj (Or.inr cg)
  have w:=w.wr aj
  have P:=P.other aj (Or.inl bl)
  have Q:=Q.other aj (Or.inl bl)
  have I:=I.other aj (Or.inl bl)
  have K:=K.other aj dc
  have b:=b.wr aj
  have u:=u.other aj (Or.inl bf)
  have h:=h.other aj (Or.inl bf)
  have v:=v.other aj (Or.inl bf)
  have E:=E.other aj cD
  have L:=L.wr aj
  have y:=y.other aj cE
  have aW:=aW.wr aj
  have aX:=aX.other aj bw
  have a7:=a7.wr aj
  have bK:=bK.other aj (Or.inr (slot_ne (Or.inl (o_b hw 112 rfl)) (Or.inl (o_b hw 110 rfl)) (by decide) (t:=(.array .int)) (t':= .int) (by decide) (by decide)))
  have bz:=bz.other aj (Or.inr (slot_ne (Or.inl (o_b hw 114 rfl)) (Or.inl (o_b hw 110 rfl)) (by decide) (t:= .int) (t':= .int) (by decide) (by decide)))
  have bx:=hz
  refine o_c 103 50 dd a ?_
  refine o_h 106 51 111 dd a hv Q fun jm es hB=> ?_
  refine o_c 107 52 es a ?_
  refine o_h 110 53 109 es a hB P fun jn et hC=> ?_
  refine o_c 111 54 et a ?_
  refine o_h 114 55 113 et a hC I fun jo cH hD=> ?_
  refine o_l 116 56 cH a ?_
  refine o_g 117 57 1 cH a ?_
  refine o_d 119 58 cH a ?_
  refine o_F 122 6 0 3 11 59 266 267 103 268 cH a (o_gf l Z a0 hw [] aa aE cA (cn+(1:Int32)) cn (1:Int32) sh fa (fun _=>0) 1 n er n0 (Nat.le_trans Z0 KP.1) f ka cn ek g6 K aX hcn rfl (by omega) (by omega) (by omega) (by omega) (by omega)) o_fX hD fun _ jq jr eu hE=> ?_
  obtain ⟨rfl,hF,aL,hG⟩:=hE
  have hH:=Fr.app hy hF
  have f:=f.keep aL (allS ek all0)
  have KP:=KP.trans aL (allS (Or.inr da) all0)
  have w:=w.keep aL
  have b:=b.keep aL
  have u:=u.keep aL (ninS cB nin0)
  have h:=h.keep aL (ninS cB nin0)
  have v:=v.keep aL (ninS cB nin0)
  have E:=E.keep aL (ninS el nin0)
  have L:=L.keep aL
  have y:=y.keep aL (ninS em nin0)
  have aW:=aW.keep aL
  have a7:=a7.keep aL
  have bx:=bx.keep aL (ninS (Ne.symm bw) nin0)
  have bK:=bK.keep aL (ninS (Ne.symm bw) nin0)
  have bz:=bz.keep aL (ninS (Ne.symm bw) nin0)
  refine o_k [] ?_
  have aX:=hG
  refine o_w 323 60 eu a ?_
  exact J _ _ _ au aE cA cn (cn+(1:Int32)) fa n _ _ _ _ _ eu rfl hH f KP w b u h v E L y a7 bx bK bz aW aX cg da (Ne.symm bw) em cB el bf cE cD hcn hra ez hn4 rfl (o_h1 hn2 (o_m (fa 0)).1 hs hcs) ⟨rfl,rfl⟩ ⟨rfl,rfl⟩ ⟨rfl,rfl⟩ ⟨rfl,rfl⟩ ⟨rfl,rfl⟩
def o_ck (Z:State)(qx a:Addr)(A D:Int)(h0:Heap)(n0:Nat)(v:Option Value)(h:Heap)(L:List Loc):Prop:= ∃(rv:Int32) (qa:Addr) (kq:ClassId) (b c d:Int32) (G:Nat→Int32) (nq:Nat),v=some (.int rv)∧Fr n0 L∧Keep h0 h [qx,a]∧(qa=a∨h0.size≤qa)∧qx≠qa∧Exa Z h qx "java/math/MutableBigInteger"∧Fld Z h qx "java/math/MutableBigInteger" "offset" "I" (.int b)∧Fld Z h qx "java/math/MutableBigInteger" "value" "[I" (.ref qa)∧Fld Z h qx "java/math/MutableBigInteger" "intLen" "I" (.int c)∧o_x Z h qa kq d G∧Exa Z h qa "[I"∧d.toInt=(nq:Int)∧nq≤8∧o_a4 b c nq G∧o_n G nq=A/D∧(rv=0↔A%D=0)
theorem o_n' (l:Launch)(Z:State)(a0:Array Value)(hw: ∀d∈tables_1,d.before a0 Z=true)(ws:List Jvm.Cond)(mb qx f:Addr)(tt:Int32)(fa:Nat→Int32)(h0:Heap)(n0:Nat)(Z0:n0≤h0.size)(OL:Old Z n0 h0)(aa:Addr)(ka kq:ClassId)(G:n0≤qx)(K:n0≤f)(x:qx≠f)(ax:mb≠qx)(ay:aa≠qx)(aA:mb≠f)(aB:aa≠f)(aC:Exa Z h0 mb "java/math/MutableBigInteger")(L:Fld Z h0 mb "java/math/MutableBigInteger" "offset" "I" (.int (0:Int32)))(M:Fld Z h0 mb "java/math/MutableBigInteger" "value" "[I" (.ref aa))(N:Fld Z h0 mb "java/math/MutableBigInteger" "intLen" "I" (.int (1:Int32)))(O:o_x Z h0 aa ka (1:Int32) fa)(g:Exa Z h0 qx "java/math/MutableBigInteger")(h:Fld Z h0 qx "java/math/MutableBigInteger" "offset" "I" (.int (0:Int32)))(j:Fld Z h0 qx "java/math/MutableBigInteger" "value" "[I" (.ref f))(n:Fld Z h0 qx "java/math/MutableBigInteger" "intLen" "I" (.int (0:Int32)))(r:o_x Z h0 f kq (1:Int32) (fun _=>0))(u:Exa Z h0 f "[I")(ht0:0<o_a tt)(hle:o_a tt≤o_a (fa 0)):
  o_q l (⟨"java/math/MutableBigInteger","divideOneWord","(ILjava/math/MutableBigInteger;)I"⟩:MethodName) (Jvm.Cond.code (⟨"java/math/MutableBigInteger","divideOneWord","(ILjava/math/MutableBigInteger;)I"⟩:MethodName) jdk_2101_method_53_code 15 (some .int)::ws) ({frames:=1,cells:=1,slots:=4,locals:=24}:Room) #[(.ref mb),(.int tt),(.ref qx)] Z h0 (o_ck Z qx f (o_n fa 1) (o_a tt) h0 n0):=by
 refine o_u (plainFor_of_name o_ag) (fun m=>o_mb m mb tt qx) fun p e s m aD aE c s₁ hx H P R (S:s.vm.findClass "java/math/MutableBigInteger"=some m.cls) hnm hret X0 hZ e0=> ?_
 have D:=o_S H o_c5
 have a:=o_t hx H o_c5 S hZ R hw
 have N0:=Fr.nil n0
 have KP:Keep h0 h0 [qx,f]:=Keep.refl _ _
 have hnz:tt≠0:=o_aQ ht0
 refine o_e 1 0 X0 a ?_
 refine o_D 2 1 X0 a ?_
 refine o_y 5 214 2 X0 a ?_
 refine o_A 6 3 X0 a ?_
 generalize T:((tt.toInt64)&&&(4294967295:Int64))=dl
 have hdl:dl.toInt=o_a tt:=T▸o_2 tt
 have hln:dl≠0:=fun q=>by rw[q] at hdl;have o:(0:Int64).toInt=0:=rfl;omega
 have ut:=o_m tt
 refine o_bl 7 4 #[_,_,_,_,_,_,_,_,_,_,_,_,_,_,_] X0 a ?_
 refine o_c 8 5 X0 a ?_
 refine o_h 11 6 113 X0 a e0 N fun aF B U=> ?_
 refine o_g 12 7 1 B a ?_
 refine o_E 15 8 B a rfl (teq (by decide:(1:Int32)=(1:Int32))).2 ?_
 refine o_c 16 9 B a ?_
 refine o_h 19 10 111 B a U M fun aG I V=> ?_
 refine o_c 20 11 I a ?_
 refine o_h 23 12 109 I a V L fun W b J=> ?_
 refine o_ai 24 0 b hx hZ J O rfl (by decide) (D 13 rfl) rfl ?_
 refine o_D 25 14 b a ?_
 refine o_y 28 214 15 b a ?_
 refine o_A 29 16 b a ?_
 generalize X:(((fa 0).toInt64)&&&(4294967295:Int64))=A
 have hdv:A.toInt=o_a (fa 0):=X▸o_2 (fa 0)
 have ua:=o_m (fa 0)
 have LQ:=o_dM (o_fc (by omega)) hdl ht0 ut.2 (by rw[hdv];omega) (o_ff hdv)
 refine o_H 31 17 #[_,_,_,_,_,_,_,_,_,_,_,_,_,_,_] b a ?_
 refine o_j 33 18 b a ?_
 refine o_P 34 19 b a ?_
 refine o_i (T':=W) (mkF m 35 #[rv mb,iv tt,rv qx,.val (.long dl),.second,.val (.long A),.second,.unset,.unset,.unset,.unset,.unset,.unset,.unset,.unset] [(.long (A/dl))]) (fun _ k=>XS.ldiv b.here hx rfl (D 20 rfl) rfl hln k) ?_
 refine o_X 36 21 b a ?_
 generalize Y:((A/dl).toInt32)=qd
 refine o_o 38 22 #[_,_,_,_,_,_,_,_,_,_,_,_,_,_,_] b a ?_
 refine o_j 40 23 b a ?_
 refine o_d 42 24 b a ?_
 refine o_D 43 25 b a ?_
 refine o_P 44 26 b a ?_
 refine o_ah 45 27 b a ?_
 refine o_aK 46 28 b a ?_
 refine o_X 47 29 b a ?_
 generalize ad:((A-((qd.toInt64)*dl)).toInt32)=rn
 rw[Y,ad,hdv] at LQ
 have hq0: ¬qd=0:=o_io (q:=0) ht0 LQ.1 hle
 refine o_o 49 30 #[_,_,_,_,_,_,_,_,_,_,_,_,_,_,_] b a ?_
 refine o_c 50 31 b a ?_
 refine o_h 53 32 111 b a J j fun aH E ae=> ?_
 refine o_g 54 33 0 E a ?_
 refine o_d 56 34 E a ?_
 refine o_as 57 0 E hx hZ ae r rfl (by decide) (D 35 rfl) rfl fun aI aJ y af z ag=> ?_
 have ah:=Fr.snoc y N0 K
 have KP:=KP.wr z (Or.inl (List.mem_of_getElem? (i:=1) rfl))
 have g:=g.wr z
 have h:=h.other z (Or.inl x)
 have j:=j.other z (Or.inl x)
 have n:=n.other z (Or.inl x)
 have u:=u.wr z
 have r:=ag
 refine o_c 58 36 y a ?_
 refine o_d 60 37 y a ?_
 refine o_p 67 38 y a rfl ((if0 _ _).trans (feq hq0).2) ?_
 refine o_g 68 41 1 y a ?_
 refine o_R 71 42 113 102 y a af n g (Or.inl (o_b hw 114 rfl)) (ty:= .int) fun aK ai C aj v=> ?_
 have ak:=Fr.snoc C ah G
 have al:Fld Z ai qx "java/math/MutableBigInteger" "intLen" "I" (.int (1:Int32)):=n.same v
 have KP:=KP.wr v (Or.inl (List.mem_of_getElem? (i:=0) rfl))
 have g:=g.wr v
 have h:=h.other v (Or.inr (slot_ne (Or.inl (o_b hw 110 rfl)) (Or.inl (o_b hw 114 rfl)) (by decide) (t:= .int) (t':= .int) (by decide) (by decide)))
 have j:=j.other v (Or.inr (slot_ne (Or.inl (o_b hw 112 rfl)) (Or.inl (o_b hw 114 rfl)) (by decide) (t:=(.array .int)) (t':= .int) (by decide) (by decide)))
 have r:=r.other v (Ne.symm x)
 have u:=u.wr v
 have n:=al
 refine o_c 72 43 C a ?_
 refine o_g 73 44 0 C a ?_
 refine o_R 76 45 109 102 C a aj h g (Or.inl (o_b hw 110 rfl)) (ty:= .int) fun aL am F ao w=> ?_
 have aq:=Fr.snoc F ak G
 have au:Fld Z am qx "java/math/MutableBigInteger" "offset" "I" (.int (0:Int32)):=h.same w
 have KP:=KP.wr w (Or.inl (List.mem_of_getElem? (i:=0) rfl))
 have g:=g.wr w
 have j:=j.other w (Or.inr (slot_ne (Or.inl (o_b hw 112 rfl)) (Or.inl (o_b hw 110 rfl)) (by decide) (t:=(.array .int)) (t':= .int) (by decide) (by decide)))
 have n:=n.other w (Or.inr (slot_ne (Or.inl (o_b hw 114 rfl)) (Or.inl (o_b hw 110 rfl)) (by decide) (t:= .int) (t':= .int) (by decide) (by decide)))
 have r:=r.other w (Ne.symm x)
 have u:=u.wr w
 have h:=au
 refine o_d 78 46 F a ?_
 have DD:=o_cV ht0 LQ.1 LQ.2
 obtain ⟨fq,fr⟩:=o_fd (Q:=o_a qd) ht0 DD.1 DD.2.2
 have v1:o_n fa 1=o_a (fa 0):=by show 0*4294967296+o_a (fa 0)=_;omega
 exact o_W 47 F a hret P (by rw[ao];exact ⟨rn,f,kq,(0:Int32),(1:Int32),(1:Int32),_,1,rfl,aq,KP,Or.inl rfl,x,g,h,j,n,r,u,rfl,by omega,o_fe hq0,by rw[v1,←fq];show 0*4294967296+o_a qd=_;omega,by rw[v1];exact fr⟩)
theorem o_oa (l:Launch)(Z:State)(a0:Array Value)(hw: ∀d∈tables_1,d.before a0 Z=true)(ws:List Jvm.Cond)(mb qx N:Addr)(tt:Int32)(fa:Nat→Int32)(n:Nat)(h0:Heap)(n0:Nat)(Z0:n0≤h0.size)(B:Old Z n0 h0)(cn:Int32)(aa:Addr)(ka kq:ClassId)(ak:n0≤qx)(cD:n0≤N)(cE:qx≠N)(Y:mb≠qx)(aM:aa≠qx)(cF:mb≠N)(cG:aa≠N)(I:Exa Z h0 mb "java/math/MutableBigInteger")(E:Fld Z h0 mb "java/math/MutableBigInteger" "offset" "I" (.int (0:Int32)))(F:Fld Z h0 mb "java/math/MutableBigInteger" "value" "[I" (.ref aa))(v:Fld Z h0 mb "java/math/MutableBigInteger" "intLen" "I" (.int cn))(C:o_x Z h0 aa ka cn fa)(f:Exa Z h0 qx "java/math/MutableBigInteger")(w:Fld Z h0 qx "java/math/MutableBigInteger" "offset" "I" (.int (0:Int32)))(h:Fld Z h0 qx "java/math/MutableBigInteger" "value" "[I" (.ref N))(x:Fld Z h0 qx "java/math/MutableBigInteger" "intLen" "I" (.int (0:Int32)))(aX:o_x Z h0 N kq (1:Int32) (fun _=>0))(cH:Exa Z h0 N "[I")(ht0:0<o_a tt)(hcn:cn.toInt=n)(cI:2≤n)(hn4:n≤4):
  o_q l (⟨"java/math/MutableBigInteger","divideOneWord","(ILjava/math/MutableBigInteger;)I"⟩:MethodName) (Jvm.Cond.code (⟨"java/math/MutableBigInteger","divideOneWord","(ILjava/math/MutableBigInteger;)I"⟩:MethodName) jdk_2101_method_53_code 15 (some .int)::ws) ({frames:=1,cells:=1,slots:=4,locals:=24}:Room) #[(.ref mb),(.int tt),(.ref qx)] Z h0 (o_ck Z qx N (o_n fa n) (o_a tt) h0 n0):=by
 refine o_u (plainFor_of_name o_ag) (fun m=>o_mc m mb tt qx) fun p e s m ao aN c s₁ hx aY aZ bu (bv:s.vm.findClass "java/math/MutableBigInteger"=some m.cls) hnm hret X0 hZ e0=> ?_
 have D:=o_S aY o_c5
 have a:=o_t hx aY o_c5 bv hZ bu hw
 have N0:=Fr.nil n0
 have KP:Keep h0 h0 [qx,N]:=Keep.refl _ _
 have hnz:tt≠0:=o_aQ ht0
 refine o_e 1 0 X0 a ?_
 refine o_D 2 1 X0 a ?_
 refine o_y 5 214 2 X0 a ?_
 refine o_A 6 3 X0 a ?_
 generalize bw:((tt.toInt64)&&&(4294967295:Int64))=dl
 have hdl:dl.toInt=o_a tt:=bw▸o_2 tt
 have hln:dl≠0:=fun q=>by rw[q] at hdl;have o:(0:Int64).toInt=0:=rfl;omega
 have ut:=o_m tt
 refine o_bl 7 4 #[_,_,_,_,_,_,_,_,_,_,_,_,_,_,_] X0 a ?_
 refine o_c 8 5 X0 a ?_
 refine o_h 11 6 113 X0 a e0 v fun cJ aE bx=> ?_
 refine o_g 12 7 1 aE a ?_
 refine o_z 79 8 aE a rfl (feq (o_ip (j:=1) hcn rfl (by omega))).2 ?_
 refine o_c 80 48 aE a ?_
 refine o_h 83 49 111 aE a bx h fun cK aO a5=> ?_
 refine o_C 84 50 aO a a5 aX ?_
 refine o_c 85 51 aO a ?_
 refine o_h 88 52 113 aO a a5 v fun cL aF bz=> ?_
 refine o_E 91 53 aF a rfl (tlt (o_aA (i:=1) rfl hcn (by omega))).2.1 ?_
 refine o_c 92 54 aF a ?_
 refine o_c 93 55 aF a ?_
 refine o_h 96 56 113 aF a bz v fun cM bA bB=> ?_
 obtain ⟨cN,a6,aq,bC,bD,X,a7,a8,a9⟩:=newPE bA hx hZ (o_b hw 52 rfl) bB (g:=(mkF m 96 #[rv mb,iv tt,rv qx,.val (.long dl),.second,.unset,.unset,.unset,.unset,.unset,.unset,.unset,.unset,.unset,.unset] [(.int cn),(.ref qx)])) rfl (D 57 rfl) rfl (o_an (j:=0) hcn rfl (by omega)) (cap:=4) (by rw[o_aT hcn];omega) (by decide) (by decide) (by decide) (ad:="[I") (by decide)
 obtain ⟨K,au⟩: ∃z,z=h0.size:=⟨_,rfl⟩
 rw[←au] at a7 a8 a9
 have av:h0.size≤K:=Nat.le_trans KP.1 (Nat.le_of_eq au.symm)
 have aw:n0≤K:=Nat.le_trans Z0 av
 have ae:mb≠K:=Nat.ne_of_lt (Nat.lt_of_lt_of_le I.lt (Nat.le_of_eq au.symm))
 have aP:aa≠K:=Nat.ne_of_lt (Nat.lt_of_lt_of_le C.lt (Nat.le_of_eq au.symm))
 have L:qx≠K:=Nat.ne_of_lt (Nat.lt_of_lt_of_le f.lt (Nat.le_of_eq au.symm))
 have cO:N≠K:=Nat.ne_of_lt (Nat.lt_of_lt_of_le aX.lt (Nat.le_of_eq au.symm))
 have B:=B.ext X
 have KP:=KP.ext X
 have I:=I.ext X
 have E:=E.ext X
 have F:=F.ext X
 have v:=v.ext X
 have C:=C.ext X
 have f:=f.ext X
 have w:=w.ext X
 have h:=h.ext X
 have x:=x.ext X
 have H:Exa Z a6 K "[I":=a8
 have y:o_x Z a6 K aq cn (fun _=>0):=o_bQ (Arv.new a7 (o_an (j:=0) hcn rfl (by omega)))
 refine o_i (mkF m 98 #[rv mb,iv tt,rv qx,.val (.long dl),.second,.unset,.unset,.unset,.unset,.unset,.unset,.unset,.unset,.unset,.unset] [(.ref K),(.ref qx)]) a9 ?_
 refine o_R 101 58 111 102 bC a bD h f (Or.inl (o_b hw 112 rfl)) (ty:=(.array .int)) fun cP bE aG bF P=> ?_
 have bG:=Fr.snoc aG N0 ak
 have bH:Fld Z bE qx "java/math/MutableBigInteger" "value" "[I" (.ref K):=h.same P
 have B:=B.wr P ak
 have KP:=KP.wr P (Or.inl (List.mem_of_getElem? (i:=0) rfl))
 have I:=I.wr P
 have E:=E.other P (Or.inl Y)
 have F:=F.other P (Or.inl Y)
 have v:=v.other P (Or.inl Y)
 have C:=C.other P aM
 have f:=f.wr P
 have w:=w.other P (Or.inr (slot_ne (Or.inl (o_b hw 110 rfl)) (Or.inl (o_b hw 112 rfl)) (by decide) (t:= .int) (t':=(.array .int)) (by decide) (by decide)))
 have x:=x.other P (Or.inr (slot_ne (Or.inl (o_b hw 114 rfl)) (Or.inl (o_b hw 112 rfl)) (by decide) (t:= .int) (t':=(.array .int)) (by decide) (by decide)))
 have H:=H.wr P
 have y:=y.other P (Ne.symm L)
 have h:=bH
 refine o_c 102 59 aG a ?_
 refine o_g 103 60 0 aG a ?_
 refine o_R 106 61 109 102 aG a bF w f (Or.inl (o_b hw 110 rfl)) (ty:= .int) fun cQ bI aH bJ Q=> ?_
 have bK:=Fr.snoc aH bG ak
 have bL:Fld Z bI qx "java/math/MutableBigInteger" "offset" "I" (.int (0:Int32)):=w.same Q
 have B:=B.wr Q ak
 have KP:=KP.wr Q (Or.inl (List.mem_of_getElem? (i:=0) rfl))
 have I:=I.wr Q
 have E:=E.other Q (Or.inl Y)
 have F:=F.other Q (Or.inl Y)
 have v:=v.other Q (Or.inl Y)
 have C:=C.other Q aM
 have f:=f.wr Q
 have h:=h.other Q (Or.inr (slot_ne (Or.inl (o_b hw 112 rfl)) (Or.inl (o_b hw 110 rfl)) (by decide) (t:=(.array .int)) (t':= .int) (by decide) (by decide)))
 have x:=x.other Q (Or.inr (slot_ne (Or.inl (o_b hw 114 rfl)) (Or.inl (o_b hw 110 rfl)) (by decide) (t:= .int) (t':= .int) (by decide) (by decide)))
 have H:=H.wr Q
 have y:=y.other Q (Ne.symm L)
 have w:=bL
 refine o_c 107 62 aH a ?_
 refine o_c 108 63 aH a ?_
 refine o_h 111 64 113 aH a bJ v fun cR bM bN=> ?_
 refine o_R 114 65 113 102 bM a bN x f (Or.inl (o_b hw 114 rfl)) (ty:= .int) fun cS a_ aQ bO R=> ?_
 have bP:=Fr.snoc aQ bK ak
 have bQ:Fld Z a_ qx "java/math/MutableBigInteger" "intLen" "I" (.int cn):=x.same R
 have B:=B.wr R ak
 have KP:=KP.wr R (Or.inl (List.mem_of_getElem? (i:=0) rfl))
 have I:=I.wr R
 have E:=E.other R (Or.inl Y)
 have F:=F.other R (Or.inl Y)
 have v:=v.other R (Or.inl Y)
 have C:=C.other R aM
 have f:=f.wr R
 have w:=w.other R (Or.inr (slot_ne (Or.inl (o_b hw 110 rfl)) (Or.inl (o_b hw 114 rfl)) (by decide) (t:= .int) (t':= .int) (by decide) (by decide)))
 have h:=h.other R (Or.inr (slot_ne (Or.inl (o_b hw 112 rfl)) (Or.inl (o_b hw 114 rfl)) (by decide) (t:=(.array .int)) (t':= .int) (by decide) (by decide)))
 have H:=H.wr R
 have y:=y.other R (Ne.symm L)
 have x:=bQ
 refine o_e 115 66 aQ a ?_
 refine o_F 118 1 0 1 4 67 215 216 47 217 aQ a (o_di l Z a0 hw [] tt a_ n0 (Nat.le_trans Z0 KP.1) B) o_aN bO fun _ cT cU aR bR=> ?_
 obtain ⟨sh,rfl,bS,bT,hns⟩:=bR
 have a':=Fr.app bP bS
 refine o_k [_] ?_
 refine o_o 120 68 #[_,_,_,_,_,_,_,_,_,_,_,_,_,_,_] aR a ?_
 refine o_c 121 69 aR a ?_
 refine o_h 124 70 111 aR a bT F fun cV bb bU=> ?_
 refine o_c 125 71 bb a ?_
 refine o_h 128 72 109 bb a bU E fun cW M aS=> ?_
 refine o_ai 129 0 M hx hZ aS C rfl (by omega) (D 73 rfl) rfl ?_
 refine o_o 131 74 #[_,_,_,_,_,_,_,_,_,_,_,_,_,_,_] M a ?_
 refine o_d 133 75 M a ?_
 refine o_D 134 76 M a ?_
 refine o_y 137 214 77 M a ?_
 refine o_A 138 78 M a ?_
 have J: ∀(T_:State) (u:Heap) (L_:List Loc) (q0 am:Int32),Stand p l e ({frames:=1,cells:=1,slots:=4,locals:=24}:Room) s m #[(.ref mb),(.int tt),(.ref qx)] ao aN c T_ L_ 1 4→T_.heap=u→Fr n0 L_→Old Z n0 u→Keep h0 u [qx,N]→Exa Z u mb "java/math/MutableBigInteger"→Fld Z u mb "java/math/MutableBigInteger" "offset" "I" (.int (0:Int32))→Fld Z u mb "java/math/MutableBigInteger" "value" "[I" (.ref aa)→Fld Z u mb "java/math/MutableBigInteger" "intLen" "I" (.int cn)→o_x Z u aa ka cn fa→Exa Z u qx "java/math/MutableBigInteger"→Fld Z u qx "java/math/MutableBigInteger" "offset" "I" (.int (0:Int32))→Fld Z u qx "java/math/MutableBigInteger" "value" "[I" (.ref K)→Fld Z u qx "java/math/MutableBigInteger" "intLen" "I" (.int cn)→Exa Z u K "[I"→o_x Z u K aq cn (o_T (fun _=>0) 0 q0)→o_bS (o_a (fa 0)) (o_a tt) (o_a q0) (o_a am)→o_f p e ao (o_V s (o_ck Z qx N (o_n fa n) (o_a tt) h0 n0) ({frames:=1,cells:=1,slots:=4,locals:=24}:Room).cells ({frames:=1,cells:=1,slots:=4,locals:=24}:Room).slots) T_ (mkF m 192 #[rv mb,iv tt,rv qx,.val (.long dl),.second,iv sh,iv am,.val (.long ((am.toInt64)&&&(4294967295:Int64))),.second,.unset,.unset,.unset,.unset,.unset,.unset] []):=by
  intro cX cY cZ q0 am bd bV bW B KP I E F v C f w h x H y D0
  refine o_c 193 114 bd a ?_
  refine o_h 196 115 113 bd a bV v fun c0 be bX=> ?_
  refine o_o 198 116 #[_,_,_,_,_,_,_,_,_,_,_,_,_,_,_] be a ?_
  have LP: ∀r:Nat,∀(T_:State) (u:Heap) (L_:List Loc) (G:Nat→Int32) (A jx:Int32) (i:Nat) (g10 g11 g12 g13 g14:Slot),Stand p l e ({frames:=1,cells:=1,slots:=4,locals:=24}:Room) s m #[(.ref mb),(.int tt),(.ref qx)] ao aN c T_ L_ 1 4→T_.heap=u→Fr n0 L_→Old Z n0 u→Keep h0 u [qx,N]→Exa Z u mb "java/math/MutableBigInteger"→Fld Z u mb "java/math/MutableBigInteger" "offset" "I" (.int (0:Int32))→Fld Z u mb "java/math/MutableBigInteger" "value" "[I" (.ref aa)→Fld Z u mb "java/math/MutableBigInteger" "intLen" "I" (.int cn)→o_x Z u aa ka cn fa→Exa Z u qx "java/math/MutableBigInteger"→Fld Z u qx "java/math/MutableBigInteger" "offset" "I" (.int (0:Int32))→Fld Z u qx "java/math/MutableBigInteger" "value" "[I" (.ref K)→Fld Z u qx "java/math/MutableBigInteger" "intLen" "I" (.int cn)→Exa Z u K "[I"→o_x Z u K aq cn G→i+r=n→1≤i→jx.toInt=((n-i+1:Nat):Int)→o_n fa i=o_n G i*o_a tt+o_a A→o_a A<o_a tt→o_cU g10 g11→o_9 g12→o_cU g13 g14→o_f p e ao (o_V s (o_ck Z qx N (o_n fa n) (o_a tt) h0 n0) ({frames:=1,cells:=1,slots:=4,locals:=24}:Room).cells ({frames:=1,cells:=1,slots:=4,locals:=24}:Room).slots) T_ (mkF m 198 #[rv mb,iv tt,rv qx,.val (.long dl),.second,iv sh,iv A,.val (.long ((A.toInt64)&&&(4294967295:Int64))),.second,iv jx,g10,g11,g12,g13,g14] []):=by
   intro r
   induction r with
   |zero=>
    intro c2 bY c3 G A jx i g10 g11 g12 g13 g14 aB bZ b0 B KP I E F v C f w h x H y hr b5 aC hV hrw p10 c12 p13
    refine o_G 201 117 #[_,_,_,_,_,_,_,_,_,iv (jx+(-1:Int32)),_,_,_,_,_] aB a ?_
    generalize aD:(jx+(-1:Int32))=S
    have ax:S.toInt=((n-i:Nat):Int):=aD▸o_dK aC
    clear aD aC
    refine o_d 203 118 aB a ?_
    refine o_p 315 119 aB a rfl ((if0 _ _).trans (flt (o_iq ax (by omega))).2.2.2) ?_
    obtain rfl:i=n:=by omega
    refine o_c 316 184 aB a ?_
    refine o_aq 319 0 0 1 4 185 219 220 222 221 103 223 aB a (o_d7 l Z a0 hw [] qx K G i bY n0 (Nat.le_trans Z0 KP.1) B aq cn cn ak (Ne.symm L) f w h x y hcn (by omega) (by omega) (by omega)) o_be bZ f fun _ b6 c4 af b7=> ?_
    obtain ⟨rfl,b8,aI,oq,lq,-,w,h,x,bh⟩:=b7
    have bj:=Fr.app b0 b8
    have KP:=KP.trans aI (allS (Or.inl (List.mem_of_getElem? (i:=0) rfl)) all0)
    have f:=f.keep aI
    have H:=H.keep aI
    have y:=y.keep aI (ninS (Ne.symm L) nin0)
    refine o_k [] ?_
    refine o_d 321 186 af a ?_
    obtain ⟨fq,fr⟩:=o_fd ht0 hV hrw
    by_cases hsp:(0:Int32)<sh
    ·refine o_r 324 187 af a rfl ((if0 _ _).trans (tlt hsp).2.2.2) ?_
     refine o_d 326 188 af a ?_
     refine o_e 327 189 af a ?_
     refine o_i (T':=b6) (mkF m 328 #[rv mb,iv tt,rv qx,.val (.long dl),.second,iv sh,iv A,.val (.long ((A.toInt64)&&&(4294967295:Int64))),.second,iv S,g10,g11,g12,g13,g14] [(.int (A%tt))]) (fun _ k=>iremM af hx rfl (D 190 rfl) rfl hnz k) ?_
     rw[o_in hns ht0 hsp hrw]
     exact o_W 191 af a hret aZ (by exact ⟨A,K,aq,oq,lq,cn,G,i,rfl,bj,KP,Or.inr av,L,f,w,h,x,y,H,hcn,by omega,bh,fq,fr⟩)
    ·refine o_p 329 187 af a rfl ((if0 _ _).trans (flt hsp).2.2.2) ?_
     refine o_d 331 192 af a ?_
     exact o_W 193 af a hret aZ (by exact ⟨A,K,aq,oq,lq,cn,G,i,rfl,bj,KP,Or.inr av,L,f,w,h,x,y,H,hcn,by omega,bh,fq,fr⟩)
   |succ r IH=>
    intro c5 bl c6 G A jx i g10 g11 g12 g13 g14 ah b9 bm B KP I E F v C f w h x H y hr b5 aC hV hrw p10 c12 p13
    refine o_G 201 117 #[_,_,_,_,_,_,_,_,_,iv (jx+(-1:Int32)),_,_,_,_,_] ah a ?_
    generalize aD:(jx+(-1:Int32))=S
    have ax:S.toInt=((n-i:Nat):Int):=aD▸o_dK aC
    clear aD aC
    refine o_d 203 118 ah a ?_
    refine o_r 206 119 ah a rfl ((if0 _ _).trans (tlt (o_aA (i:=0) rfl ax (by omega))).2.2.2) ?_
    refine o_j 208 120 ah a ?_
    refine o_B 210 121 32 ah a ?_
    refine o_ay 211 122 ah a ?_
    refine o_c 212 123 ah a ?_
    refine o_h 215 124 111 ah a b9 F fun c7 bn b_=> ?_
    refine o_c 216 125 bn a ?_
    refine o_h 219 126 109 bn a b_ E fun c8 bo b'=> ?_
    refine o_c 220 127 bo a ?_
    refine o_h 223 128 113 bo a b' v fun ca b aT=> ?_
    refine o_v 224 129 b a ?_
    refine o_d 226 130 b a ?_
    refine o_J 227 131 b a ?_
    have hix:((0:Int32)+cn-S).toInt=(i:Int):=by rw[o_cT];exact (o_aV hcn ax (by omega)).trans (by omega)
    have hiy:(cn-S).toInt=(i:Int):=(o_aV hcn ax (by omega)).trans (by omega)
    refine o_ai 228 i b hx hZ aT C hix (by omega) (D 132 rfl) rfl ?_
    refine o_D 229 133 b a ?_
    refine o_y 232 214 134 b a ?_
    refine o_A 233 135 b a ?_
    refine o_a0 234 136 b a ?_
    have eU:=o_bH A (fa i)
    have eL:=o_im (ai:=fa i) hrw
    generalize cb:((((A.toInt64)&&&(4294967295:Int64))<<<((32:Int32)&&&0x3f).toInt64)|||(((fa i).toInt64)&&&(4294967295:Int64)))=es
    rw[cb] at eU eL
    refine o_fb 236 10 #[rv mb,iv tt,rv qx,.val (.long dl),.second,iv sh,iv A,.val (.long ((A.toInt64)&&&(4294967295:Int64))),.second,iv S,.val (.long es),.second,g12,g13,g14] b hx (D 137 rfl) rfl rfl p10 rfl rfl ?_
    refine o_j 238 138 b a ?_
    refine o_ac 239 139 0 b a ?_
    refine o_3 240 140 b a ?_
    suffices jn: ∀(aJ:State) (aU:List Loc),Stand p l e ({frames:=1,cells:=1,slots:=4,locals:=24}:Room) s m #[(.ref mb),(.int tt),(.ref qx)] ao aN c aJ aU 1 4→Fr n0 aU→aJ.heap=bl→ ∀(qd rn:Int32) (y13 bp:Slot),o_cU y13 bp→o_bS (o_a A*4294967296+o_a (fa i)) (o_a tt) (o_a qd) (o_a rn)→o_f p e ao (o_V s (o_ck Z qx N (o_n fa n) (o_a tt) h0 n0) ({frames:=1,cells:=1,slots:=4,locals:=24}:Room).cells ({frames:=1,cells:=1,slots:=4,locals:=24}:Room).slots) aJ (mkF m 289 #[rv mb,iv tt,rv qx,.val (.long dl),.second,iv sh,iv rn,.val (.long ((A.toInt64)&&&(4294967295:Int64))),.second,iv S,.val (.long es),.second,iv qd,y13,bp] []) from by
     by_cases hneg:(lcmpW es (0:Int64))<(0:Int32)
     ·refine o_p 264 141 b a rfl ((if0 _ _).trans (tlt hneg).1) ?_
      refine o_j 266 156 b a ?_
      refine o_e 267 157 b a ?_
      refine o_F 270 2 0 1 4 158 295 296 103 297 b a (o_d1 l Z a0 hw [] es tt bl n0 (Nat.le_trans Z0 KP.1) B (o_il hneg eL) eL) o_dW aT fun _ c9 c_ T cd=> ?_
      obtain ⟨rx,rfl,ce,cg,hw1,hw2⟩:=cd
      have ci:=Fr.app bm ce
      refine o_k [_] ?_
      refine o_fb 272 13 #[rv mb,iv tt,rv qx,.val (.long dl),.second,iv sh,iv A,.val (.long ((A.toInt64)&&&(4294967295:Int64))),.second,iv S,.val (.long es),.second,g12,.val (.long rx),.second] T hx (D 159 rfl) rfl rfl p13 rfl rfl ?_
      refine o_j 274 160 T a ?_
      refine o_y 277 214 161 T a ?_
      refine o_A 278 162 T a ?_
      refine o_X 279 163 T a ?_
      refine o_az 281 12 #[rv mb,iv tt,rv qx,.val (.long dl),.second,iv sh,iv A,.val (.long ((A.toInt64)&&&(4294967295:Int64))),.second,iv S,.val (.long es),.second,iv ((rx&&&(4294967295:Int64)).toInt32),.val (.long rx),.second] T hx (D 164 rfl) rfl c12 rfl rfl ?_
      refine o_j 283 165 T a ?_
      refine o_B 285 166 32 T a ?_
      refine o_ak 286 167 T a ?_
      refine o_X 287 168 T a ?_
      refine o_o 289 169 #[_,_,_,_,_,_,_,_,_,_,_,_,_,_,_] T a ?_
      rw[eU] at hw1 hw2
      exact jn _ _ T ci cg _ _ _ _ ⟨rfl,rfl,rfl⟩ (o_cV ht0 (o_ir hw1) (o_is hw2))
     ·refine o_r 243 141 b a rfl ((if0 _ _).trans (flt hneg).1) ?_
      refine o_j 245 142 b a ?_
      refine o_P 246 143 b a ?_
      refine o_i (T':=ca) (mkF m 247 #[rv mb,iv tt,rv qx,.val (.long dl),.second,iv sh,iv A,.val (.long ((A.toInt64)&&&(4294967295:Int64))),.second,iv S,.val (.long es),.second,g12,g13,g14] [(.long (es/dl))]) (fun _ k=>XS.ldiv b.here hx rfl (D 144 rfl) rfl hln k) ?_
      refine o_X 248 145 b a ?_
      refine o_az 250 12 #[rv mb,iv tt,rv qx,.val (.long dl),.second,iv sh,iv A,.val (.long ((A.toInt64)&&&(4294967295:Int64))),.second,iv S,.val (.long es),.second,iv ((es/dl).toInt32),g13,g14] b hx (D 146 rfl) rfl c12 rfl rfl ?_
      refine o_j 252 147 b a ?_
      refine o_d 254 148 b a ?_
      refine o_D 255 149 b a ?_
      refine o_P 256 150 b a ?_
      refine o_ah 257 151 b a ?_
      refine o_aK 258 152 b a ?_
      refine o_X 259 153 b a ?_
      refine o_o 261 154 #[_,_,_,_,_,_,_,_,_,_,_,_,_,_,_] b a ?_
      refine o_w 289 155 b a ?_
      have LQ:=o_dM eU hdl ht0 ut.2 (by rw[←eU];exact eL) hneg
      exact jn _ _ b bm aT _ _ _ _ p13 (o_cV ht0 LQ.1 LQ.2)
    intro aJ aU bq cj ck qd rn g13 g14 p13 DD
    refine o_c 290 170 bq a ?_
    refine o_h 293 171 111 bq a ck h fun c' br cl=> ?_
    refine o_c 294 172 br a ?_
    refine o_h 297 173 113 br a cl v fun da aK cm=> ?_
    refine o_d 299 174 aK a ?_
    refine o_J 300 175 aK a ?_
    refine o_d 302 176 aK a ?_
    refine o_as 303 i aK hx hZ cm y hiy (by omega) (D 177 rfl) rfl fun db dc aj co U cp=> ?_
    have cq:=Fr.snoc aj cj aw
    have B:=B.wr U aw
    have KP:=KP.wr U (Or.inr av)
    have I:=I.wr U
    have E:=E.other U (Or.inl ae)
    have F:=F.other U (Or.inl ae)
    have v:=v.other U (Or.inl ae)
    have C:=C.other U aP
    have f:=f.wr U
    have w:=w.other U (Or.inl L)
    have h:=h.other U (Or.inl L)
    have x:=x.other U (Or.inl L)
    have H:=H.wr U
    have y:=cp
    refine o_d 305 178 aj a ?_
    refine o_D 306 179 aj a ?_
    refine o_y 309 214 180 aj a ?_
    refine o_A 310 181 aj a ?_
    refine o_H 312 182 #[_,_,_,_,_,_,_,_,_,_,_,_,_,_,_] aj a ?_
    refine o_w 198 183 aj a ?_
    exact IH _ _ _ _ rn S (i+1) _ _ _ _ _ aj co cq B KP I E F v C f w h x H y (by omega) (by omega) (ax.trans (by omega)) (o_it hV DD) DD.2.2 ⟨rfl,rfl,rfl⟩ ⟨rfl,rfl⟩ p13
  exact LP (n-1) _ _ _ _ am cn 1 .unset .unset .unset .unset .unset be bX bW B KP I E F v C f w h x H y (by omega) (by omega) (hcn.trans (by omega)) (o_iu D0) D0.2.2 ⟨rfl,rfl,rfl⟩ ⟨rfl,rfl⟩ ⟨rfl,rfl,rfl⟩
 have m0:((fa 0).toInt64&&&(4294967295:Int64)).toInt=o_a (fa 0):=o_2 (fa 0)
 have ua:=o_m (fa 0)
 refine o_H 140 79 #[_,_,_,_,_,_,_,_,_,_,_,_,_,_,_] M a ?_
 refine o_j 142 80 M a ?_
 refine o_P 143 81 M a ?_
 refine o_3 144 82 M a ?_
 by_cases hcm:(lcmpW (((fa 0).toInt64)&&&(4294967295:Int64)) dl)<(0:Int32)
 ·refine o_r 147 83 M a rfl ((if0 _ _).trans (tlt hcm).2.1) ?_
  have l0:=o_aJ hcm
  rw[m0,hdl] at l0
  refine o_c 148 84 M a ?_
  refine o_h 151 85 111 M a aS h fun dd aV cr=> ?_
  refine o_g 152 86 0 aV a ?_
  refine o_g 153 87 0 aV a ?_
  refine o_as 154 0 aV hx hZ cr y rfl (by omega) (D 88 rfl) rfl fun de df aW ct V cu=> ?_
  have cv:=Fr.snoc aW a' aw
  have B:=B.wr V aw
  have KP:=KP.wr V (Or.inr av)
  have I:=I.wr V
  have E:=E.other V (Or.inl ae)
  have F:=F.other V (Or.inl ae)
  have v:=v.other V (Or.inl ae)
  have C:=C.other V aP
  have f:=f.wr V
  have w:=w.other V (Or.inl L)
  have h:=h.other V (Or.inl L)
  have x:=x.other V (Or.inl L)
  have H:=H.wr V
  have y:=cu
  refine o_w 192 89 aW a ?_
  exact J _ _ _ (0:Int32) (fa 0) aW ct cv B KP I E F v C f w h x H y ⟨by rw[show o_a (0:Int32)=0 from rfl];omega,ua.1,l0⟩
 ·refine o_p 157 83 M a rfl ((if0 _ _).trans (flt hcm).2.1) ?_
  have LQ:=o_dM (o_fc (by omega)) hdl ht0 ut.2 (by rw[m0];omega) (o_ff m0)
  refine o_c 158 90 M a ?_
  refine o_h 161 91 111 M a aS h fun cw ay cx=> ?_
  refine o_g 162 92 0 ay a ?_
  refine o_j 164 93 ay a ?_
  refine o_P 165 94 ay a ?_
  refine o_i (T':=cw) (mkF m 166 #[rv mb,iv tt,rv qx,.val (.long dl),.second,iv sh,iv (fa 0),.val (.long (((fa 0).toInt64)&&&(4294967295:Int64))),.second,.unset,.unset,.unset,.unset,.unset,.unset] [(.long ((((fa 0).toInt64)&&&(4294967295:Int64))/dl)),(.int (0:Int32)),(.ref K)]) (fun _ k=>XS.ldiv ay.here hx rfl (D 95 rfl) rfl hln k) ?_
  refine o_X 167 96 ay a ?_
  generalize cy:(((((fa 0).toInt64)&&&(4294967295:Int64))/dl).toInt32)=q0
  refine o_as 168 0 ay hx hZ cx y rfl (by omega) (D 97 rfl) rfl fun dg dh aL cz W cA=> ?_
  have cB:=Fr.snoc aL a' aw
  have B:=B.wr W aw
  have KP:=KP.wr W (Or.inr av)
  have I:=I.wr W
  have E:=E.other W (Or.inl ae)
  have F:=F.other W (Or.inl ae)
  have v:=v.other W (Or.inl ae)
  have C:=C.other W aP
  have f:=f.wr W
  have w:=w.other W (Or.inl L)
  have h:=h.other W (Or.inl L)
  have x:=x.other W (Or.inl L)
  have H:=H.wr W
  have y:=cA
  refine o_j 170 98 aL a ?_
  refine o_c 171 99 aL a ?_
  refine o_h 174 100 111 aL a cz h fun di O bt=> ?_
  refine o_g 175 101 0 O a ?_
  refine o_ai 176 0 O hx hZ bt y rfl (by omega) (D 102 rfl) rfl ?_
  rw[o_eZ]
  refine o_D 177 103 O a ?_
  refine o_P 178 104 O a ?_
  refine o_ah 179 105 O a ?_
  refine o_aK 180 106 O a ?_
  refine o_X 181 107 O a ?_
  generalize cC:(((((fa 0).toInt64)&&&(4294967295:Int64))-((q0.toInt64)*dl)).toInt32)=am
  rw[cy,cC,m0] at LQ
  refine o_o 183 108 #[_,_,_,_,_,_,_,_,_,_,_,_,_,_,_] O a ?_
  refine o_d 185 109 O a ?_
  refine o_D 186 110 O a ?_
  refine o_y 189 214 111 O a ?_
  refine o_A 190 112 O a ?_
  refine o_H 192 113 #[_,_,_,_,_,_,_,_,_,_,_,_,_,_,_] O a ?_
  exact J _ _ _ q0 am O bt cB B KP I E F v C f w h x H y (o_cV ht0 LQ.1 LQ.2)
theorem o_ob (l:Launch)(Z:State)(a0:Array Value)(hw: ∀d∈tables_1,d.before a0 Z=true)(ws:List Jvm.Cond)(mb dv qx E:Addr)(fa ft:Nat→Int32)(n nd:Nat)(h0:Heap)(n0:Nat)(Z0:n0≤h0.size)(u:Old Z n0 h0)(cn dn:Int32)(aa dz:Addr)(ka kz kq:ClassId)(Q:n0≤qx)(aK:n0≤E)(S:mb≠qx)(bu:mb≠E)(b6:dv≠qx)(b7:dv≠E)(aL:aa≠qx)(bI:aa≠E)(aX:dz≠qx)(cD:dz≠E)(T:qx≠E)(v:Exa Z h0 mb "java/math/MutableBigInteger")(K:Fld Z h0 mb "java/math/MutableBigInteger" "offset" "I" (.int (0:Int32)))(L:Fld Z h0 mb "java/math/MutableBigInteger" "value" "[I" (.ref aa))(H:Fld Z h0 mb "java/math/MutableBigInteger" "intLen" "I" (.int cn))(y:o_x Z h0 aa ka cn fa)(C:Exa Z h0 dv "java/math/MutableBigInteger")(aF:Fld Z h0 dv "java/math/MutableBigInteger" "offset" "I" (.int (0:Int32)))(aG:Fld Z h0 dv "java/math/MutableBigInteger" "value" "[I" (.ref dz))(al:Fld Z h0 dv "java/math/MutableBigInteger" "intLen" "I" (.int dn))(B:o_x Z h0 dz kz dn ft)(f:Exa Z h0 qx "java/math/MutableBigInteger")(h:Fld Z h0 qx "java/math/MutableBigInteger" "offset" "I" (.int (0:Int32)))(r:Fld Z h0 qx "java/math/MutableBigInteger" "value" "[I" (.ref E))(o:Fld Z h0 qx "java/math/MutableBigInteger" "intLen" "I" (.int (0:Int32)))(w:o_x Z h0 E kq (1:Int32) (fun _=>0))(A:Exa Z h0 E "[I")(R:Exa Z h0 aa "[I")(hcn:cn.toInt=n)(hdn:dn.toInt=nd)(h1n:1≤n)(hn4:n≤4)(b8:1≤nd)(hd2:nd≤2)(ha0:0<o_a (fa 0))(ht0:0<o_a (ft 0))(ht1:nd=2→o_a (ft 0)<2147483648)(hle:o_n fa n≤4503599627370496*o_n ft nd):
  o_q l (⟨"java/math/MutableBigInteger","divideKnuth","(Ljava/math/MutableBigInteger;Ljava/math/MutableBigInteger;Z)Ljava/math/MutableBigInteger;"⟩:MethodName) (Jvm.Cond.code (⟨"java/math/MutableBigInteger","divideKnuth","(Ljava/math/MutableBigInteger;Ljava/math/MutableBigInteger;Z)Ljava/math/MutableBigInteger;"⟩:MethodName) jdk_2101_method_57_code 8 (some (.object "java/math/MutableBigInteger"))::ws) ({frames:=4,cells:=4,slots:=28,locals:=106}:Room) #[(.ref mb),(.ref dv),(.ref qx),(.int (1:Int32))] Z h0 (o_bm Z qx E (o_n fa n) (o_n ft nd) h0 n0):=by
 refine o_u (plainFor_of_name o_ag) (fun m=>o_md m mb dv qx (1:Int32)) fun p e s m cE dC c s₁ hx cF aM b9 (aJ:s.vm.findClass "java/math/MutableBigInteger"=some m.cls) hnm hret X0 hZ e0=> ?_
 have D:=o_S cF o_fN
 have a:=o_t hx cF o_fN aJ hZ b9 hw
 have N0:=Fr.nil n0
 have KP:Keep h0 h0 [qx,E]:=Keep.refl _ _
 have hA0:0<o_n fa n:=o_b' h1n ha0
 have hD0:0<o_n ft nd:=o_b' b8 ht0
 refine o_c 1 0 X0 a ?_
 refine o_h 4 1 113 X0 a e0 al fun gJ b_ dD=> ?_
 refine o_p 17 2 b_ a rfl ((if0 _ _).trans (feq (o_bJ hdn b8)).2) ?_
 refine o_c 18 8 b_ a ?_
 refine o_h 21 9 113 b_ a dD H fun gK aY bq=> ?_
 refine o_p 50 10 aY a rfl ((if0 _ _).trans (feq (o_bJ hcn h1n)).2) ?_
 refine o_c 51 25 aY a ?_
 refine o_c 52 26 aY a ?_
 have J: ∀(T_:State) (P:Heap) (L_:List Loc) (rc:Int32),Stand p l e ({frames:=4,cells:=4,slots:=28,locals:=106}:Room) s m #[(.ref mb),(.ref dv),(.ref qx),(.int (1:Int32))] cE dC c T_ L_ 0 0→T_.heap=P→Fr n0 L_→Old Z n0 P→Keep h0 P [qx,E]→Exa Z P mb "java/math/MutableBigInteger"→Fld Z P mb "java/math/MutableBigInteger" "offset" "I" (.int (0:Int32))→Fld Z P mb "java/math/MutableBigInteger" "value" "[I" (.ref aa)→Fld Z P mb "java/math/MutableBigInteger" "intLen" "I" (.int cn)→o_x Z P aa ka cn fa→Exa Z P dv "java/math/MutableBigInteger"→Fld Z P dv "java/math/MutableBigInteger" "offset" "I" (.int (0:Int32))→Fld Z P dv "java/math/MutableBigInteger" "value" "[I" (.ref dz)→Fld Z P dv "java/math/MutableBigInteger" "intLen" "I" (.int dn)→o_x Z P dz kz dn ft→Exa Z P qx "java/math/MutableBigInteger"→Fld Z P qx "java/math/MutableBigInteger" "offset" "I" (.int (0:Int32))→Fld Z P qx "java/math/MutableBigInteger" "value" "[I" (.ref E)→Fld Z P qx "java/math/MutableBigInteger" "intLen" "I" (.int (0:Int32))→o_x Z P E kq (1:Int32) (fun _=>0)→Exa Z P E "[I"→Exa Z P aa "[I"→o_bs (o_n fa n) (o_n ft nd) rc→(rc<0→n≤2)→o_f p e cE (o_V s (o_bm Z qx E (o_n fa n) (o_n ft nd) h0 n0) ({frames:=4,cells:=4,slots:=28,locals:=106}:Room).cells ({frames:=4,cells:=4,slots:=28,locals:=106}:Room).slots) T_ (mkF m 55 #[rv mb,rv dv,rv qx,iv 1,.unset,.unset,.unset,.unset] [(.int rc)]):=by
  intro cH dE gL rc M bJ bK u KP v K L H y C aF aG al B f h r o w A R hC hnl
  refine o_o 57 28 #[_,_,_,_,_,_,_,_] M a ?_
  refine o_d 59 29 M a ?_
  by_cases hlt:rc<(0:Int32)
  ·refine o_r 62 30 M a rfl ((if0 _ _).trans (tlt hlt).2.1) ?_
   have aw:=o_iv hC hlt
   obtain rfl|rfl:n=1∨n=2:=by have:=hnl hlt;omega
   ·obtain rfl:=o_a7 (b:=1) hcn rfl
    refine o_c 63 31 M a ?_
    refine o_c 64 32 M a ?_
    refine o_g 65 33 0 M a ?_
    refine o_i (T':=cH) (mkF m 66 #[rv mb,rv dv,rv qx,iv 1,iv rc,.unset,.unset,.unset] [(.int (0:Int32)),(.ref qx),(.int (0:Int32)),(.ref qx)]) (fun _ k=>XS.dupX1 M.here hx rfl (D 34 rfl) rfl rfl rfl k) ?_
    refine o_R 69 35 109 102 M a bJ h f (Or.inl (o_b hw 110 rfl)) (ty:= .int) fun gM dF cI dG U=> ?_
    have dH:=Fr.snoc cI bK Q
    have dI:Fld Z dF qx "java/math/MutableBigInteger" "offset" "I" (.int (0:Int32)):=h.same U
    have u:=u.wr U Q
    have KP:=KP.wr U (Or.inl (List.mem_of_getElem? (i:=0) rfl))
    have v:=v.wr U
    have K:=K.other U (Or.inl S)
    have L:=L.other U (Or.inl S)
    have H:=H.other U (Or.inl S)
    have y:=y.other U aL
    have C:=C.wr U
    have B:=B.other U aX
    have f:=f.wr U
    have r:=r.other U (Or.inr (slot_ne (Or.inl (o_b hw 112 rfl)) (Or.inl (o_b hw 110 rfl)) (by decide) (t:=(.array .int)) (t':= .int) (by decide) (by decide)))
    have o:=o.other U (Or.inr (slot_ne (Or.inl (o_b hw 114 rfl)) (Or.inl (o_b hw 110 rfl)) (by decide) (t:= .int) (t':= .int) (by decide) (by decide)))
    have w:=w.other U (Ne.symm T)
    have A:=A.wr U
    have R:=R.wr U
    have h:=dI
    refine o_R 72 36 113 102 cI a dG o f (Or.inl (o_b hw 114 rfl)) (ty:= .int) fun gN cJ bL dJ V=> ?_
    have dK:=Fr.snoc bL dH Q
    have dL:Fld Z cJ qx "java/math/MutableBigInteger" "intLen" "I" (.int (0:Int32)):=o.same V
    have u:=u.wr V Q
    have KP:=KP.wr V (Or.inl (List.mem_of_getElem? (i:=0) rfl))
    have v:=v.wr V
    have K:=K.other V (Or.inl S)
    have L:=L.other V (Or.inl S)
    have H:=H.other V (Or.inl S)
    have y:=y.other V aL
    have C:=C.wr V
    have B:=B.other V aX
    have f:=f.wr V
    have h:=h.other V (Or.inr (slot_ne (Or.inl (o_b hw 110 rfl)) (Or.inl (o_b hw 114 rfl)) (by decide) (t:= .int) (t':= .int) (by decide) (by decide)))
    have r:=r.other V (Or.inr (slot_ne (Or.inl (o_b hw 112 rfl)) (Or.inl (o_b hw 114 rfl)) (by decide) (t:=(.array .int)) (t':= .int) (by decide) (by decide)))
    have w:=w.other V (Ne.symm T)
    have A:=A.wr V
    have R:=R.wr V
    have o:=dL
    refine o_e 73 37 bL a ?_
    refine o_r 76 38 bL a rfl ((if0 _ _).trans (feq (by decide: ¬((1:Int32)=(0:Int32)))).1) ?_
    obtain ⟨gO,bv,ca,dM,X,cK,bM,-,cL⟩:=newO bL hx hZ aJ (o_b hw 133 rfl) (o_b hw 102 rfl) (o_b hw 103 rfl) dJ (g:=(mkF m 76 #[rv mb,rv dv,rv qx,iv 1,iv rc,.unset,.unset,.unset] [])) rfl (D 39 rfl) (by decide) (by decide)
    obtain ⟨Y,aN⟩: ∃z,z=cJ.size:=⟨_,rfl⟩
    rw[←aN] at cK bM cL
    have cb:h0.size≤Y:=Nat.le_trans KP.1 (Nat.le_of_eq aN.symm)
    have dN:n0≤Y:=Nat.le_trans Z0 cb
    have dO:mb≠Y:=Nat.ne_of_lt (Nat.lt_of_lt_of_le v.lt (Nat.le_of_eq aN.symm))
    have dP:aa≠Y:=Nat.ne_of_lt (Nat.lt_of_lt_of_le y.lt (Nat.le_of_eq aN.symm))
    have gP:dv≠Y:=Nat.ne_of_lt (Nat.lt_of_lt_of_le C.lt (Nat.le_of_eq aN.symm))
    have gQ:dz≠Y:=Nat.ne_of_lt (Nat.lt_of_lt_of_le B.lt (Nat.le_of_eq aN.symm))
    have cd:qx≠Y:=Nat.ne_of_lt (Nat.lt_of_lt_of_le f.lt (Nat.le_of_eq aN.symm))
    have cM:E≠Y:=Nat.ne_of_lt (Nat.lt_of_lt_of_le w.lt (Nat.le_of_eq aN.symm))
    have u:=u.ext X
    have KP:=KP.ext X
    have v:=v.ext X
    have K:=K.ext X
    have L:=L.ext X
    have H:=H.ext X
    have y:=y.ext X
    have C:=C.ext X
    have B:=B.ext X
    have f:=f.ext X
    have h:=h.ext X
    have r:=r.ext X
    have o:=o.ext X
    have w:=w.ext X
    have A:=A.ext X
    have R:=R.ext X
    have cN:Exa Z bv Y "java/math/MutableBigInteger":=cK
    have dQ:Fld Z bv Y "java/math/MutableBigInteger" "offset" "I" (.int (0:Int32)):=bM (Or.inl (o_b hw 110 rfl)) (ty:= .int) (by decide)
    have dR:Fld Z bv Y "java/math/MutableBigInteger" "value" "[I" .null:=bM (Or.inl (o_b hw 112 rfl)) (ty:=(.array .int)) (by decide)
    have dS:Fld Z bv Y "java/math/MutableBigInteger" "intLen" "I" (.int (0:Int32)):=bM (Or.inl (o_b hw 114 rfl)) (ty:= .int) (by decide)
    refine o_i (mkF m 79 #[rv mb,rv dv,rv qx,iv 1,iv rc,.unset,.unset,.unset] [(.ref Y)]) cL ?_
    refine o_ab 80 40 ca a ?_
    refine o_c 81 41 ca a ?_
    have N:=KP
    have aZ:=v.lt
    have a5:=y.lt
    have a6:=C.lt
    have a7:=B.lt
    have aj:=f.lt
    have a8:=w.lt
    have dT:=cN.lt
    refine o_7 84 1 1 2 4 42 134 135 103 136 ca a (o_nu l Z a0 hw [] Y mb aa ka (fa 0) bv n0 (Nat.le_trans Z0 KP.1) u dN cN dQ dR dS v K L H dO dP y R) o_fY dM rfl fun _ gR gS cO dU=> ?_
    obtain ⟨rfl,dV,a9,bb,ao,br,x,dW,dX,dY,dZ,aq,au⟩:=dU
    have d0:=Fr.app dK dV
    have KP:=KP.trans a9 (allS (Or.inr cb) all0)
    have f:=f.keep a9
    have h:=h.keep a9 (ninS cd nin0)
    have r:=r.keep a9 (ninS cd nin0)
    have o:=o.keep a9 (ninS cd nin0)
    have w:=w.keep a9 (ninS cM nin0)
    have A:=A.keep a9
    refine o_k [_] ?_
    have av:h0.size≤bb:=Nat.le_trans N.1 x
    have cP:mb≠bb:=Nat.ne_of_lt (Nat.lt_of_lt_of_le aZ x)
    have cQ:aa≠bb:=Nat.ne_of_lt (Nat.lt_of_lt_of_le a5 x)
    have cR:dv≠bb:=Nat.ne_of_lt (Nat.lt_of_lt_of_le a6 x)
    have cS:dz≠bb:=Nat.ne_of_lt (Nat.lt_of_lt_of_le a7 x)
    have bt:qx≠bb:=Nat.ne_of_lt (Nat.lt_of_lt_of_le aj x)
    have bw:E≠bb:=Nat.ne_of_lt (Nat.lt_of_lt_of_le a8 x)
    have d1:Y≠bb:=Nat.ne_of_lt (Nat.lt_of_lt_of_le dT x)
    refine o_w 88 43 cO a ?_
    exact o_K 45 cO a hret aM (by exact ⟨Y,bb,E,ao,kq,(0:Int32),(1:Int32),(1:Int32),(0:Int32),(0:Int32),(1:Int32),(o_bb [(fa 0)]),(fun _=>0),1,1,1,rfl,d0,KP,cb,av,d1,Or.inl rfl,cM,bw,T,dW,dX,dY,dZ,aq,au,f,h,r,o,w,A,rfl,by decide,by decide,(o_dN (by exact o_aQ ha0)),rfl,by omega,o_ca,(o_fh hA0 aw),(o_fi hA0 aw (by decide))⟩)
   ·obtain rfl:=o_a7 (b:=2) hcn rfl
    refine o_c 63 31 M a ?_
    refine o_c 64 32 M a ?_
    refine o_g 65 33 0 M a ?_
    refine o_i (T':=cH) (mkF m 66 #[rv mb,rv dv,rv qx,iv 1,iv rc,.unset,.unset,.unset] [(.int (0:Int32)),(.ref qx),(.int (0:Int32)),(.ref qx)]) (fun _ k=>XS.dupX1 M.here hx rfl (D 34 rfl) rfl rfl rfl k) ?_
    refine o_R 69 35 109 102 M a bJ h f (Or.inl (o_b hw 110 rfl)) (ty:= .int) fun gT d2 cT d3 ad=> ?_
    have d4:=Fr.snoc cT bK Q
    have d5:Fld Z d2 qx "java/math/MutableBigInteger" "offset" "I" (.int (0:Int32)):=h.same ad
    have u:=u.wr ad Q
    have KP:=KP.wr ad (Or.inl (List.mem_of_getElem? (i:=0) rfl))
    have v:=v.wr ad
    have K:=K.other ad (Or.inl S)
    have L:=L.other ad (Or.inl S)
    have H:=H.other ad (Or.inl S)
    have y:=y.other ad aL
    have C:=C.wr ad
    have B:=B.other ad aX
    have f:=f.wr ad
    have r:=r.other ad (Or.inr (slot_ne (Or.inl (o_b hw 112 rfl)) (Or.inl (o_b hw 110 rfl)) (by decide) (t:=(.array .int)) (t':= .int) (by decide) (by decide)))
    have o:=o.other ad (Or.inr (slot_ne (Or.inl (o_b hw 114 rfl)) (Or.inl (o_b hw 110 rfl)) (by decide) (t:= .int) (t':= .int) (by decide) (by decide)))
    have w:=w.other ad (Ne.symm T)
    have A:=A.wr ad
    have R:=R.wr ad
    have h:=d5
    refine o_R 72 36 113 102 cT a d3 o f (Or.inl (o_b hw 114 rfl)) (ty:= .int) fun gU cU bN d6 ae=> ?_
    have d7:=Fr.snoc bN d4 Q
    have d8:Fld Z cU qx "java/math/MutableBigInteger" "intLen" "I" (.int (0:Int32)):=o.same ae
    have u:=u.wr ae Q
    have KP:=KP.wr ae (Or.inl (List.mem_of_getElem? (i:=0) rfl))
    have v:=v.wr ae
    have K:=K.other ae (Or.inl S)
    have L:=L.other ae (Or.inl S)
    have H:=H.other ae (Or.inl S)
    have y:=y.other ae aL
    have C:=C.wr ae
    have B:=B.other ae aX
    have f:=f.wr ae
    have h:=h.other ae (Or.inr (slot_ne (Or.inl (o_b hw 110 rfl)) (Or.inl (o_b hw 114 rfl)) (by decide) (t:= .int) (t':= .int) (by decide) (by decide)))
    have r:=r.other ae (Or.inr (slot_ne (Or.inl (o_b hw 112 rfl)) (Or.inl (o_b hw 114 rfl)) (by decide) (t:=(.array .int)) (t':= .int) (by decide) (by decide)))
    have w:=w.other ae (Ne.symm T)
    have A:=A.wr ae
    have R:=R.wr ae
    have o:=d8
    refine o_e 73 37 bN a ?_
    refine o_r 76 38 bN a rfl ((if0 _ _).trans (feq (by decide: ¬((1:Int32)=(0:Int32)))).1) ?_
    obtain ⟨gV,bx,ce,d9,af,cV,bO,-,cW⟩:=newO bN hx hZ aJ (o_b hw 133 rfl) (o_b hw 102 rfl) (o_b hw 103 rfl) d6 (g:=(mkF m 76 #[rv mb,rv dv,rv qx,iv 1,iv rc,.unset,.unset,.unset] [])) rfl (D 39 rfl) (by decide) (by decide)
    obtain ⟨ag,aO⟩: ∃z,z=cU.size:=⟨_,rfl⟩
    rw[←aO] at cV bO cW
    have cg:h0.size≤ag:=Nat.le_trans KP.1 (Nat.le_of_eq aO.symm)
    have d_:n0≤ag:=Nat.le_trans Z0 cg
    have d':mb≠ag:=Nat.ne_of_lt (Nat.lt_of_lt_of_le v.lt (Nat.le_of_eq aO.symm))
    have ea:aa≠ag:=Nat.ne_of_lt (Nat.lt_of_lt_of_le y.lt (Nat.le_of_eq aO.symm))
    have gW:dv≠ag:=Nat.ne_of_lt (Nat.lt_of_lt_of_le C.lt (Nat.le_of_eq aO.symm))
    have gX:dz≠ag:=Nat.ne_of_lt (Nat.lt_of_lt_of_le B.lt (Nat.le_of_eq aO.symm))
    have ci:qx≠ag:=Nat.ne_of_lt (Nat.lt_of_lt_of_le f.lt (Nat.le_of_eq aO.symm))
    have cX:E≠ag:=Nat.ne_of_lt (Nat.lt_of_lt_of_le w.lt (Nat.le_of_eq aO.symm))
    have u:=u.ext af
    have KP:=KP.ext af
    have v:=v.ext af
    have K:=K.ext af
    have L:=L.ext af
    have H:=H.ext af
    have y:=y.ext af
    have C:=C.ext af
    have B:=B.ext af
    have f:=f.ext af
    have h:=h.ext af
    have r:=r.ext af
    have o:=o.ext af
    have w:=w.ext af
    have A:=A.ext af
    have R:=R.ext af
    have cY:Exa Z bx ag "java/math/MutableBigInteger":=cV
    have eb:Fld Z bx ag "java/math/MutableBigInteger" "offset" "I" (.int (0:Int32)):=bO (Or.inl (o_b hw 110 rfl)) (ty:= .int) (by decide)
    have ec:Fld Z bx ag "java/math/MutableBigInteger" "value" "[I" .null:=bO (Or.inl (o_b hw 112 rfl)) (ty:=(.array .int)) (by decide)
    have ed:Fld Z bx ag "java/math/MutableBigInteger" "intLen" "I" (.int (0:Int32)):=bO (Or.inl (o_b hw 114 rfl)) (ty:= .int) (by decide)
    refine o_i (mkF m 79 #[rv mb,rv dv,rv qx,iv 1,iv rc,.unset,.unset,.unset] [(.ref ag)]) cW ?_
    refine o_ab 80 40 ce a ?_
    refine o_c 81 41 ce a ?_
    have N:=KP
    have aZ:=v.lt
    have a5:=y.lt
    have a6:=C.lt
    have a7:=B.lt
    have aj:=f.lt
    have a8:=w.lt
    have ef:=cY.lt
    refine o_7 84 1 1 2 5 42 134 135 103 136 ce a (o_ny l Z a0 hw [] ag mb aa ka (fa 0) (fa 1) bx n0 (Nat.le_trans Z0 KP.1) u d_ cY eb ec ed v K L H d' ea y R) o_fY d9 rfl fun _ gY gZ cZ eg=> ?_
    obtain ⟨rfl,eh,a_,bb,ao,br,x,ei,ej,ek,el,aq,au⟩:=eg
    have em:=Fr.app d7 eh
    have KP:=KP.trans a_ (allS (Or.inr cg) all0)
    have f:=f.keep a_
    have h:=h.keep a_ (ninS ci nin0)
    have r:=r.keep a_ (ninS ci nin0)
    have o:=o.keep a_ (ninS ci nin0)
    have w:=w.keep a_ (ninS cX nin0)
    have A:=A.keep a_
    refine o_k [_] ?_
    have av:h0.size≤bb:=Nat.le_trans N.1 x
    have cP:mb≠bb:=Nat.ne_of_lt (Nat.lt_of_lt_of_le aZ x)
    have cQ:aa≠bb:=Nat.ne_of_lt (Nat.lt_of_lt_of_le a5 x)
    have cR:dv≠bb:=Nat.ne_of_lt (Nat.lt_of_lt_of_le a6 x)
    have cS:dz≠bb:=Nat.ne_of_lt (Nat.lt_of_lt_of_le a7 x)
    have bt:qx≠bb:=Nat.ne_of_lt (Nat.lt_of_lt_of_le aj x)
    have bw:E≠bb:=Nat.ne_of_lt (Nat.lt_of_lt_of_le a8 x)
    have eo:ag≠bb:=Nat.ne_of_lt (Nat.lt_of_lt_of_le ef x)
    refine o_w 88 43 cZ a ?_
    exact o_K 45 cZ a hret aM (by exact ⟨ag,bb,E,ao,kq,(0:Int32),(2:Int32),(2:Int32),(0:Int32),(0:Int32),(1:Int32),(o_bb [(fa 0),(fa 1)]),(fun _=>0),2,2,1,rfl,em,KP,cg,av,eo,Or.inl rfl,cX,bw,T,ei,ej,ek,el,aq,au,f,h,r,o,w,A,rfl,by decide,by decide,(o_iy (by exact o_aQ ha0)),rfl,by omega,o_ca,(o_fh hA0 aw),(o_fi hA0 aw (by decide))⟩)
  ·refine o_p 89 30 M a rfl ((if0 _ _).trans (flt hlt).2.1) ?_
   refine o_d 91 46 M a ?_
   by_cases heq:rc=(0:Int32)
   ·refine o_r 94 47 M a rfl ((if0 _ _).trans (teq heq).2) ?_
    have aw:=o_iw hC heq
    refine o_c 95 48 M a ?_
    refine o_h 98 49 111 M a bJ r fun ep bz er=> ?_
    refine o_g 99 50 0 bz a ?_
    refine o_c 100 51 bz a ?_
    refine o_g 101 52 1 bz a ?_
    refine o_i (T':=ep) (mkF m 102 #[rv mb,rv dv,rv qx,iv 1,iv rc,.unset,.unset,.unset] [(.int (1:Int32)),(.ref qx),(.int (1:Int32)),(.int (0:Int32)),(.ref E)]) (fun _ k=>XS.dupX1 bz.here hx rfl (D 53 rfl) rfl rfl rfl k) ?_
    refine o_R 105 54 113 102 bz a er o f (Or.inl (o_b hw 114 rfl)) (ty:= .int) fun g0 es c0 et ax=> ?_
    have eu:=Fr.snoc c0 bK Q
    have ev:Fld Z es qx "java/math/MutableBigInteger" "intLen" "I" (.int (1:Int32)):=o.same ax
    have u:=u.wr ax Q
    have KP:=KP.wr ax (Or.inl (List.mem_of_getElem? (i:=0) rfl))
    have v:=v.wr ax
    have y:=y.other ax aL
    have C:=C.wr ax
    have B:=B.other ax aX
    have f:=f.wr ax
    have h:=h.other ax (Or.inr (slot_ne (Or.inl (o_b hw 110 rfl)) (Or.inl (o_b hw 114 rfl)) (by decide) (t:= .int) (t':= .int) (by decide) (by decide)))
    have r:=r.other ax (Or.inr (slot_ne (Or.inl (o_b hw 112 rfl)) (Or.inl (o_b hw 114 rfl)) (by decide) (t:=(.array .int)) (t':= .int) (by decide) (by decide)))
    have w:=w.other ax (Ne.symm T)
    have A:=A.wr ax
    have o:=ev
    refine o_as 106 0 c0 hx hZ et w rfl (by decide) (D 55 rfl) rfl fun g1 g2 bP ew aH ex=> ?_
    have ey:=Fr.snoc bP eu aK
    have u:=u.wr aH aK
    have KP:=KP.wr aH (Or.inl (List.mem_of_getElem? (i:=1) rfl))
    have v:=v.wr aH
    have y:=y.other aH bI
    have C:=C.wr aH
    have B:=B.other aH cD
    have f:=f.wr aH
    have h:=h.other aH (Or.inl T)
    have r:=r.other aH (Or.inl T)
    have o:=o.other aH (Or.inl T)
    have A:=A.wr aH
    have w:=ex
    refine o_c 107 56 bP a ?_
    refine o_g 108 57 0 bP a ?_
    refine o_R 111 58 109 102 bP a ew h f (Or.inl (o_b hw 110 rfl)) (ty:= .int) fun g3 c2 bQ ez ay=> ?_
    have eA:=Fr.snoc bQ ey Q
    have eB:Fld Z c2 qx "java/math/MutableBigInteger" "offset" "I" (.int (0:Int32)):=h.same ay
    have u:=u.wr ay Q
    have KP:=KP.wr ay (Or.inl (List.mem_of_getElem? (i:=0) rfl))
    have v:=v.wr ay
    have y:=y.other ay aL
    have C:=C.wr ay
    have B:=B.other ay aX
    have f:=f.wr ay
    have r:=r.other ay (Or.inr (slot_ne (Or.inl (o_b hw 112 rfl)) (Or.inl (o_b hw 110 rfl)) (by decide) (t:=(.array .int)) (t':= .int) (by decide) (by decide)))
    have o:=o.other ay (Or.inr (slot_ne (Or.inl (o_b hw 114 rfl)) (Or.inl (o_b hw 110 rfl)) (by decide) (t:= .int) (t':= .int) (by decide) (by decide)))
    have w:=w.other ay (Ne.symm T)
    have A:=A.wr ay
    have h:=eB
    refine o_e 112 59 bQ a ?_
    refine o_r 115 60 bQ a rfl ((if0 _ _).trans (feq (by decide: ¬((1:Int32)=(0:Int32)))).1) ?_
    obtain ⟨g4,bA,c3,eC,aA,c4,bR,-,c5⟩:=newO bQ hx hZ aJ (o_b hw 133 rfl) (o_b hw 102 rfl) (o_b hw 103 rfl) ez (g:=(mkF m 115 #[rv mb,rv dv,rv qx,iv 1,iv rc,.unset,.unset,.unset] [])) rfl (D 61 rfl) (by decide) (by decide)
    obtain ⟨ah,aP⟩: ∃z,z=c2.size:=⟨_,rfl⟩
    rw[←aP] at c4 bR c5
    have cj:h0.size≤ah:=Nat.le_trans KP.1 (Nat.le_of_eq aP.symm)
    have eD:n0≤ah:=Nat.le_trans Z0 cj
    have g5:mb≠ah:=Nat.ne_of_lt (Nat.lt_of_lt_of_le v.lt (Nat.le_of_eq aP.symm))
    have g6:aa≠ah:=Nat.ne_of_lt (Nat.lt_of_lt_of_le y.lt (Nat.le_of_eq aP.symm))
    have g7:dv≠ah:=Nat.ne_of_lt (Nat.lt_of_lt_of_le C.lt (Nat.le_of_eq aP.symm))
    have g8:dz≠ah:=Nat.ne_of_lt (Nat.lt_of_lt_of_le B.lt (Nat.le_of_eq aP.symm))
    have ck:qx≠ah:=Nat.ne_of_lt (Nat.lt_of_lt_of_le f.lt (Nat.le_of_eq aP.symm))
    have c6:E≠ah:=Nat.ne_of_lt (Nat.lt_of_lt_of_le w.lt (Nat.le_of_eq aP.symm))
    have u:=u.ext aA
    have KP:=KP.ext aA
    have v:=v.ext aA
    have y:=y.ext aA
    have C:=C.ext aA
    have B:=B.ext aA
    have f:=f.ext aA
    have h:=h.ext aA
    have r:=r.ext aA
    have o:=o.ext aA
    have w:=w.ext aA
    have A:=A.ext aA
    have c7:Exa Z bA ah "java/math/MutableBigInteger":=c4
    have eE:Fld Z bA ah "java/math/MutableBigInteger" "offset" "I" (.int (0:Int32)):=bR (Or.inl (o_b hw 110 rfl)) (ty:= .int) (by decide)
    have eF:Fld Z bA ah "java/math/MutableBigInteger" "value" "[I" .null:=bR (Or.inl (o_b hw 112 rfl)) (ty:=(.array .int)) (by decide)
    have eG:Fld Z bA ah "java/math/MutableBigInteger" "intLen" "I" (.int (0:Int32)):=bR (Or.inl (o_b hw 114 rfl)) (ty:= .int) (by decide)
    refine o_i (mkF m 118 #[rv mb,rv dv,rv qx,iv 1,iv rc,.unset,.unset,.unset] [(.ref ah)]) c5 ?_
    refine o_ab 119 62 c3 a ?_
    have N:=KP
    have aZ:=v.lt
    have a5:=y.lt
    have a6:=C.lt
    have a7:=B.lt
    have aj:=f.lt
    have a8:=w.lt
    have eH:=c7.lt
    refine o_7 122 0 1 2 4 63 231 105 103 107 c3 a (o_dk l Z a0 hw [] ah bA n0 (Nat.le_trans Z0 KP.1) u eD c7 eE eF eG) o_be eC rfl fun _ g9 g_ c8 eI=> ?_
    obtain ⟨rfl,eJ,a',bb,ao,br,x,eK,eL,eM,eN,aq,au⟩:=eI
    have eO:=Fr.app eA eJ
    have KP:=KP.trans a' (allS (Or.inr cj) all0)
    have f:=f.keep a'
    have h:=h.keep a' (ninS ck nin0)
    have r:=r.keep a' (ninS ck nin0)
    have o:=o.keep a' (ninS ck nin0)
    have w:=w.keep a' (ninS c6 nin0)
    have A:=A.keep a'
    refine o_k [_] ?_
    have av:h0.size≤bb:=Nat.le_trans N.1 x
    have cP:mb≠bb:=Nat.ne_of_lt (Nat.lt_of_lt_of_le aZ x)
    have cQ:aa≠bb:=Nat.ne_of_lt (Nat.lt_of_lt_of_le a5 x)
    have cR:dv≠bb:=Nat.ne_of_lt (Nat.lt_of_lt_of_le a6 x)
    have cS:dz≠bb:=Nat.ne_of_lt (Nat.lt_of_lt_of_le a7 x)
    have bt:qx≠bb:=Nat.ne_of_lt (Nat.lt_of_lt_of_le aj x)
    have bw:E≠bb:=Nat.ne_of_lt (Nat.lt_of_lt_of_le a8 x)
    have eP:ah≠bb:=Nat.ne_of_lt (Nat.lt_of_lt_of_le eH x)
    refine o_w 126 64 c8 a ?_
    exact o_K 66 c8 a hret aM (by exact ⟨ah,bb,E,ao,kq,(0:Int32),(0:Int32),(1:Int32),(0:Int32),(1:Int32),(1:Int32),(fun _=>0),_,1,1,1,rfl,eO,KP,cj,av,eP,Or.inl rfl,c6,bw,T,eK,eL,eM,eN,aq,au,f,h,r,o,w,A,rfl,by decide,by decide,o_ca,rfl,by omega,(o_fe (by decide)),(o_iz hD0 aw),(o_iA aw)⟩)
   ·refine o_p 127 47 M a rfl ((if0 _ _).trans (feq heq).2) ?_
    have aw:=o_ix hC hlt heq
    refine o_c 128 67 M a ?_
    refine o_aq 131 0 0 0 0 68 204 205 207 206 103 208 M a (o_nY l Z a0 hw [] qx E kq dE n0 (Nat.le_trans Z0 KP.1) u (0:Int32) (0:Int32) (0:Int32) Q aK T f h r o w) o_be bJ f fun _ bS g' c9 eQ=> ?_
    obtain ⟨rfl,eR,am,-,h,r,o,w⟩:=eQ
    have cl:=Fr.app bK eR
    have u:=u.keep am (allS Q (allS aK all0))
    have KP:=KP.trans am (allS (Or.inl (List.mem_of_getElem? (i:=0) rfl)) (allS (Or.inl (List.mem_of_getElem? (i:=1) rfl)) all0))
    have v:=v.keep am
    have K:=K.keep am (ninS S (ninS bu nin0))
    have L:=L.keep am (ninS S (ninS bu nin0))
    have H:=H.keep am (ninS S (ninS bu nin0))
    have y:=y.keep am (ninS aL (ninS bI nin0))
    have C:=C.keep am
    have aF:=aF.keep am (ninS b6 (ninS b7 nin0))
    have aG:=aG.keep am (ninS b6 (ninS b7 nin0))
    have al:=al.keep am (ninS b6 (ninS b7 nin0))
    have B:=B.keep am (ninS aX (ninS cD nin0))
    have f:=f.keep am
    have A:=A.keep am
    refine o_k [] ?_
    have w:o_x Z bS.heap E kq (1:Int32) (fun _=>0):=w
    refine o_c 132 69 c9 a ?_
    refine o_h 135 70 113 c9 a rfl al fun ha aQ c_=> ?_
    refine o_g 136 71 1 aQ a ?_
    obtain rfl|rfl:nd=1∨nd=2:=by omega
    ·obtain rfl:=o_a7 (b:=1) hdn rfl
     refine o_E 139 72 aQ a rfl (teq (by decide:(1:Int32)=(1:Int32))).2 ?_
     refine o_c 140 73 aQ a ?_
     refine o_c 141 74 aQ a ?_
     refine o_h 144 75 111 aQ a c_ aG fun hc c' eS=> ?_
     refine o_c 145 76 c' a ?_
     refine o_h 148 77 109 c' a eS aF fun hd bT cm=> ?_
     refine o_ai 149 0 bT hx hZ cm B rfl (by decide) (D 78 rfl) rfl ?_
     refine o_c 150 79 bT a ?_
     rw[o_a6 ft] at aw
     obtain rfl|co:n=1∨2≤n:=by omega
     ·obtain rfl:=o_a7 (b:=1) hcn rfl
      rw[o_a6 fa] at aw
      have N:=KP
      have aZ:=v.lt
      have a5:=y.lt
      have a6:=C.lt
      have a7:=B.lt
      have aj:=f.lt
      have a8:=A.lt
      refine o_aq 153 2 0 1 4 80 209 210 212 211 103 213 bT a (o_n' l Z a0 hw [] mb qx E (ft 0) fa bS.heap n0 (Nat.le_trans Z0 KP.1) u aa ka kq Q aK T S aL bu bI v K L H y f h r o w A ht0 (Int.le_of_lt aw)) o_f0 cm v fun _ da he aR eT=> ?_
      obtain ⟨ro,qa,bd,oq,lq,zq,G,nq,rfl,eU,cp,aI,cq,-,h,r,o,I,O,bB,hn8,bC,fq,fr⟩:=eT
      have db:=Fr.app cl eU
      have u:=u.keep cp (allS Q (allS aK all0))
      have KP:=KP.trans cp (allS (Or.inl (List.mem_of_getElem? (i:=0) rfl)) (allS (Or.inl (List.mem_of_getElem? (i:=1) rfl)) all0))
      have f:=f.keep cp
      refine o_k [_] ?_
      have aI:=aI.imp id (Nat.le_trans N.1)
      rw[←o_a6 ft] at fq fr
      have bD:=cq
      refine o_o 155 81 #[_,_,_,_,_,_,_,_] aR a ?_
      refine o_e 156 82 aR a ?_
      refine o_r 159 83 aR a rfl ((if0 _ _).trans (feq (by decide: ¬((1:Int32)=(0:Int32)))).1) ?_
      refine o_d 161 84 aR a ?_
      by_cases hrv:ro=(0:Int32)
      ·refine o_r 164 85 aR a rfl ((if0 _ _).trans (teq hrv).2) ?_
       obtain ⟨hf,bE,dc,eV,aS,dd,bU,-,de⟩:=newO aR hx hZ aJ (o_b hw 133 rfl) (o_b hw 102 rfl) (o_b hw 103 rfl) rfl (g:=(mkF m 164 #[rv mb,rv dv,rv qx,iv 1,iv rc,iv ro,.unset,.unset] [])) rfl (D 86 rfl) (by decide) (by decide)
       obtain ⟨aB,bV⟩: ∃z,z=da.heap.size:=⟨_,rfl⟩
       rw[←bV] at dd bU de
       have cr:h0.size≤aB:=Nat.le_trans KP.1 (Nat.le_of_eq bV.symm)
       have eW:n0≤aB:=Nat.le_trans Z0 cr
       have ct:qx≠aB:=Nat.ne_of_lt (Nat.lt_of_lt_of_le f.lt (Nat.le_of_eq bV.symm))
       have df:qa≠aB:=Nat.ne_of_lt (Nat.lt_of_lt_of_le I.lt (Nat.le_of_eq bV.symm))
       have u:=u.ext aS
       have KP:=KP.ext aS
       have f:=f.ext aS
       have h:=h.ext aS
       have r:=r.ext aS
       have o:=o.ext aS
       have I:=I.ext aS
       have O:=O.ext aS
       have dg:Exa Z bE aB "java/math/MutableBigInteger":=dd
       have eX:Fld Z bE aB "java/math/MutableBigInteger" "offset" "I" (.int (0:Int32)):=bU (Or.inl (o_b hw 110 rfl)) (ty:= .int) (by decide)
       have eY:Fld Z bE aB "java/math/MutableBigInteger" "value" "[I" .null:=bU (Or.inl (o_b hw 112 rfl)) (ty:=(.array .int)) (by decide)
       have eZ:Fld Z bE aB "java/math/MutableBigInteger" "intLen" "I" (.int (0:Int32)):=bU (Or.inl (o_b hw 114 rfl)) (ty:= .int) (by decide)
       refine o_i (mkF m 167 #[rv mb,rv dv,rv qx,iv 1,iv rc,iv ro,.unset,.unset] [(.ref aB)]) de ?_
       refine o_ab 168 87 dc a ?_
       have N:=KP
       have aj:=f.lt
       have bj:=I.lt
       have e2:=dg.lt
       refine o_7 171 0 1 3 8 88 231 105 103 107 dc a (o_dk l Z a0 hw [] aB bE n0 (Nat.le_trans Z0 KP.1) u eW dg eX eY eZ) o_be eV rfl fun _ hg hh e3 e4=> ?_
       obtain ⟨rfl,e5,bk,bb,ao,br,x,e6,e7,e8,e9,aq,au⟩:=e4
       have e':=Fr.app db e5
       have KP:=KP.trans bk (allS (Or.inr cr) all0)
       have f:=f.keep bk
       have h:=h.keep bk (ninS ct nin0)
       have r:=r.keep bk (ninS ct nin0)
       have o:=o.keep bk (ninS ct nin0)
       have I:=I.keep bk (ninS df nin0)
       have O:=O.keep bk
       refine o_k [_] ?_
       have av:h0.size≤bb:=Nat.le_trans N.1 x
       have bt:qx≠bb:=Nat.ne_of_lt (Nat.lt_of_lt_of_le aj x)
       have bl:qa≠bb:=Nat.ne_of_lt (Nat.lt_of_lt_of_le bj x)
       have fb:aB≠bb:=Nat.ne_of_lt (Nat.lt_of_lt_of_le e2 x)
       exact o_K 89 e3 a hret aM (by exact ⟨aB,bb,qa,ao,bd,(0:Int32),(0:Int32),(1:Int32),oq,lq,zq,(fun _=>0),G,1,1,nq,rfl,e',KP,cr,av,fb,aI,df,bl,bD,e6,e7,e8,e9,aq,au,f,h,r,o,I,O,rfl,by decide,by decide,o_ca,bB,by omega,bC,fq,(o_dO (fr.mp hrv))⟩)
      ·refine o_p 172 85 aR a rfl ((if0 _ _).trans (feq hrv).2) ?_
       obtain ⟨hj,bF,cu,fc,aT,dh,bW,-,di⟩:=newO aR hx hZ aJ (o_b hw 133 rfl) (o_b hw 102 rfl) (o_b hw 103 rfl) rfl (g:=(mkF m 172 #[rv mb,rv dv,rv qx,iv 1,iv rc,iv ro,.unset,.unset] [])) rfl (D 90 rfl) (by decide) (by decide)
       obtain ⟨aC,bX⟩: ∃z,z=da.heap.size:=⟨_,rfl⟩
       rw[←bX] at dh bW di
       have cv:h0.size≤aC:=Nat.le_trans KP.1 (Nat.le_of_eq bX.symm)
       have fe:n0≤aC:=Nat.le_trans Z0 cv
       have cw:qx≠aC:=Nat.ne_of_lt (Nat.lt_of_lt_of_le f.lt (Nat.le_of_eq bX.symm))
       have dj:qa≠aC:=Nat.ne_of_lt (Nat.lt_of_lt_of_le I.lt (Nat.le_of_eq bX.symm))
       have u:=u.ext aT
       have KP:=KP.ext aT
       have f:=f.ext aT
       have h:=h.ext aT
       have r:=r.ext aT
       have o:=o.ext aT
       have I:=I.ext aT
       have O:=O.ext aT
       have dk:Exa Z bF aC "java/math/MutableBigInteger":=dh
       have ff:Fld Z bF aC "java/math/MutableBigInteger" "offset" "I" (.int (0:Int32)):=bW (Or.inl (o_b hw 110 rfl)) (ty:= .int) (by decide)
       have fg:Fld Z bF aC "java/math/MutableBigInteger" "value" "[I" .null:=bW (Or.inl (o_b hw 112 rfl)) (ty:=(.array .int)) (by decide)
       have fh:Fld Z bF aC "java/math/MutableBigInteger" "intLen" "I" (.int (0:Int32)):=bW (Or.inl (o_b hw 114 rfl)) (ty:= .int) (by decide)
       refine o_i (mkF m 175 #[rv mb,rv dv,rv qx,iv 1,iv rc,iv ro,.unset,.unset] [(.ref aC)]) di ?_
       refine o_ab 176 91 cu a ?_
       refine o_d 178 92 cu a ?_
       have N:=KP
       have aj:=f.lt
       have bj:=I.lt
       have fi:=dk.lt
       refine o_7 181 1 1 3 8 93 224 225 103 226 cu a (o_gb l Z a0 hw [] aC ro bF n0 (Nat.le_trans Z0 KP.1) u fe dk ff fg fh) o_c' fc rfl fun _ hk hl fj fk=> ?_
       obtain ⟨rfl,fl,bm,bb,ao,br,x,fn,fp,fu,fv,aq,au⟩:=fk
       have fw:=Fr.app db fl
       have KP:=KP.trans bm (allS (Or.inr cv) all0)
       have f:=f.keep bm
       have h:=h.keep bm (ninS cw nin0)
       have r:=r.keep bm (ninS cw nin0)
       have o:=o.keep bm (ninS cw nin0)
       have I:=I.keep bm (ninS dj nin0)
       have O:=O.keep bm
       refine o_k [_] ?_
       have av:h0.size≤bb:=Nat.le_trans N.1 x
       have bt:qx≠bb:=Nat.ne_of_lt (Nat.lt_of_lt_of_le aj x)
       have bl:qa≠bb:=Nat.ne_of_lt (Nat.lt_of_lt_of_le bj x)
       have fx:aC≠bb:=Nat.ne_of_lt (Nat.lt_of_lt_of_le fi x)
       exact o_K 94 fj a hret aM (by exact ⟨aC,bb,qa,ao,bd,(0:Int32),(1:Int32),(1:Int32),oq,lq,zq,(o_bb [ro]),G,1,1,nq,rfl,fw,KP,cv,av,fx,aI,dj,bl,bD,fn,fp,fu,fv,aq,au,f,h,r,o,I,O,rfl,by decide,by decide,(o_dN hrv),bB,by omega,bC,fq,(o_dP (fun q=>hrv (fr.mpr q)))⟩)
     ·have N:=KP
      have aZ:=v.lt
      have a5:=y.lt
      have a6:=C.lt
      have a7:=B.lt
      have aj:=f.lt
      have a8:=A.lt
      refine o_aq 153 2 0 1 4 80 209 210 212 211 103 213 bT a (o_oa l Z a0 hw [] mb qx E (ft 0) fa n bS.heap n0 (Nat.le_trans Z0 KP.1) u cn aa ka kq Q aK T S aL bu bI v K L H y f h r o w A ht0 hcn co hn4) o_f0 cm v fun _ dl hm aU fy=> ?_
      obtain ⟨ro,qa,bd,oq,lq,zq,G,nq,rfl,fz,cx,aI,cq,-,h,r,o,I,O,bB,hn8,bC,fq,fr⟩:=fy
      have dm:=Fr.app cl fz
      have u:=u.keep cx (allS Q (allS aK all0))
      have KP:=KP.trans cx (allS (Or.inl (List.mem_of_getElem? (i:=0) rfl)) (allS (Or.inl (List.mem_of_getElem? (i:=1) rfl)) all0))
      have f:=f.keep cx
      refine o_k [_] ?_
      have aI:=aI.imp id (Nat.le_trans N.1)
      rw[←o_a6 ft] at fq fr
      have bD:=cq
      refine o_o 155 81 #[_,_,_,_,_,_,_,_] aU a ?_
      refine o_e 156 82 aU a ?_
      refine o_r 159 83 aU a rfl ((if0 _ _).trans (feq (by decide: ¬((1:Int32)=(0:Int32)))).1) ?_
      refine o_d 161 84 aU a ?_
      by_cases hrv:ro=(0:Int32)
      ·refine o_r 164 85 aU a rfl ((if0 _ _).trans (teq hrv).2) ?_
       obtain ⟨hn,bG,dp,fA,aV,dq,bY,-,dr⟩:=newO aU hx hZ aJ (o_b hw 133 rfl) (o_b hw 102 rfl) (o_b hw 103 rfl) rfl (g:=(mkF m 164 #[rv mb,rv dv,rv qx,iv 1,iv rc,iv ro,.unset,.unset] [])) rfl (D 86 rfl) (by decide) (by decide)
       obtain ⟨aD,bZ⟩: ∃z,z=dl.heap.size:=⟨_,rfl⟩
       rw[←bZ] at dq bY dr
       have cy:h0.size≤aD:=Nat.le_trans KP.1 (Nat.le_of_eq bZ.symm)
       have fB:n0≤aD:=Nat.le_trans Z0 cy
       have cz:qx≠aD:=Nat.ne_of_lt (Nat.lt_of_lt_of_le f.lt (Nat.le_of_eq bZ.symm))
       have du:qa≠aD:=Nat.ne_of_lt (Nat.lt_of_lt_of_le I.lt (Nat.le_of_eq bZ.symm))
       have u:=u.ext aV
       have KP:=KP.ext aV
       have f:=f.ext aV
       have h:=h.ext aV
       have r:=r.ext aV
       have o:=o.ext aV
       have I:=I.ext aV
       have O:=O.ext aV
       have dw:Exa Z bG aD "java/math/MutableBigInteger":=dq
       have fC:Fld Z bG aD "java/math/MutableBigInteger" "offset" "I" (.int (0:Int32)):=bY (Or.inl (o_b hw 110 rfl)) (ty:= .int) (by decide)
       have fD:Fld Z bG aD "java/math/MutableBigInteger" "value" "[I" .null:=bY (Or.inl (o_b hw 112 rfl)) (ty:=(.array .int)) (by decide)
       have fE:Fld Z bG aD "java/math/MutableBigInteger" "intLen" "I" (.int (0:Int32)):=bY (Or.inl (o_b hw 114 rfl)) (ty:= .int) (by decide)
       refine o_i (mkF m 167 #[rv mb,rv dv,rv qx,iv 1,iv rc,iv ro,.unset,.unset] [(.ref aD)]) dr ?_
       refine o_ab 168 87 dp a ?_
       have N:=KP
       have aj:=f.lt
       have bj:=I.lt
       have fF:=dw.lt
       refine o_7 171 0 1 3 8 88 231 105 103 107 dp a (o_dk l Z a0 hw [] aD bG n0 (Nat.le_trans Z0 KP.1) u fB dw fC fD fE) o_be fA rfl fun _ hp hq fG fH=> ?_
       obtain ⟨rfl,fI,bn,bb,ao,br,x,fJ,fK,fL,fM,aq,au⟩:=fH
       have fN:=Fr.app dm fI
       have KP:=KP.trans bn (allS (Or.inr cy) all0)
       have f:=f.keep bn
       have h:=h.keep bn (ninS cz nin0)
       have r:=r.keep bn (ninS cz nin0)
       have o:=o.keep bn (ninS cz nin0)
       have I:=I.keep bn (ninS du nin0)
       have O:=O.keep bn
       refine o_k [_] ?_
       have av:h0.size≤bb:=Nat.le_trans N.1 x
       have bt:qx≠bb:=Nat.ne_of_lt (Nat.lt_of_lt_of_le aj x)
       have bl:qa≠bb:=Nat.ne_of_lt (Nat.lt_of_lt_of_le bj x)
       have fO:aD≠bb:=Nat.ne_of_lt (Nat.lt_of_lt_of_le fF x)
       exact o_K 89 fG a hret aM (by exact ⟨aD,bb,qa,ao,bd,(0:Int32),(0:Int32),(1:Int32),oq,lq,zq,(fun _=>0),G,1,1,nq,rfl,fN,KP,cy,av,fO,aI,du,bl,bD,fJ,fK,fL,fM,aq,au,f,h,r,o,I,O,rfl,by decide,by decide,o_ca,bB,by omega,bC,fq,(o_dO (fr.mp hrv))⟩)
      ·refine o_p 172 85 aU a rfl ((if0 _ _).trans (feq hrv).2) ?_
       obtain ⟨hr,bH,cA,fP,aW,dx,b0,-,dy⟩:=newO aU hx hZ aJ (o_b hw 133 rfl) (o_b hw 102 rfl) (o_b hw 103 rfl) rfl (g:=(mkF m 172 #[rv mb,rv dv,rv qx,iv 1,iv rc,iv ro,.unset,.unset] [])) rfl (D 90 rfl) (by decide) (by decide)
       obtain ⟨aE,b5⟩: ∃z,z=dl.heap.size:=⟨_,rfl⟩
       rw[←b5] at dx b0 dy
       have cB:h0.size≤aE:=Nat.le_trans KP.1 (Nat.le_of_eq b5.symm)
       have fQ:n0≤aE:=Nat.le_trans Z0 cB
       have cC:qx≠aE:=Nat.ne_of_lt (Nat.lt_of_lt_of_le f.lt (Nat.le_of_eq b5.symm))
       have dA:qa≠aE:=Nat.ne_of_lt (Nat.lt_of_lt_of_le I.lt (Nat.le_of_eq b5.symm))
       have u:=u.ext aW
       have KP:=KP.ext aW
       have f:=f.ext aW
       have h:=h.ext aW
       have r:=r.ext aW
       have o:=o.ext aW
       have I:=I.ext aW
       have O:=O.ext aW
       have dB:Exa Z bH aE "java/math/MutableBigInteger":=dx
       have fR:Fld Z bH aE "java/math/MutableBigInteger" "offset" "I" (.int (0:Int32)):=b0 (Or.inl (o_b hw 110 rfl)) (ty:= .int) (by decide)
       have fS:Fld Z bH aE "java/math/MutableBigInteger" "value" "[I" .null:=b0 (Or.inl (o_b hw 112 rfl)) (ty:=(.array .int)) (by decide)
       have fT:Fld Z bH aE "java/math/MutableBigInteger" "intLen" "I" (.int (0:Int32)):=b0 (Or.inl (o_b hw 114 rfl)) (ty:= .int) (by decide)
       refine o_i (mkF m 175 #[rv mb,rv dv,rv qx,iv 1,iv rc,iv ro,.unset,.unset] [(.ref aE)]) dy ?_
       refine o_ab 176 91 cA a ?_
       refine o_d 178 92 cA a ?_
       have N:=KP
       have aj:=f.lt
       have bj:=I.lt
       have fU:=dB.lt
       refine o_7 181 1 1 3 8 93 224 225 103 226 cA a (o_gb l Z a0 hw [] aE ro bH n0 (Nat.le_trans Z0 KP.1) u fQ dB fR fS fT) o_c' fP rfl fun _ hs ht fV fW=> ?_
       obtain ⟨rfl,fX,bo,bb,ao,br,x,fY,fZ,f0,f1,aq,au⟩:=fW
       have f2:=Fr.app dm fX
       have KP:=KP.trans bo (allS (Or.inr cB) all0)
       have f:=f.keep bo
       have h:=h.keep bo (ninS cC nin0)
       have r:=r.keep bo (ninS cC nin0)
       have o:=o.keep bo (ninS cC nin0)
       have I:=I.keep bo (ninS dA nin0)
       have O:=O.keep bo
       refine o_k [_] ?_
       have av:h0.size≤bb:=Nat.le_trans N.1 x
       have bt:qx≠bb:=Nat.ne_of_lt (Nat.lt_of_lt_of_le aj x)
       have bl:qa≠bb:=Nat.ne_of_lt (Nat.lt_of_lt_of_le bj x)
       have f3:aE≠bb:=Nat.ne_of_lt (Nat.lt_of_lt_of_le fU x)
       exact o_K 94 fV a hret aM (by exact ⟨aE,bb,qa,ao,bd,(0:Int32),(1:Int32),(1:Int32),oq,lq,zq,(o_bb [ro]),G,1,1,nq,rfl,f2,KP,cB,av,f3,aI,dA,bl,bD,fY,fZ,f0,f1,aq,au,f,h,r,o,I,O,rfl,by decide,by decide,(o_dN hrv),bB,by omega,bC,fq,(o_dP (fun q=>hrv (fr.mpr q)))⟩)
    ·obtain rfl:=o_a7 (b:=2) hdn rfl
     refine o_z 184 72 aQ a rfl (feq (by decide: ¬((2:Int32)=(1:Int32)))).2 ?_
     refine o_c 185 97 aQ a ?_
     refine o_h 188 98 113 aQ a c_ H fun hu bp f4=> ?_
     refine o_B 190 99 6 bp a ?_
     refine o_z 264 100 bp a rfl (tlt (o_aA (j:=6) hcn rfl (by omega))).1 ?_
     refine o_c 265 136 bp a ?_
     refine o_c 266 137 bp a ?_
     refine o_c 267 138 bp a ?_
     refine o_e 268 139 bp a ?_
     have co:2≤n:=o_iB h1n aw ha0 ht0
     refine o_aD 271 3 0 4 24 140 261 262 264 263 103 265 bp a (o_n_ l Z a0 hw [] mb dv qx E fa ft n bS.heap n0 (Nat.le_trans Z0 KP.1) u cn aa dz ka kz kq Q aK T v K L H y C aF aG al B f h r o w A hcn co hn4 ha0 ht0 (ht1 rfl) hle) o_fZ f4 v fun _ hv hy f5 f6=> ?_
     obtain ⟨rm,ra,qa,kr,bd,oo,lr,zr,oq,lq,zq,F,G,nr,nz,nq,rfl,f7,f8,f9,sa_,f_,aI,f'⟩:=f6
     have N:=KP
     have ga:=Fr.app cl f7
     have KP:=KP.trans f8 (allS (Or.inl (List.mem_of_getElem? (i:=0) rfl)) (allS (Or.inl (List.mem_of_getElem? (i:=1) rfl)) all0))
     refine o_k [_] ?_
     exact o_K 141 f5 a hret aM (by exact ⟨rm,ra,qa,kr,bd,oo,lr,zr,oq,lq,zq,F,G,nr,nz,nq,rfl,ga,KP,Nat.le_trans N.1 f9,Nat.le_trans N.1 sa_,f_,aI.imp id (Nat.le_trans N.1),f'⟩)
 rcases Nat.lt_trichotomy n nd with hnn|hnn|hnn
 ·obtain ⟨hz,hA,gb,hB,gd⟩:=isOf hZ bq v
  obtain ⟨_,hD,hE,gf,gg,gi⟩:=o_bY aY hx aJ (mvT hZ (o_b hw 128 rfl)) (mvT hZ (o_b hw 129 rfl)) (notFace_of_selects (args:= #[]) (mvT hZ (o_b hw 131 rfl))) (mvT hZ (o_b hw 131 rfl)) (mvT hZ (o_b hw 130 rfl)) (by decide) (backOf (W:=0) (o_nA l Z a0 hw [] mb dv h0 n0 (Nat.le_trans Z0 KP.1) u cn dn H al (o_aA hcn hdn hnn)) hZ (o_b hw 132 rfl) (o_b hw 103 rfl) (by decide) (by decide)) gb gd (g:=(mkF m 52 #[rv mb,rv dv,rv qx,iv 1,.unset,.unset,.unset,.unset] [(.ref dv),(.ref mb)])) rfl (by rw[b9];rfl) (argsL:= [(.ref dv)]) (rest:= []) (lenOf o_db rfl) rfl (by show 2*0+_≤_;exact Nat.le_of_eq rfl) (D 27 rfl) rfl bq (kc:=0) (ks:=0) rfl rfl (by decide) (by decide)
  obtain ⟨rfl,gj,gk⟩:=gg
  have gl:=Fr.app N0 gj
  refine o_bC (mkF m 55 #[rv mb,rv dv,rv qx,iv 1,.unset,.unset,.unset,.unset] [(.int (-1:Int32))]) gi ?_
  exact J _ _ _ _ gf gk gl u KP v K L H y C aF aG al B f h r o w A R (Or.inl ⟨rfl,o_iC h1n hnn hd2 ht0⟩) (fun _=>by omega)
 ·obtain rfl:=hnn
  obtain rfl|rfl:n=1∨n=2:=by omega
  ·obtain rfl:=o_a7 (b:=1) hcn rfl
   obtain rfl:=o_a7 (b:=1) hdn rfl
   refine o_aq 55 1 0 0 0 27 128 129 131 130 103 132 aY a (o_nE l Z a0 hw [] mb aa ka (fa 0) dv dz kz (ft 0) h0 n0 (Nat.le_trans Z0 KP.1) u v K L H C aF aG al y B) o_db bq v fun _ hF hG gn gp=> ?_
   obtain ⟨rc,rfl,gq,gs,hC⟩:=gp
   have gu:=Fr.app N0 gq
   refine o_k [_] ?_
   exact J _ _ _ _ gn gs gu u KP v K L H y C aF aG al B f h r o w A R (by rw[o_a6,o_a6];exact hC) (fun _=>by decide)
  ·obtain rfl:=o_a7 (b:=2) hcn rfl
   obtain rfl:=o_a7 (b:=2) hdn rfl
   refine o_aq 55 1 0 0 0 27 128 129 131 130 103 132 aY a (o_nG l Z a0 hw [] mb aa ka (fa 0) (fa 1) dv dz kz (ft 0) (ft 1) h0 n0 (Nat.le_trans Z0 KP.1) u v K L H C aF aG al y B) o_db bq v fun _ hH hI gv gw=> ?_
   obtain ⟨rc,rfl,gx,gy,hC⟩:=gw
   have gA:=Fr.app N0 gx
   refine o_k [_] ?_
   exact J _ _ _ _ gv gy gA u KP v K L H y C aF aG al B f h r o w A R (by rw[o_bv,o_bv];exact hC) (fun _=>by decide)
 ·obtain ⟨hJ,hK,gB,hL,gC⟩:=isOf hZ bq v
  obtain ⟨_,hM,hN,gD,gE,gF⟩:=o_bY aY hx aJ (mvT hZ (o_b hw 128 rfl)) (mvT hZ (o_b hw 129 rfl)) (notFace_of_selects (args:= #[]) (mvT hZ (o_b hw 131 rfl))) (mvT hZ (o_b hw 131 rfl)) (mvT hZ (o_b hw 130 rfl)) (by decide) (backOf (W:=0) (o_nC l Z a0 hw [] mb dv h0 n0 (Nat.le_trans Z0 KP.1) u cn dn H al (o_aA hdn hcn hnn)) hZ (o_b hw 132 rfl) (o_b hw 103 rfl) (by decide) (by decide)) gB gC (g:=(mkF m 52 #[rv mb,rv dv,rv qx,iv 1,.unset,.unset,.unset,.unset] [(.ref dv),(.ref mb)])) rfl (by rw[b9];rfl) (argsL:= [(.ref dv)]) (rest:= []) (lenOf o_db rfl) rfl (by show 2*0+_≤_;exact Nat.le_of_eq rfl) (D 27 rfl) rfl bq (kc:=0) (ks:=0) rfl rfl (by decide) (by decide)
  obtain ⟨rfl,gG,gH⟩:=gE
  have gI:=Fr.app N0 gG
  refine o_bC (mkF m 55 #[rv mb,rv dv,rv qx,iv 1,.unset,.unset,.unset,.unset] [(.int (1:Int32))]) gF ?_
  exact J _ _ _ _ gD gH gI u KP v K L H y C aF aG al B f h r o w A R (Or.inr (Or.inr ⟨rfl,o_iD b8 hnn hn4 hd2 ha0⟩)) (fun q=>absurd q (by decide))
theorem o_oc (l:Launch)(Z:State)(a0:Array Value)(hw: ∀d∈tables_1,d.before a0 Z=true)(ws:List Jvm.Cond)(mb dv qx b:Addr)(A D:Int)(h0:Heap)(n0:Nat)(Z0:n0≤h0.size)(y:Old Z n0 h0)(z:n0≤qx)(B:n0≤b)(f:Exa Z h0 mb "java/math/MutableBigInteger")(hK:o_q l (⟨"java/math/MutableBigInteger","divideKnuth","(Ljava/math/MutableBigInteger;Ljava/math/MutableBigInteger;Z)Ljava/math/MutableBigInteger;"⟩:MethodName) [Jvm.Cond.code (⟨"java/math/MutableBigInteger","divideKnuth","(Ljava/math/MutableBigInteger;Ljava/math/MutableBigInteger;Z)Ljava/math/MutableBigInteger;"⟩:MethodName) jdk_2101_method_57_code 8 (some (.object "java/math/MutableBigInteger"))] ({frames:=4,cells:=4,slots:=28,locals:=106}:Room) #[(.ref mb),(.ref dv),(.ref qx),(.int (1:Int32))] Z h0 (o_bm Z qx b A D h0 n0)):
  o_q l (⟨"java/math/MutableBigInteger","divideKnuth","(Ljava/math/MutableBigInteger;Ljava/math/MutableBigInteger;)Ljava/math/MutableBigInteger;"⟩:MethodName) (Jvm.Cond.code (⟨"java/math/MutableBigInteger","divideKnuth","(Ljava/math/MutableBigInteger;Ljava/math/MutableBigInteger;)Ljava/math/MutableBigInteger;"⟩:MethodName) jdk_2101_method_56_code 3 (some (.object "java/math/MutableBigInteger"))::ws) ({frames:=5,cells:=4,slots:=28,locals:=130}:Room) #[(.ref mb),(.ref dv),(.ref qx)] Z h0 (o_bm Z qx b A D h0 n0):=by
 refine o_u (plainFor_of_name o_ag) (fun m=>o_me m mb dv qx) fun p e s m C E c s₁ hx g h j (k:s.vm.findClass "java/math/MutableBigInteger"=some m.cls) hnm hret X0 hZ e0=> ?_
 have a:=o_t hx g o_kG k hZ j hw
 have N0:=Fr.nil n0
 have KP:Keep h0 h0 [qx,b]:=Keep.refl _ _
 refine o_c 1 0 X0 a ?_
 refine o_c 2 1 X0 a ?_
 refine o_c 3 2 X0 a ?_
 refine o_g 4 3 1 X0 a ?_
 refine o_aq 7 3 0 4 28 4 123 124 126 125 103 127 X0 a hK o_fZ e0 f fun _ H I n o=> ?_
 obtain ⟨rm,ra,qa,kr,kq,oo,lr,zr,q,r,t,F,G,nr,nz,nq,rfl,u,v,w⟩:=o
 have x:=Fr.app N0 u
 have KP:=KP.trans v (allS (Or.inl (List.mem_of_getElem? (i:=0) rfl)) (allS (Or.inl (List.mem_of_getElem? (i:=1) rfl)) all0))
 refine o_k [_] ?_
 exact o_K 5 n a hret h (by exact ⟨rm,ra,qa,kr,kq,oo,lr,zr,q,r,t,F,G,nr,nz,nq,rfl,x,KP,w⟩)
def o_dm (Z:State)(A D:Int)(h0:Heap)(n0:Nat)(v:Option Value)(h:Heap)(L:List Loc):Prop:= ∃(ar:Addr) (a:ClassId) (xq b xr:Addr) (sg:Int32),v=some (.ref ar)∧Fr n0 L∧Keep h0 h []∧Arv Z h ar a (.object "java/math/BigInteger") (2:Int32) [(.ref xq),(.ref xr)] .null∧o_at Z h xq b (A/D)∧Exa Z h xr "java/math/BigInteger"∧Fld Z h xr "java/math/BigInteger" "signum" "I" (.int sg)∧(sg=0↔A%D=0)
theorem o_gj (l:Launch)(Z:State)(a0:Array Value)(hw: ∀d∈tables_1,d.before a0 Z=true)(ws:List Jvm.Cond)(mb zx:Addr)(h0:Heap)(n0:Nat)(Z0:n0≤h0.size)(i:Old Z n0 h0)(l2:Int32)(j:Fld Z h0 mb "java/math/MutableBigInteger" "intLen" "I" (.int l2))(hl0:l2=0)(SZ:Sta Z Z.heap "java/math/BigInteger" "ZERO" "Ljava/math/BigInteger;" (.ref zx)):
  o_q l (⟨"java/math/MutableBigInteger","toBigInteger","(I)Ljava/math/BigInteger;"⟩:MethodName) (Jvm.Cond.code (⟨"java/math/MutableBigInteger","toBigInteger","(I)Ljava/math/BigInteger;"⟩:MethodName) jdk_2101_method_9_code 2 (some (.object "java/math/BigInteger"))::ws) ({frames:=0,cells:=2,slots:=15,locals:=0}:Room) #[(.ref mb),(.int (1:Int32))] Z h0 (o_n9 Z mb zx h0 n0):=by
 refine o_u (plainFor_of_name o_ag) (fun m=>o_mf m mb (1:Int32)) fun p e s m u v c s₁ hx b k n (f:s.vm.findClass "java/math/MutableBigInteger"=some m.cls) hnm hret X0 hZ e0=> ?_
 have D:=o_S b o_c4
 have a:=o_t hx b o_c4 f hZ n hw
 have N0:=Fr.nil n0
 refine o_c 1 0 X0 a ?_
 refine o_h 4 1 113 X0 a e0 j fun w h o=> ?_
 refine o_p 11 2 h a rfl ((if0 _ _).trans (teq hl0).1) ?_
 obtain ⟨x,q,r,t⟩:=getS2 h hx hZ f (host:="") (Or.inl (o_b hw 152 rfl)) Via.refl o (SZ.ext i.2) (g:=(mkF m 11 #[rv mb,iv 1] [])) rfl (D 5 rfl)
 refine o_i (mkF m 14 #[rv mb,iv 1] [(.ref zx)]) t ?_
 exact o_K 6 q a hret k (by rw[r];exact ⟨rfl,N0,rfl⟩)
theorem o_od (l:Launch)(Z:State)(a0:Array Value)(hw: ∀d∈tables_1,d.before a0 Z=true)(ws:List Jvm.Cond)(ax tx:Addr)(fa ft:Nat→Int32)(n nd:Nat)(h0:Heap)(n0:Nat)(Z0:n0≤h0.size)(h:Old Z n0 h0)(zx:Addr)(cn dn:Int32)(aa S:Addr)(ka kz:ClassId)(k:Exa Z h0 ax "java/math/BigInteger")(u:Fld Z h0 ax "java/math/BigInteger" "signum" "I" (.int (1:Int32)))(ao:Fld Z h0 ax "java/math/BigInteger" "mag" "[I" (.ref aa))(v:o_x Z h0 aa ka cn fa)(K:Exa Z h0 aa "[I")(B:Exa Z h0 tx "java/math/BigInteger")(H:Fld Z h0 tx "java/math/BigInteger" "signum" "I" (.int (1:Int32)))(P:Fld Z h0 tx "java/math/BigInteger" "mag" "[I" (.ref S))(w:o_x Z h0 S kz dn ft)(e7:Exa Z h0 S "[I")(hcn:cn.toInt=n)(hdn:dn.toInt=nd)(h1n:1≤n)(hn4:n≤4)(c3:1≤nd)(hd2:nd≤2)(ha0:0<o_a (fa 0))(ht0:0<o_a (ft 0))(ht1:nd=2→o_a (ft 0)<2147483648)(hle:o_n fa n≤4503599627370496*o_n ft nd)(SZ:Sta Z Z.heap "java/math/BigInteger" "ZERO" "Ljava/math/BigInteger;" (.ref zx))(EZ:Exa Z Z.heap zx "java/math/BigInteger")(FZ:Fld Z Z.heap zx "java/math/BigInteger" "signum" "I" (.int (0:Int32)))(hzx:zx<n0):
  o_q l (⟨"java/math/BigInteger","divideAndRemainderKnuth","(Ljava/math/BigInteger;)[Ljava/math/BigInteger;"⟩:MethodName) (Jvm.Cond.code (⟨"java/math/BigInteger","divideAndRemainderKnuth","(Ljava/math/BigInteger;)[Ljava/math/BigInteger;"⟩:MethodName) jdk_2097_method_64_code 7 (some (.array (.object "java/math/BigInteger")))::ws) ({frames:=6,cells:=14,slots:=80,locals:=150}:Room) #[(.ref ax),(.ref tx)] Z h0 (o_dm Z (o_n fa n) (o_n ft nd) h0 n0):=by
 refine o_u (plainFor_of_name o_Y) (fun m=>o_mg m ax tx) fun p e s m bY c4 c s₁ hx bZ b0 bw (aD:s.vm.findClass "java/math/BigInteger"=some m.cls) hnm hret X0 hZ e0=> ?_
 have D:=o_S bZ o_fO
 have b:=o_t hx bZ o_fO aD hZ bw hw
 have N0:=Fr.nil n0
 have KP:Keep h0 h0 []:=Keep.refl _ _
 refine o_g 1 0 2 X0 b ?_
 obtain ⟨e8,bx,aE,b5,c5,Y,b6,b7,bz,b8⟩:=newRE X0 hx hZ aD (o_b hw 71 rfl) (o_b hw 100 rfl) e0 (g:=(mkF m 1 #[rv ax,rv tx,.unset,.unset,.unset,.unset,.unset] [(.int (2:Int32))])) rfl (D 1 rfl) rfl (by decide) (cap:=2) (by decide) (by decide) (by decide) (by decide) (ad:="[Ljava/math/BigInteger;") (by decide)
 obtain ⟨a,aK⟩: ∃z,z=h0.size:=⟨_,rfl⟩
 rw[←aK] at b6 b7 b8
 have a6:h0.size≤a:=Nat.le_trans KP.1 (Nat.le_of_eq aK.symm)
 have aL:n0≤a:=Nat.le_trans Z0 a6
 have c6:ax≠a:=Nat.ne_of_lt (Nat.lt_of_lt_of_le k.lt (Nat.le_of_eq aK.symm))
 have e9:aa≠a:=Nat.ne_of_lt (Nat.lt_of_lt_of_le v.lt (Nat.le_of_eq aK.symm))
 have e':tx≠a:=Nat.ne_of_lt (Nat.lt_of_lt_of_le B.lt (Nat.le_of_eq aK.symm))
 have fb:S≠a:=Nat.ne_of_lt (Nat.lt_of_lt_of_le w.lt (Nat.le_of_eq aK.symm))
 have h:=h.ext Y
 have KP:=KP.ext Y
 have k:=k.ext Y
 have u:=u.ext Y
 have ao:=ao.ext Y
 have v:=v.ext Y
 have K:=K.ext Y
 have B:=B.ext Y
 have H:=H.ext Y
 have P:=P.ext Y
 have w:=w.ext Y
 have t:Exa Z bx a "[Ljava/math/BigInteger;":=b7
 have r:Arv Z bx a aE (.object "java/math/BigInteger") (2:Int32) [.null,.null] .null:=(Arv.new b6 (by decide)).pad (pad_rep [] .null 2)
 refine o_i (mkF m 4 #[rv ax,rv tx,.unset,.unset,.unset,.unset,.unset] [(.ref a)]) b8 ?_
 refine o_bt 5 2 #[_,_,_,_,_,_,_] b5 b ?_
 obtain ⟨fc,aP,b9,c7,Q,b_,a7,-,b'⟩:=newO b5 hx hZ aD (o_b hw 101 rfl) (o_b hw 102 rfl) (o_b hw 103 rfl) c5 (g:=(mkF m 5 #[rv ax,rv tx,rv a,.unset,.unset,.unset,.unset] [])) rfl (D 3 rfl) (by decide) (by decide)
 obtain ⟨f,aF⟩: ∃z,z=bx.size:=⟨_,rfl⟩
 rw[←aF] at b_ a7 b'
 have a8:h0.size≤f:=Nat.le_trans KP.1 (Nat.le_of_eq aF.symm)
 have aG:n0≤f:=Nat.le_trans Z0 a8
 have a9:ax≠f:=Nat.ne_of_lt (Nat.lt_of_lt_of_le k.lt (Nat.le_of_eq aF.symm))
 have ca:aa≠f:=Nat.ne_of_lt (Nat.lt_of_lt_of_le v.lt (Nat.le_of_eq aF.symm))
 have bA:tx≠f:=Nat.ne_of_lt (Nat.lt_of_lt_of_le B.lt (Nat.le_of_eq aF.symm))
 have cb:S≠f:=Nat.ne_of_lt (Nat.lt_of_lt_of_le w.lt (Nat.le_of_eq aF.symm))
 have bB:a≠f:=Nat.ne_of_lt (Nat.lt_of_lt_of_le t.lt (Nat.le_of_eq aF.symm))
 have h:=h.ext Q
 have KP:=KP.ext Q
 have k:=k.ext Q
 have u:=u.ext Q
 have ao:=ao.ext Q
 have v:=v.ext Q
 have K:=K.ext Q
 have B:=B.ext Q
 have H:=H.ext Q
 have P:=P.ext Q
 have w:=w.ext Q
 have t:=t.ext Q
 have r:=r.ext Q
 have x:Exa Z aP f "java/math/MutableBigInteger":=b_
 have c8:Fld Z aP f "java/math/MutableBigInteger" "offset" "I" (.int (0:Int32)):=a7 (Or.inl (o_b hw 110 rfl)) (ty:= .int) (by decide)
 have c9:Fld Z aP f "java/math/MutableBigInteger" "value" "[I" .null:=a7 (Or.inl (o_b hw 112 rfl)) (ty:=(.array .int)) (by decide)
 have c_:Fld Z aP f "java/math/MutableBigInteger" "intLen" "I" (.int (0:Int32)):=a7 (Or.inl (o_b hw 114 rfl)) (ty:= .int) (by decide)
 refine o_i (mkF m 8 #[rv ax,rv tx,rv a,.unset,.unset,.unset,.unset] [(.ref f)]) b' ?_
 refine o_ab 9 4 b9 b ?_
 have ah:=KP
 have aq:=k.lt
 have a_:=v.lt
 have a':=B.lt
 have bb:=w.lt
 have ai:=t.lt
 have aM:=x.lt
 refine o_7 12 0 1 3 6 5 104 105 103 107 b9 b (o_dk l Z a0 hw [] f aP n0 (Nat.le_trans Z0 KP.1) h aG x c8 c9 c_) o_be c7 rfl fun _ cd fe ce c'=> ?_
 obtain ⟨rfl,da,L,M,kq,bd,aH,-,ae,af,T,N,au⟩:=c'
 have db:=Fr.app N0 da
 have h:=h.keep L (allS aG all0)
 have KP:=KP.trans L (allS (Or.inr a8) all0)
 have k:=k.keep L
 have u:=u.keep L (ninS a9 nin0)
 have ao:=ao.keep L (ninS a9 nin0)
 have v:=v.keep L (ninS ca nin0)
 have K:=K.keep L
 have B:=B.keep L
 have H:=H.keep L (ninS bA nin0)
 have P:=P.keep L (ninS bA nin0)
 have w:=w.keep L (ninS cb nin0)
 have t:=t.keep L
 have r:=r.keep L (ninS bB nin0)
 have x:=x.keep L
 refine o_k [_] ?_
 have cg:h0.size≤M:=Nat.le_trans ah.1 aH
 have ci:ax≠M:=Nat.ne_of_lt (Nat.lt_of_lt_of_le aq aH)
 have dc:aa≠M:=Nat.ne_of_lt (Nat.lt_of_lt_of_le a_ aH)
 have dd:tx≠M:=Nat.ne_of_lt (Nat.lt_of_lt_of_le a' aH)
 have de:S≠M:=Nat.ne_of_lt (Nat.lt_of_lt_of_le bb aH)
 have cj:a≠M:=Nat.ne_of_lt (Nat.lt_of_lt_of_le ai aH)
 have df:f≠M:=Nat.ne_of_lt (Nat.lt_of_lt_of_le aM aH)
 have N:o_x Z cd.heap M kq (1:Int32) (fun _=>0):=N
 refine o_bt 13 6 #[_,_,_,_,_,_,_] ce b ?_
 obtain ⟨ff,aQ,bC,dg,C,ck,be,-,cl⟩:=newO ce hx hZ aD (o_b hw 101 rfl) (o_b hw 102 rfl) (o_b hw 103 rfl) rfl (g:=(mkF m 13 #[rv ax,rv tx,rv a,rv f,.unset,.unset,.unset] [])) rfl (D 7 rfl) (by decide) (by decide)
 obtain ⟨i,av⟩: ∃z,z=cd.heap.size:=⟨_,rfl⟩
 rw[←av] at ck be cl
 have cm:h0.size≤i:=Nat.le_trans KP.1 (Nat.le_of_eq av.symm)
 have co:n0≤i:=Nat.le_trans Z0 cm
 have dh:ax≠i:=Nat.ne_of_lt (Nat.lt_of_lt_of_le k.lt (Nat.le_of_eq av.symm))
 have cp:aa≠i:=Nat.ne_of_lt (Nat.lt_of_lt_of_le v.lt (Nat.le_of_eq av.symm))
 have cq:tx≠i:=Nat.ne_of_lt (Nat.lt_of_lt_of_le B.lt (Nat.le_of_eq av.symm))
 have di:S≠i:=Nat.ne_of_lt (Nat.lt_of_lt_of_le w.lt (Nat.le_of_eq av.symm))
 have dj:a≠i:=Nat.ne_of_lt (Nat.lt_of_lt_of_le t.lt (Nat.le_of_eq av.symm))
 have bf:f≠i:=Nat.ne_of_lt (Nat.lt_of_lt_of_le x.lt (Nat.le_of_eq av.symm))
 have cr:M≠i:=Nat.ne_of_lt (Nat.lt_of_lt_of_le N.lt (Nat.le_of_eq av.symm))
 have h:=h.ext C
 have KP:=KP.ext C
 have k:=k.ext C
 have u:=u.ext C
 have ao:=ao.ext C
 have v:=v.ext C
 have K:=K.ext C
 have B:=B.ext C
 have H:=H.ext C
 have P:=P.ext C
 have w:=w.ext C
 have t:=t.ext C
 have r:=r.ext C
 have x:=x.ext C
 have ae:=ae.ext C
 have af:=af.ext C
 have T:=T.ext C
 have N:=N.ext C
 have au:=au.ext C
 have U:Exa Z aQ i "java/math/MutableBigInteger":=ck
 have dk:Fld Z aQ i "java/math/MutableBigInteger" "offset" "I" (.int (0:Int32)):=be (Or.inl (o_b hw 110 rfl)) (ty:= .int) (by decide)
 have dl:Fld Z aQ i "java/math/MutableBigInteger" "value" "[I" .null:=be (Or.inl (o_b hw 112 rfl)) (ty:=(.array .int)) (by decide)
 have dm:Fld Z aQ i "java/math/MutableBigInteger" "intLen" "I" (.int (0:Int32)):=be (Or.inl (o_b hw 114 rfl)) (ty:= .int) (by decide)
 refine o_i (mkF m 16 #[rv ax,rv tx,rv a,rv f,.unset,.unset,.unset] [(.ref i)]) cl ?_
 refine o_ab 17 8 bC b ?_
 refine o_c 18 9 bC b ?_
 refine o_h 21 10 40 bC b dg ao fun fg dp dq=> ?_
 refine o_7 24 1 1 4 9 11 115 116 103 117 dp b (o_dl l Z a0 hw [] i aa cn aQ n0 (Nat.le_trans Z0 KP.1) h co U dk dl dm ka _ cp v) o_da dq rfl fun _ dr fh ct du=> ?_
 obtain ⟨rfl,dv,E,-,aR,aS,aT⟩:=du
 have dw:=Fr.app db dv
 have h:=h.keep E (allS co all0)
 have KP:=KP.trans E (allS (Or.inr cm) all0)
 have k:=k.keep E
 have u:=u.keep E (ninS dh nin0)
 have v:=v.keep E (ninS cp nin0)
 have K:=K.keep E
 have B:=B.keep E
 have H:=H.keep E (ninS cq nin0)
 have P:=P.keep E (ninS cq nin0)
 have w:=w.keep E (ninS di nin0)
 have t:=t.keep E
 have r:=r.keep E (ninS dj nin0)
 have x:=x.keep E
 have ae:=ae.keep E (ninS bf nin0)
 have af:=af.keep E (ninS bf nin0)
 have T:=T.keep E (ninS bf nin0)
 have N:=N.keep E (ninS cr nin0)
 have au:=au.keep E
 have U:=U.keep E
 refine o_k [_] ?_
 refine o_1 26 12 #[_,_,_,_,_,_,_] ct b ?_
 obtain ⟨fi,aU,bD,dx,y,cu,bg,-,cv⟩:=newO ct hx hZ aD (o_b hw 101 rfl) (o_b hw 102 rfl) (o_b hw 103 rfl) rfl (g:=(mkF m 26 #[rv ax,rv tx,rv a,rv f,rv i,.unset,.unset] [])) rfl (D 13 rfl) (by decide) (by decide)
 obtain ⟨o,aj⟩: ∃z,z=dr.heap.size:=⟨_,rfl⟩
 rw[←aj] at cu bg cv
 have cw:h0.size≤o:=Nat.le_trans KP.1 (Nat.le_of_eq aj.symm)
 have cx:n0≤o:=Nat.le_trans Z0 cw
 have dy:ax≠o:=Nat.ne_of_lt (Nat.lt_of_lt_of_le k.lt (Nat.le_of_eq aj.symm))
 have dA:aa≠o:=Nat.ne_of_lt (Nat.lt_of_lt_of_le v.lt (Nat.le_of_eq aj.symm))
 have dB:tx≠o:=Nat.ne_of_lt (Nat.lt_of_lt_of_le B.lt (Nat.le_of_eq aj.symm))
 have cy:S≠o:=Nat.ne_of_lt (Nat.lt_of_lt_of_le w.lt (Nat.le_of_eq aj.symm))
 have dC:a≠o:=Nat.ne_of_lt (Nat.lt_of_lt_of_le t.lt (Nat.le_of_eq aj.symm))
 have bh:f≠o:=Nat.ne_of_lt (Nat.lt_of_lt_of_le x.lt (Nat.le_of_eq aj.symm))
 have cz:M≠o:=Nat.ne_of_lt (Nat.lt_of_lt_of_le N.lt (Nat.le_of_eq aj.symm))
 have bE:i≠o:=Nat.ne_of_lt (Nat.lt_of_lt_of_le U.lt (Nat.le_of_eq aj.symm))
 have h:=h.ext y
 have KP:=KP.ext y
 have k:=k.ext y
 have u:=u.ext y
 have v:=v.ext y
 have K:=K.ext y
 have B:=B.ext y
 have H:=H.ext y
 have P:=P.ext y
 have w:=w.ext y
 have t:=t.ext y
 have r:=r.ext y
 have x:=x.ext y
 have ae:=ae.ext y
 have af:=af.ext y
 have T:=T.ext y
 have N:=N.ext y
 have au:=au.ext y
 have U:=U.ext y
 have aR:=aR.ext y
 have aS:=aS.ext y
 have aT:=aT.ext y
 have aV:Exa Z aU o "java/math/MutableBigInteger":=cu
 have dD:Fld Z aU o "java/math/MutableBigInteger" "offset" "I" (.int (0:Int32)):=bg (Or.inl (o_b hw 110 rfl)) (ty:= .int) (by decide)
 have dE:Fld Z aU o "java/math/MutableBigInteger" "value" "[I" .null:=bg (Or.inl (o_b hw 112 rfl)) (ty:=(.array .int)) (by decide)
 have dF:Fld Z aU o "java/math/MutableBigInteger" "intLen" "I" (.int (0:Int32)):=bg (Or.inl (o_b hw 114 rfl)) (ty:= .int) (by decide)
 refine o_i (mkF m 29 #[rv ax,rv tx,rv a,rv f,rv i,.unset,.unset] [(.ref o)]) cv ?_
 refine o_ab 30 14 bD b ?_
 refine o_c 31 15 bD b ?_
 refine o_h 34 16 40 bD b dx P fun fj dG dH=> ?_
 refine o_7 37 1 1 5 12 17 115 116 103 117 dG b (o_dl l Z a0 hw [] o S dn aU n0 (Nat.le_trans Z0 KP.1) h cx aV dD dE dF kz _ cy w) o_da dH rfl fun _ cA fk aW dI=> ?_
 obtain ⟨rfl,dJ,A,-,dK,dL,dM⟩:=dI
 have dN:=Fr.app dw dJ
 have h:=h.keep A (allS cx all0)
 have KP:=KP.trans A (allS (Or.inr cw) all0)
 have k:=k.keep A
 have u:=u.keep A (ninS dy nin0)
 have v:=v.keep A (ninS dA nin0)
 have K:=K.keep A
 have B:=B.keep A
 have H:=H.keep A (ninS dB nin0)
 have w:=w.keep A (ninS cy nin0)
 have t:=t.keep A
 have r:=r.keep A (ninS dC nin0)
 have x:=x.keep A
 have ae:=ae.keep A (ninS bh nin0)
 have af:=af.keep A (ninS bh nin0)
 have T:=T.keep A (ninS bh nin0)
 have N:=N.keep A (ninS cz nin0)
 have au:=au.keep A
 have U:=U.keep A
 have aR:=aR.keep A (ninS bE nin0)
 have aS:=aS.keep A (ninS bE nin0)
 have aT:=aT.keep A (ninS bE nin0)
 have aV:=aV.keep A
 refine o_k [_] ?_
 refine o_1 39 18 #[_,_,_,_,_,_,_] aW b ?_
 refine o_l 41 19 aW b ?_
 refine o_l 43 20 aW b ?_
 refine o_c 44 21 aW b ?_
 have ah:=KP
 have aq:=k.lt
 have a_:=v.lt
 have a':=B.lt
 have bb:=w.lt
 have ai:=t.lt
 have aM:=x.lt
 have cB:=N.lt
 have cC:=U.lt
 have cD:=aV.lt
 refine o_aq 47 2 0 9 40 22 118 119 121 120 103 122 aW b (o_oc l Z a0 hw [] i o f M (o_n fa n) (o_n ft nd) cA.heap n0 (Nat.le_trans Z0 KP.1) h aG bd U (o_ob l Z a0 hw [] i o f M fa ft n nd cA.heap n0 (Nat.le_trans Z0 KP.1) h cn dn aa S ka kz kq aG bd (Ne.symm bf) (Ne.symm cr) (Ne.symm bh) (Ne.symm cz) ca dc cb de df U aR aS aT v aV dK dL dM w x ae af T N au K hcn hdn h1n hn4 c3 hd2 ha0 ht0 ht1 hle)) o_kX rfl U fun _ bF fl aN dO=> ?_
 obtain ⟨rm,ra,qa,kr,dP,oo,lr,zr,oq,lq,zq,F,G,nr,nz,nq,rfl,dS,ay,ak,al,dT,bk,bl,cE,dU,V,aA,aB,aw,am,aC,-,ae,af,T,cF,dV,hzr,hnr,hn9,dW,dX,hn8,cG,fq,fr⟩:=dO
 have cI:=Fr.app dN dS
 have h:=h.keep ay (allS aG (allS bd all0))
 have KP:=KP.trans ay (allS (Or.inr a8) (allS (Or.inr cg) all0))
 have k:=k.keep ay
 have u:=u.keep ay (ninS a9 (ninS ci nin0))
 have H:=H.keep ay (ninS bA (ninS dd nin0))
 have t:=t.keep ay
 have r:=r.keep ay (ninS bB (ninS cj nin0))
 have x:=x.keep ay
 refine o_k [_] ?_
 have cJ:h0.size≤rm:=Nat.le_trans ah.1 ak
 have fn:ax≠rm:=Nat.ne_of_lt (Nat.lt_of_lt_of_le aq ak)
 have fp:aa≠rm:=Nat.ne_of_lt (Nat.lt_of_lt_of_le a_ ak)
 have fu:tx≠rm:=Nat.ne_of_lt (Nat.lt_of_lt_of_le a' ak)
 have fv:S≠rm:=Nat.ne_of_lt (Nat.lt_of_lt_of_le bb ak)
 have bm:a≠rm:=Nat.ne_of_lt (Nat.lt_of_lt_of_le ai ak)
 have bG:f≠rm:=Nat.ne_of_lt (Nat.lt_of_lt_of_le aM ak)
 have fw:M≠rm:=Nat.ne_of_lt (Nat.lt_of_lt_of_le cB ak)
 have fx:i≠rm:=Nat.ne_of_lt (Nat.lt_of_lt_of_le cC ak)
 have fy:o≠rm:=Nat.ne_of_lt (Nat.lt_of_lt_of_le cD ak)
 have cK:h0.size≤ra:=Nat.le_trans ah.1 al
 have fz:ax≠ra:=Nat.ne_of_lt (Nat.lt_of_lt_of_le aq al)
 have fA:aa≠ra:=Nat.ne_of_lt (Nat.lt_of_lt_of_le a_ al)
 have fB:tx≠ra:=Nat.ne_of_lt (Nat.lt_of_lt_of_le a' al)
 have fC:S≠ra:=Nat.ne_of_lt (Nat.lt_of_lt_of_le bb al)
 have cL:a≠ra:=Nat.ne_of_lt (Nat.lt_of_lt_of_le ai al)
 have dY:f≠ra:=Nat.ne_of_lt (Nat.lt_of_lt_of_le aM al)
 have fD:M≠ra:=Nat.ne_of_lt (Nat.lt_of_lt_of_le cB al)
 have fE:i≠ra:=Nat.ne_of_lt (Nat.lt_of_lt_of_le cC al)
 have fF:o≠ra:=Nat.ne_of_lt (Nat.lt_of_lt_of_le cD al)
 have cM:=Nat.le_trans Z0 cJ
 have cN:=Nat.le_trans Z0 cK
 have cO:=o_fl bk bd (Nat.le_trans Z0 ah.1)
 have dZ:=o_fl bk cg ah.1
 have cP:=o_bR bk (Ne.symm cj) ai
 have d0:=o_bR bk (Ne.symm ci) aq
 refine o_1 49 23 #[_,_,_,_,_,_,_] aN b ?_
 refine o_c 50 24 aN b ?_
 refine o_g 51 25 0 aN b ?_
 refine o_c 52 26 aN b ?_
 refine o_c 53 27 aN b ?_
 refine o_h 56 28 38 aN b rfl u fun fG cQ d1=> ?_
 refine o_c 57 29 cQ b ?_
 refine o_h 60 30 38 cQ b d1 H fun fH aX bH=> ?_
 refine o_E 63 31 aX b rfl (teq (by decide:(1:Int32)=(1:Int32))).2 ?_
 refine o_g 64 32 1 aX b ?_
 refine o_w 68 33 aX b ?_
 have J: ∀(T_:State) (O:Heap) (L_:List Loc) (xq bq:Addr),Stand p l e ({frames:=6,cells:=14,slots:=80,locals:=150}:Room) s m #[(.ref ax),(.ref tx)] bY c4 c T_ L_ 11 55→T_.heap=O→Fr n0 L_→Old Z n0 O→Keep h0 O []→Exa Z O ax "java/math/BigInteger"→Fld Z O ax "java/math/BigInteger" "signum" "I" (.int (1:Int32))→Exa Z O a "[Ljava/math/BigInteger;"→Arv Z O a aE (.object "java/math/BigInteger") (2:Int32) [.null,.null] .null→Exa Z O rm "java/math/MutableBigInteger"→Fld Z O rm "java/math/MutableBigInteger" "offset" "I" (.int oo)→Fld Z O rm "java/math/MutableBigInteger" "value" "[I" (.ref ra)→Fld Z O rm "java/math/MutableBigInteger" "intLen" "I" (.int lr)→o_x Z O ra kr zr F→Exa Z O ra "[I"→o_at Z O xq bq (o_n fa n/o_n ft nd)→xq≠a→bq≠a→xq≠rm→bq≠rm→xq≠ra→bq≠ra→o_f p e bY (o_V s (o_dm Z (o_n fa n) (o_n ft nd) h0 n0) ({frames:=6,cells:=14,slots:=80,locals:=150}:Room).cells ({frames:=6,cells:=14,slots:=80,locals:=150}:Room).slots) T_ (mkF m 71 #[rv ax,rv tx,rv a,rv f,rv i,rv o,rv rm] [(.ref xq),(.int (0:Int32)),(.ref a)]):=by
  intro fI fJ fK xq bq d2 d3 d4 h KP k u t r V aA aB aw am aC I bJ aY d5 bK d6 bL
  obtain ⟨fL,bM,cS,cT,d7,d8,d9⟩:=id r
  obtain ⟨fM,bN,aO,d_,R,d'⟩:=stR d2 hx hZ d3 bM (j:=(0:Int32)) (inb_of cT ⟨by decide,by decide⟩) rfl (Sto.ofV bM cS bz (Ins.self I.1)) (g:=(mkF m 71 #[rv ax,rv tx,rv a,rv f,rv i,rv o,rv rm] [(.ref xq),(.int (0:Int32)),(.ref a)])) rfl rfl (D 36 rfl)
  refine o_i (mkF m 72 #[rv ax,rv tx,rv a,rv f,rv i,rv o,rv rm] []) d' ?_
  have cU:=Fr.snoc aO d4 aL
  have ea:Arv Z bN a aE (.object "java/math/BigInteger") (2:Int32) [(.ref xq),.null] .null:=Arv.set bM cS cT d7 d8 d9 rfl R 0 rfl (Nat.le_of_ble_eq_true rfl)
  have h:=h.wr R aL
  have KP:=KP.wr R (Or.inr a6)
  have k:=k.wr R
  have u:=u.other R (Or.inl c6)
  have t:=t.wr R
  have V:=V.wr R
  have aA:=aA.other R (Or.inl (Ne.symm bm))
  have aB:=aB.other R (Or.inl (Ne.symm bm))
  have aw:=aw.other R (Or.inl (Ne.symm bm))
  have am:=am.other R (Ne.symm cL)
  have aC:=aC.wr R
  have I:=I.wr R bJ aY
  have r:=ea
  refine o_c 73 37 aO b ?_
  refine o_g 74 38 1 aO b ?_
  refine o_l 76 39 aO b ?_
  refine o_c 77 40 aO b ?_
  refine o_h 80 41 38 aO b d_ u fun fN cV bO=> ?_
  by_cases hl0:lr=0
  ·obtain ⟨fO,fP,eb,fQ,ec⟩:=isOf hZ bO V
   obtain ⟨_,fR,fS,ed,ef,eg⟩:=o_bY cV hx aD (mvT hZ (o_b hw 147 rfl)) (mvT hZ (o_b hw 148 rfl)) (notFace_of_selects (args:= #[]) (mvT hZ (o_b hw 150 rfl))) (mvT hZ (o_b hw 150 rfl)) (mvT hZ (o_b hw 149 rfl)) (by decide) (backOf (W:=2) (o_gj l Z a0 hw [] rm zx bN n0 (Nat.le_trans Z0 KP.1) h lr aw hl0 SZ) hZ (o_b hw 151 rfl) (o_b hw 103 rfl) (by decide) (by decide)) eb ec (g:=(mkF m 80 #[rv ax,rv tx,rv a,rv f,rv i,rv o,rv rm] [(.int (1:Int32)),(.ref rm),(.int (1:Int32)),(.ref a)])) rfl (by rw[bw];rfl) (argsL:= [(.int (1:Int32))]) (rest:= [(.int (1:Int32)),(.ref a)]) (lenOf o_dc rfl) rfl (by show 2*0+_≤_;exact Nat.le_of_eq rfl) (D 42 rfl) rfl bO (kc:=13) (ks:=70) rfl rfl (by decide) (by decide)
   obtain ⟨rfl,eh,ei⟩:=ef
   have ej:=Fr.app cU eh
   refine o_bC (mkF m 83 #[rv ax,rv tx,rv a,rv f,rv i,rv o,rv rm] [(.ref zx),(.int (1:Int32)),(.ref a)]) eg ?_
   have bn:=EZ.ext h.2
   have bP:=FZ.ext h.2
   have bo:zx≠a:=Nat.ne_of_lt (Nat.lt_of_lt_of_le hzx aL)
   obtain ⟨fT,bQ,cW,cX,ek,el,em⟩:=id r
   obtain ⟨fU,eo,bR,ep,aZ,er⟩:=stR ed hx hZ ei bQ (j:=(1:Int32)) (inb_of cX ⟨by decide,by decide⟩) rfl (Sto.ofV bQ cW bz (Ins.self bn)) (g:=(mkF m 83 #[rv ax,rv tx,rv a,rv f,rv i,rv o,rv rm] [(.ref zx),(.int (1:Int32)),(.ref a)])) rfl rfl (D 43 rfl)
   refine o_i (mkF m 84 #[rv ax,rv tx,rv a,rv f,rv i,rv o,rv rm] []) er ?_
   have es:=Fr.snoc bR ej aL
   have et:Arv Z eo a aE (.object "java/math/BigInteger") (2:Int32) [(.ref xq),(.ref zx)] .null:=Arv.set bQ cW cX ek el em rfl aZ 1 rfl (Nat.le_of_ble_eq_true rfl)
   have KP:=KP.wr aZ (Or.inr a6)
   have I:=I.wr aZ bJ aY
   have bn:=bn.wr aZ
   have bP:=bP.other aZ (Or.inl bo)
   have r:=et
   refine o_c 85 44 bR b ?_
   exact o_K 45 bR b hret b0 (by rw[ep];exact ⟨a,aE,xq,bq,zx,(0:Int32),rfl,es,KP,r,I,bn,bP,o_dO (fr.mp hl0)⟩)
  ·obtain ⟨zc,z1,z2,z3,z4,z5,z6⟩:=dW
   have bp:zc<nr:=Classical.byContradiction fun q=>hl0 (o_cS (by omega))
   have ah:=KP
   have aq:=k.lt
   have ai:=t.lt
   have bt:=V.lt
   have bu:=am.lt
   have eu:=I.lt
   have ev:=I.ltT
   refine o_aq 83 1 2 13 70 42 147 148 150 149 103 151 cV b (o_gi l Z a0 hw [] rm ra F lr zc bN n0 (Nat.le_trans Z0 KP.1) h kr oo zr (nr-zc) nz cM cN dT V aA aB aw am aC (z5 bp) z4 (by omega) hzr (by omega) (by omega)) o_dc bO V fun _ fV fW ew ex=> ?_
   obtain ⟨xr,br,kb,rfl,ey,bS,aI,hb_,fY,bv,bT,fZ,f0,f1⟩:=ex
   have ez:=Fr.app cU ey
   have KP:=KP.trans bS (allS (Or.inr cJ) (allS (Or.inr cK) all0))
   have r:=r.keep bS (ninS bm (ninS cL nin0))
   have I:=I.keep bS (ninS d5 (ninS d6 nin0)) (ninS bK (ninS bL nin0))
   refine o_k [_,_,_] ?_
   have f2:h0.size≤xr:=Nat.le_trans ah.1 aI
   have f3:ax≠xr:=Nat.ne_of_lt (Nat.lt_of_lt_of_le aq aI)
   have eA:a≠xr:=Nat.ne_of_lt (Nat.lt_of_lt_of_le ai aI)
   have f4:rm≠xr:=Nat.ne_of_lt (Nat.lt_of_lt_of_le bt aI)
   have f5:ra≠xr:=Nat.ne_of_lt (Nat.lt_of_lt_of_le bu aI)
   have f6:xq≠xr:=Nat.ne_of_lt (Nat.lt_of_lt_of_le eu aI)
   have f7:bq≠xr:=Nat.ne_of_lt (Nat.lt_of_lt_of_le ev aI)
   obtain ⟨f8,bU,cY,cZ,eB,eC,eD⟩:=id r
   obtain ⟨f9,eE,bV,eF,a5,eG⟩:=stR ew hx hZ rfl bU (j:=(1:Int32)) (inb_of cZ ⟨by decide,by decide⟩) rfl (Sto.ofV bU cY bz (Ins.self bv)) (g:=(mkF m 83 #[rv ax,rv tx,rv a,rv f,rv i,rv o,rv rm] [(.ref xr),(.int (1:Int32)),(.ref a)])) rfl rfl (D 43 rfl)
   refine o_i (mkF m 84 #[rv ax,rv tx,rv a,rv f,rv i,rv o,rv rm] []) eG ?_
   have eH:=Fr.snoc bV ez aL
   have eI:Arv Z eE a aE (.object "java/math/BigInteger") (2:Int32) [(.ref xq),(.ref xr)] .null:=Arv.set bU cY cZ eB eC eD rfl a5 1 rfl (Nat.le_of_ble_eq_true rfl)
   have KP:=KP.wr a5 (Or.inr a6)
   have I:=I.wr a5 bJ aY
   have bv:=bv.wr a5
   have bT:=bT.other a5 (Or.inl (Ne.symm eA))
   have r:=eI
   refine o_c 85 44 bV b ?_
   exact o_K 45 bV b hret b0 (by rw[eF];exact ⟨a,aE,xq,bq,xr,(1:Int32),rfl,eH,KP,r,I,bv,bT,o_dP (fun q=>hl0 (fr.mpr q))⟩)
 by_cases hl0:lq=0
 ·obtain ⟨f_,f',eJ,ga,eK⟩:=isOf hZ bH x
  obtain ⟨_,gb,gd,eL,eM,eN⟩:=o_bY aX hx aD (mvT hZ (o_b hw 147 rfl)) (mvT hZ (o_b hw 148 rfl)) (notFace_of_selects (args:= #[]) (mvT hZ (o_b hw 150 rfl))) (mvT hZ (o_b hw 150 rfl)) (mvT hZ (o_b hw 149 rfl)) (by decide) (backOf (W:=2) (o_gj l Z a0 hw [] f zx bF.heap n0 (Nat.le_trans Z0 KP.1) h lq T hl0 SZ) hZ (o_b hw 151 rfl) (o_b hw 103 rfl) (by decide) (by decide)) eJ eK (g:=(mkF m 68 #[rv ax,rv tx,rv a,rv f,rv i,rv o,rv rm] [(.int (1:Int32)),(.ref f),(.int (0:Int32)),(.ref a)])) rfl (by rw[bw];rfl) (argsL:= [(.int (1:Int32))]) (rest:= [(.int (0:Int32)),(.ref a)]) (lenOf o_dc rfl) rfl (by show 2*0+_≤_;exact Nat.le_of_eq rfl) (D 35 rfl) rfl bH (kc:=11) (ks:=55) rfl rfl (by decide) (by decide)
  obtain ⟨rfl,eO,eP⟩:=eM
  have eQ:=Fr.app cI eO
  refine o_bC (mkF m 71 #[rv ax,rv tx,rv a,rv f,rv i,rv o,rv rm] [(.ref zx),(.int (0:Int32)),(.ref a)]) eN ?_
  have I:o_at Z bF.heap zx zx (o_n fa n/o_n ft nd):=⟨EZ.ext h.2,Or.inl ⟨by rw[←fq];exact o_iE cG hl0,rfl,FZ.ext h.2⟩⟩
  have bo:zx≠a:=Nat.ne_of_lt (Nat.lt_of_lt_of_le hzx aL)
  have c0:zx≠rm:=Nat.ne_of_lt (Nat.lt_of_lt_of_le hzx cM)
  have c2:zx≠ra:=Nat.ne_of_lt (Nat.lt_of_lt_of_le hzx cN)
  exact J _ _ _ zx zx eL eP eQ h KP k u t r V aA aB aw am aC I bo bo c0 c0 c2 c2
 ·obtain ⟨zc,z1,z2,z3,z4,z5,z6⟩:=cG
  have bp:zc<nq:=Classical.byContradiction fun q=>hl0 (o_cS (by omega))
  have ah:=KP
  have aq:=k.lt
  have ai:=t.lt
  have aM:=x.lt
  have eR:=cF.lt
  have bt:=V.lt
  have bu:=am.lt
  refine o_aq 71 1 2 11 55 35 147 148 150 149 103 151 aX b (o_gi l Z a0 hw [] f qa G lq zc bF.heap n0 (Nat.le_trans Z0 KP.1) h dP oq zq (nq-zc) nq aG cO dU x ae af T cF dV (z5 bp) z4 (by omega) dX (by omega) (by omega)) o_dc bH x fun _ eS gf eT eU=> ?_
  obtain ⟨xq,bq,kb,rfl,eV,X,aJ,hb_,gg,eW,eX,eY,eZ,e2⟩:=eU
  have e3:=Fr.app cI eV
  have h:=h.keep X (allS aG (allS cO all0))
  have KP:=KP.trans X (allS (Or.inr a8) (allS (Or.inr dZ) all0))
  have k:=k.keep X
  have u:=u.keep X (ninS a9 (ninS (Ne.symm d0) nin0))
  have t:=t.keep X
  have r:=r.keep X (ninS bB (ninS (Ne.symm cP) nin0))
  have V:=V.keep X
  have aA:=aA.keep X (ninS (Ne.symm bG) (ninS (Ne.symm bl) nin0))
  have aB:=aB.keep X (ninS (Ne.symm bG) (ninS (Ne.symm bl) nin0))
  have aw:=aw.keep X (ninS (Ne.symm bG) (ninS (Ne.symm bl) nin0))
  have am:=am.keep X (ninS (Ne.symm dY) (ninS (Ne.symm cE) nin0))
  have aC:=aC.keep X
  refine o_k [_,_,_] ?_
  have gi:h0.size≤xq:=Nat.le_trans ah.1 aJ
  have gj:ax≠xq:=Nat.ne_of_lt (Nat.lt_of_lt_of_le aq aJ)
  have e4:a≠xq:=Nat.ne_of_lt (Nat.lt_of_lt_of_le ai aJ)
  have gk:f≠xq:=Nat.ne_of_lt (Nat.lt_of_lt_of_le aM aJ)
  have gl:qa≠xq:=Nat.ne_of_lt (Nat.lt_of_lt_of_le eR aJ)
  have e5:rm≠xq:=Nat.ne_of_lt (Nat.lt_of_lt_of_le bt aJ)
  have e6:ra≠xq:=Nat.ne_of_lt (Nat.lt_of_lt_of_le bu aJ)
  have I:o_at Z eS.heap xq bq (o_n fa n/o_n ft nd):=⟨eW,Or.inr ⟨kb,lq,_,nq-zc,eX,eY,eZ,e2,z4,by omega,by omega,o_a_ (z3 bp),by rw[←fq,←o_dQ z2];exact congrArg (o_n G) (by omega)⟩⟩
  have aY:=o_bR hb_ cP ai
  have bK:=o_bR hb_ bl bt
  have bL:=o_bR hb_ cE bu
  exact J _ _ _ xq bq eT rfl e3 h KP k u t r V aA aB aw am aC I (Ne.symm e4) aY (Ne.symm e5) bK (Ne.symm e6) bL
theorem o_oe (l:Launch)(Z:State)(a0:Array Value)(hw: ∀d∈tables_1,d.before a0 Z=true)(ws:List Jvm.Cond)(ax tx:Addr)(A D:Int)(h0:Heap)(n0:Nat)(Z0:n0≤h0.size)(E:Old Z n0 h0)(f:Addr)(kz:ClassId)(dn:Int32)(ft:Nat→Int32)(nd:Nat)(h:Exa Z h0 ax "java/math/BigInteger")(i:Fld Z h0 tx "java/math/BigInteger" "mag" "[I" (.ref f))(k:o_x Z h0 f kz dn ft)(hdn:dn.toInt=nd)(hd2:nd≤2)(n:o_q l (⟨"java/math/BigInteger","divideAndRemainderKnuth","(Ljava/math/BigInteger;)[Ljava/math/BigInteger;"⟩:MethodName) [Jvm.Cond.code (⟨"java/math/BigInteger","divideAndRemainderKnuth","(Ljava/math/BigInteger;)[Ljava/math/BigInteger;"⟩:MethodName) jdk_2097_method_64_code 7 (some (.array (.object "java/math/BigInteger")))] ({frames:=6,cells:=14,slots:=80,locals:=150}:Room) #[(.ref ax),(.ref tx)] Z h0 (o_dm Z A D h0 n0)):
  o_q l (⟨"java/math/BigInteger","divideAndRemainder","(Ljava/math/BigInteger;)[Ljava/math/BigInteger;"⟩:MethodName) (Jvm.Cond.code (⟨"java/math/BigInteger","divideAndRemainder","(Ljava/math/BigInteger;)[Ljava/math/BigInteger;"⟩:MethodName) jdk_2097_method_63_code 2 (some (.array (.object "java/math/BigInteger")))::ws) ({frames:=7,cells:=14,slots:=80,locals:=172}:Room) #[(.ref ax),(.ref tx)] Z h0 (o_dm Z A D h0 n0):=by
 refine o_u (plainFor_of_name o_Y) (fun m=>o_mh m ax tx) fun p e s m F G c s₁ hx o q r (t:s.vm.findClass "java/math/BigInteger"=some m.cls) hnm hret X0 hZ e0=> ?_
 have a:=o_t hx o o_kJ t hZ r hw
 have N0:=Fr.nil n0
 have KP:Keep h0 h0 []:=Keep.refl _ _
 refine o_c 1 0 X0 a ?_
 refine o_h 4 1 40 X0 a e0 i fun H b g=> ?_
 refine o_C 5 2 b a g k ?_
 refine o_B 7 3 80 b a ?_
 refine o_z 26 4 b a rfl (tlt (o_aA (j:=80) hdn rfl (by omega))).1 ?_
 refine o_c 27 14 b a ?_
 refine o_c 28 15 b a ?_
 refine o_aD 31 1 0 14 80 16 95 96 98 97 24 99 b a n o_f1 g h fun _ I J u v=> ?_
 obtain ⟨ar,w,xq,x,xr,sg,rfl,y,z,B⟩:=v
 have C:=Fr.app N0 y
 have KP:=KP.trans z all0
 refine o_k [_] ?_
 exact o_K 17 u a hret q (by exact ⟨ar,w,xq,x,xr,sg,rfl,C,KP,B⟩)
def o_gk (Z:State)(V:Int)(h0:Heap)(n0:Nat)(v:Option Value)(h:Heap)(L:List Loc):Prop:= ∃(b:Addr) (kb:ClassId),v=some (.ref b)∧Fr n0 L∧Keep h0 h []∧n0≤b∧h0.size≤b∧(o_ep Z h b kb V∨o_dy Z h b kb V)
theorem o_of (l:Launch)(Z:State)(a0:Array Value)(hw: ∀d∈tables_1,d.before a0 Z=true)(ws:List Jvm.Cond)(a b:Addr)(w0:Int32)(h0:Heap)(n0:Nat)(Z0:n0≤h0.size)(OL:Old Z n0 h0)(ka kb:ClassId)(n:Arv Z h0 a ka .int (1:Int32) [(.int w0)] (.int (0:Int32)))(o:Arv Z h0 b kb .int (1:Int32) [(.int (1:Int32))] (.int (0:Int32))):
  o_q l (⟨"java/math/BigInteger","add","([I[I)[I"⟩:MethodName) (Jvm.Cond.code (⟨"java/math/BigInteger","add","([I[I)[I"⟩:MethodName) jdk_2097_method_35_code 9 (some (.array .int))::ws) ({frames:=1,cells:=2,slots:=4,locals:=40}:Room) #[(.ref a),(.ref b)] Z h0 (o_gk Z (o_a w0+1) h0 n0):=by
 refine o_u (plainFor_of_name o_Y) (fun m=>o_mi m a b) fun p e s m aF aG c s₁ hx M N O (P:s.vm.findClass "java/math/BigInteger"=some m.cls) hnm hret X0 hZ e0=> ?_
 have D:=o_S M o_c6
 have f:=o_t hx M o_c6 P hZ O hw
 have N0:=Fr.nil n0
 have KP:Keep h0 h0 []:=Keep.refl _ _
 refine o_c 1 0 X0 f ?_
 refine o_C 2 1 X0 f e0 n ?_
 refine o_c 3 2 X0 f ?_
 refine o_C 4 3 X0 f e0 o ?_
 refine o_z 13 4 X0 f rfl (flt (by decide: ¬((1:Int32)<(1:Int32)))).2.1 ?_
 refine o_c 14 11 X0 f ?_
 refine o_C 15 12 X0 f e0 n ?_
 refine o_O 16 13 #[_,_,_,_,_,_,_,_,_] X0 f ?_
 refine o_c 17 14 X0 f ?_
 refine o_C 18 15 X0 f e0 o ?_
 refine o_O 19 16 #[_,_,_,_,_,_,_,_,_] X0 f ?_
 refine o_e 20 17 X0 f ?_
 obtain ⟨aH,Q,F,i,G,H,R,S,T⟩:=newPE X0 hx hZ (o_b hw 52 rfl) e0 (g:=(mkF m 20 #[rv a,rv b,iv 1,iv 1,.unset,.unset,.unset,.unset,.unset] [(.int (1:Int32))])) rfl (D 18 rfl) rfl (by decide) (cap:=1) (by decide) (by decide) (by decide) (by decide) (ad:="[I") (by decide)
 obtain ⟨j,w⟩: ∃z,z=h0.size:=⟨_,rfl⟩
 rw[←w] at R S T
 have I:h0.size≤j:=Nat.le_trans KP.1 (Nat.le_of_eq w.symm)
 have U:n0≤j:=Nat.le_trans Z0 I
 have al:a≠j:=Nat.ne_of_lt (Nat.lt_of_lt_of_le n.lt (Nat.le_of_eq w.symm))
 have am:b≠j:=Nat.ne_of_lt (Nat.lt_of_lt_of_le o.lt (Nat.le_of_eq w.symm))
 have KP:=KP.ext H
 have n:=n.ext H
 have o:=o.ext H
 have y:Exa Z Q j "[I":=S
 have q:Arv Z Q j F .int (1:Int32) [(.int (0:Int32))] (.int (0:Int32)):=(Arv.new R (by decide)).pad (pad_rep [] (.int (0:Int32)) 1)
 refine o_i (mkF m 22 #[rv a,rv b,iv 1,iv 1,.unset,.unset,.unset,.unset,.unset] [(.ref j)]) T ?_
 refine o_1 24 19 #[_,_,_,_,_,_,_,_,_] i f ?_
 refine o_ac 25 20 0 i f ?_
 refine o_H 27 21 #[_,_,_,_,_,_,_,_,_] i f ?_
 refine o_e 28 22 i f ?_
 refine o_g 29 23 1 i f ?_
 refine o_E 32 24 i f rfl (teq (by decide:(1:Int32)=(1:Int32))).2 ?_
 refine o_c 33 25 i f ?_
 refine o_G 36 26 #[_,_,iv 0,_,_,_,_,_,_] i f ?_
 refine o_e 37 27 i f ?_
 refine o_Q 38 28 i f G n (x:=w0) ?_
 refine o_D 39 29 i f ?_
 refine o_y 42 53 30 i f ?_
 refine o_A 43 31 i f ?_
 refine o_c 44 32 i f ?_
 refine o_g 45 33 0 i f ?_
 refine o_Q 46 34 i f G o (x:=(1:Int32)) ?_
 refine o_D 47 35 i f ?_
 refine o_y 50 53 36 i f ?_
 refine o_A 51 37 i f ?_
 refine o_4 52 38 i f ?_
 generalize ao:(((w0.toInt64)&&&(4294967295:Int64))+(((1:Int32).toInt64)&&&(4294967295:Int64)))=sm
 have hsm:=o_fm ao
 refine o_H 54 39 #[_,_,_,_,_,_,_,_,_] i f ?_
 refine o_l 56 40 i f ?_
 refine o_e 57 41 i f ?_
 refine o_j 59 42 i f ?_
 refine o_X 60 43 i f ?_
 refine o_8 61 0 44 i f G q fun aI V h J A aq=> ?_
 have X:=Fr.snoc h N0 U
 have KP:=KP.wr A (Or.inr I)
 have n:=n.other A al
 have o:=o.other A am
 have y:=y.wr A
 have q:Arv Z V j F .int (1:Int32) [(.int (sm.toInt32))] (.int (0:Int32)):=aq
 refine o_w 109 45 h f ?_
 refine o_j 111 74 h f ?_
 refine o_B 113 75 32 h f ?_
 refine o_ak 114 76 h f ?_
 refine o_ac 115 77 0 h f ?_
 refine o_3 116 78 h f ?_
 by_cases hcy:(lcmpW ((sm.toUInt64>>>((32:Int32)&&&0x3f).toInt64.toUInt64).toInt64) (0:Int64))=(0:Int32)
 ·refine o_p 123 79 h f rfl ((if0 _ _).trans (teq hcy).1) ?_
  have hc0:=o_fn hsm hcy
  have u0:=o_m w0
  refine o_g 124 82 0 h f ?_
  refine o_o 126 83 #[_,_,_,_,_,_,_,_,_] h f ?_
  refine o_e 127 84 h f ?_
  refine o_p 161 85 h f rfl ((if0 _ _).trans (flt (by decide: ¬((0:Int32)<(0:Int32)))).2.2.2) ?_
  refine o_e 162 104 h f ?_
  refine o_p 178 105 h f rfl ((if0 _ _).trans (flt (by decide: ¬((0:Int32)<(0:Int32)))).2.2.2) ?_
  refine o_d 180 114 h f ?_
  refine o_p 212 115 h f rfl ((if0 _ _).trans (teq (by decide:(0:Int32)=(0:Int32))).1) ?_
  refine o_l 214 135 h f ?_
  exact o_K 136 h f hret N (by rw[J];exact ⟨j,F,rfl,X,KP,U,I,Or.inl ⟨_,q,o_aQ (by omega),hc0.symm,y⟩⟩)
 ·refine o_r 119 79 h f rfl ((if0 _ _).trans (feq hcy).1) ?_
  have hc1:=o_fo hsm hcy
  refine o_g 120 80 1 h f ?_
  refine o_w 124 81 h f ?_
  refine o_o 126 83 #[_,_,_,_,_,_,_,_,_] h f ?_
  refine o_e 127 84 h f ?_
  refine o_p 161 85 h f rfl ((if0 _ _).trans (flt (by decide: ¬((0:Int32)<(0:Int32)))).2.2.2) ?_
  refine o_e 162 104 h f ?_
  refine o_p 178 105 h f rfl ((if0 _ _).trans (flt (by decide: ¬((0:Int32)<(0:Int32)))).2.2.2) ?_
  refine o_d 180 114 h f ?_
  refine o_r 183 115 h f rfl ((if0 _ _).trans (feq (by decide: ¬((1:Int32)=(0:Int32)))).1) ?_
  refine o_l 185 116 h f ?_
  refine o_C 186 117 h f J q ?_
  refine o_g 187 118 1 h f ?_
  refine o_v 188 119 h f (z:=(2:Int32)) ?_
  obtain ⟨aJ,Y,B,r,ae,af,ag,ah,ai⟩:=newPE h hx hZ (o_b hw 52 rfl) J (g:=(mkF m 188 #[rv a,rv b,iv 0,iv 1,rv j,.val (.long sm),.second,iv 1,.unset] [(.int (2:Int32))])) rfl (D 120 rfl) rfl (by decide) (cap:=2) (by decide) (by decide) (by decide) (by decide) (ad:="[I") (by decide)
  obtain ⟨k,t⟩: ∃z,z=V.size:=⟨_,rfl⟩
  rw[←t] at ag ah ai
  have C:h0.size≤k:=Nat.le_trans KP.1 (Nat.le_of_eq t.symm)
  have K:n0≤k:=Nat.le_trans Z0 C
  have aK:a≠k:=Nat.ne_of_lt (Nat.lt_of_lt_of_le n.lt (Nat.le_of_eq t.symm))
  have aL:b≠k:=Nat.ne_of_lt (Nat.lt_of_lt_of_le o.lt (Nat.le_of_eq t.symm))
  have aM:j≠k:=Nat.ne_of_lt (Nat.lt_of_lt_of_le y.lt (Nat.le_of_eq t.symm))
  have KP:=KP.ext af
  have q:=q.ext af
  have u:Exa Z Y k "[I":=ah
  have v:Arv Z Y k B .int (2:Int32) [(.int (0:Int32)),(.int (0:Int32))] (.int (0:Int32)):=(Arv.new ag (by decide)).pad (pad_rep [] (.int (0:Int32)) 2)
  refine o_i (mkF m 190 #[rv a,rv b,iv 0,iv 1,rv j,.val (.long sm),.second,iv 1,.unset] [(.ref k)]) ai ?_
  refine o_1 192 121 #[_,_,_,_,_,_,_,_,_] r f ?_
  refine o_l 194 122 r f ?_
  refine o_g 195 123 0 r f ?_
  refine o_l 197 124 r f ?_
  refine o_g 198 125 1 r f ?_
  refine o_l 200 126 r f ?_
  refine o_C 201 127 r f ae q ?_
  obtain ⟨aN,au,L540,E,av,aw,aj,ax,ay⟩:=cpA r hx hZ P (o_b hw 203 rfl) (o_b hw 70 rfl) (o_b hw 68 rfl) (o_b hw 69 rfl) ae q v (us:= [(.int (sm.toInt32))]) (Or.inl ⟨rfl,rfl⟩) (by decide) (by decide) (by decide) (by decide) (by decide) rfl (Nat.le_of_ble_eq_true rfl) X K (g:=(mkF m 201 #[rv a,rv b,iv 0,iv 1,rv j,.val (.long sm),.second,iv 1,rv k] [(.int (1:Int32)),(.int (1:Int32)),(.ref k),(.int (0:Int32)),(.ref j)])) rfl (by rw[O];rfl) rfl (D 128 rfl) (by decide) (W:=0) (by show 2*0+_≤_;exact Nat.le_of_eq rfl) (by decide)
  have KP:=KP.trans aj (allS (Or.inr C) all0)
  have u:=u.keep aj
  have v:Arv Z au k B .int (2:Int32) [(.int (0:Int32)),(.int (sm.toInt32))] (.int (0:Int32)):=ax
  refine o_i (mkF m 204 #[rv a,rv b,iv 0,iv 1,rv j,.val (.long sm),.second,iv 1,rv k] []) ay ?_
  refine o_l 206 129 E f ?_
  refine o_g 207 130 0 E f ?_
  refine o_g 208 131 1 E f ?_
  refine o_8 209 0 132 E f av v fun aO aA L aB ak aC=> ?_
  have aD:=Fr.snoc L aw K
  have KP:=KP.wr ak (Or.inr C)
  have u:=u.wr ak
  have v:Arv Z aA k B .int (2:Int32) [(.int (1:Int32)),(.int (sm.toInt32))] (.int (0:Int32)):=aC
  refine o_l 211 133 L f ?_
  exact o_K 134 L f hret N (by rw[aB];exact ⟨k,B,rfl,aD,KP,K,C,Or.inr ⟨_,_,v,by decide,o_iG hc1,u⟩⟩)
theorem o_og (l:Launch)(Z:State)(a0:Array Value)(hw: ∀d∈tables_1,d.before a0 Z=true)(ws:List Jvm.Cond)(a b:Addr)(w0 w1:Int32)(h0:Heap)(n0:Nat)(Z0:n0≤h0.size)(OL:Old Z n0 h0)(ka kb:ClassId)(n:Arv Z h0 a ka .int (2:Int32) [(.int w0),(.int w1)] (.int (0:Int32)))(t:Arv Z h0 b kb .int (1:Int32) [(.int (1:Int32))] (.int (0:Int32)))(hw0: ¬w0=0)(B:o_a w0*4294967296+o_a w1<9007199254740992):
  o_q l (⟨"java/math/BigInteger","add","([I[I)[I"⟩:MethodName) (Jvm.Cond.code (⟨"java/math/BigInteger","add","([I[I)[I"⟩:MethodName) jdk_2097_method_35_code 9 (some (.array .int))::ws) ({frames:=1,cells:=2,slots:=4,locals:=40}:Room) #[(.ref a),(.ref b)] Z h0 (o_gk Z ((o_a w0*4294967296+o_a w1)+1) h0 n0):=by
 refine o_u (plainFor_of_name o_Y) (fun m=>o_mj m a b) fun p e s m aj ak c s₁ hx G H P (Q:s.vm.findClass "java/math/BigInteger"=some m.cls) hnm hret X0 hZ e0=> ?_
 have D:=o_S G o_c6
 have f:=o_t hx G o_c6 Q hZ P hw
 have N0:=Fr.nil n0
 have KP:Keep h0 h0 []:=Keep.refl _ _
 refine o_c 1 0 X0 f ?_
 refine o_C 2 1 X0 f e0 n ?_
 refine o_c 3 2 X0 f ?_
 refine o_C 4 3 X0 f e0 t ?_
 refine o_z 13 4 X0 f rfl (flt (by decide: ¬((2:Int32)<(1:Int32)))).2.1 ?_
 refine o_c 14 11 X0 f ?_
 refine o_C 15 12 X0 f e0 n ?_
 refine o_O 16 13 #[_,_,_,_,_,_,_,_,_] X0 f ?_
 refine o_c 17 14 X0 f ?_
 refine o_C 18 15 X0 f e0 t ?_
 refine o_O 19 16 #[_,_,_,_,_,_,_,_,_] X0 f ?_
 refine o_e 20 17 X0 f ?_
 obtain ⟨al,I,u,i,C,E,J,K,L⟩:=newPE X0 hx hZ (o_b hw 52 rfl) e0 (g:=(mkF m 20 #[rv a,rv b,iv 2,iv 1,.unset,.unset,.unset,.unset,.unset] [(.int (2:Int32))])) rfl (D 18 rfl) rfl (by decide) (cap:=2) (by decide) (by decide) (by decide) (by decide) (ad:="[I") (by decide)
 obtain ⟨k,y⟩: ∃z,z=h0.size:=⟨_,rfl⟩
 rw[←y] at J K L
 have v:h0.size≤k:=Nat.le_trans KP.1 (Nat.le_of_eq y.symm)
 have w:n0≤k:=Nat.le_trans Z0 v
 have R:a≠k:=Nat.ne_of_lt (Nat.lt_of_lt_of_le n.lt (Nat.le_of_eq y.symm))
 have am:b≠k:=Nat.ne_of_lt (Nat.lt_of_lt_of_le t.lt (Nat.le_of_eq y.symm))
 have KP:=KP.ext E
 have n:=n.ext E
 have t:=t.ext E
 have o:Exa Z I k "[I":=K
 have q:Arv Z I k u .int (2:Int32) [(.int (0:Int32)),(.int (0:Int32))] (.int (0:Int32)):=(Arv.new J (by decide)).pad (pad_rep [] (.int (0:Int32)) 2)
 refine o_i (mkF m 22 #[rv a,rv b,iv 2,iv 1,.unset,.unset,.unset,.unset,.unset] [(.ref k)]) L ?_
 refine o_1 24 19 #[_,_,_,_,_,_,_,_,_] i f ?_
 refine o_ac 25 20 0 i f ?_
 refine o_H 27 21 #[_,_,_,_,_,_,_,_,_] i f ?_
 refine o_e 28 22 i f ?_
 refine o_g 29 23 1 i f ?_
 refine o_E 32 24 i f rfl (teq (by decide:(1:Int32)=(1:Int32))).2 ?_
 refine o_c 33 25 i f ?_
 refine o_G 36 26 #[_,_,iv 1,_,_,_,_,_,_] i f ?_
 refine o_e 37 27 i f ?_
 refine o_Q 38 28 i f C n (x:=w1) ?_
 refine o_D 39 29 i f ?_
 refine o_y 42 53 30 i f ?_
 refine o_A 43 31 i f ?_
 refine o_c 44 32 i f ?_
 refine o_g 45 33 0 i f ?_
 refine o_Q 46 34 i f C t (x:=(1:Int32)) ?_
 refine o_D 47 35 i f ?_
 refine o_y 50 53 36 i f ?_
 refine o_A 51 37 i f ?_
 refine o_4 52 38 i f ?_
 generalize S:(((w1.toInt64)&&&(4294967295:Int64))+(((1:Int32).toInt64)&&&(4294967295:Int64)))=sm
 have hsm:=o_fm S
 refine o_H 54 39 #[_,_,_,_,_,_,_,_,_] i f ?_
 refine o_l 56 40 i f ?_
 refine o_e 57 41 i f ?_
 refine o_j 59 42 i f ?_
 refine o_X 60 43 i f ?_
 refine o_8 61 1 44 i f C q fun ao T h A F U=> ?_
 have M:=Fr.snoc h N0 w
 have KP:=KP.wr F (Or.inr v)
 have n:=n.other F R
 have o:=o.wr F
 have q:Arv Z T k u .int (2:Int32) [(.int (0:Int32)),(.int (sm.toInt32))] (.int (0:Int32)):=U
 refine o_w 109 45 h f ?_
 refine o_j 111 74 h f ?_
 refine o_B 113 75 32 h f ?_
 refine o_ak 114 76 h f ?_
 refine o_ac 115 77 0 h f ?_
 refine o_3 116 78 h f ?_
 by_cases hcy:(lcmpW ((sm.toUInt64>>>((32:Int32)&&&0x3f).toInt64.toUInt64).toInt64) (0:Int64))=(0:Int32)
 ·refine o_p 123 79 h f rfl ((if0 _ _).trans (teq hcy).1) ?_
  have hc0:=o_fn hsm hcy
  have u0:=o_m w0
  refine o_g 124 82 0 h f ?_
  refine o_o 126 83 #[_,_,_,_,_,_,_,_,_] h f ?_
  refine o_e 127 84 h f ?_
  refine o_r 130 85 h f rfl ((if0 _ _).trans (tlt (by decide:(0:Int32)<(1:Int32))).2.2.2) ?_
  refine o_d 132 86 h f ?_
  refine o_p 161 87 h f rfl ((if0 _ _).trans (teq (by decide:(0:Int32)=(0:Int32))).1) ?_
  refine o_e 162 104 h f ?_
  refine o_r 165 105 h f rfl ((if0 _ _).trans (tlt (by decide:(0:Int32)<(1:Int32))).2.2.2) ?_
  refine o_l 167 106 h f ?_
  refine o_G 170 107 #[_,_,iv 0,_,_,_,_,_,_] h f ?_
  refine o_e 171 108 h f ?_
  refine o_c 172 109 h f ?_
  refine o_e 173 110 h f ?_
  refine o_Q 174 111 h f A n (x:=w0) ?_
  refine o_8 175 0 112 h f A q fun aq V r W N X=> ?_
  have Y:=Fr.snoc r M w
  have KP:=KP.wr N (Or.inr v)
  have o:=o.wr N
  have q:Arv Z V k u .int (2:Int32) [(.int w0),(.int (sm.toInt32))] (.int (0:Int32)):=X
  refine o_w 161 113 r f ?_
  refine o_e 162 104 r f ?_
  refine o_p 178 105 r f rfl ((if0 _ _).trans (flt (by decide: ¬((0:Int32)<(0:Int32)))).2.2.2) ?_
  refine o_d 180 114 r f ?_
  refine o_p 212 115 r f rfl ((if0 _ _).trans (teq (by decide:(0:Int32)=(0:Int32))).1) ?_
  refine o_l 214 135 r f ?_
  exact o_K 136 r f hret H (by rw[W];exact ⟨k,u,rfl,Y,KP,w,v,Or.inr ⟨_,_,q,hw0,by omega,o⟩⟩)
 ·refine o_r 119 79 h f rfl ((if0 _ _).trans (feq hcy).1) ?_
  have hc1:=o_fo hsm hcy
  refine o_g 120 80 1 h f ?_
  refine o_w 124 81 h f ?_
  refine o_o 126 83 #[_,_,_,_,_,_,_,_,_] h f ?_
  refine o_e 127 84 h f ?_
  refine o_r 130 85 h f rfl ((if0 _ _).trans (tlt (by decide:(0:Int32)<(1:Int32))).2.2.2) ?_
  refine o_d 132 86 h f ?_
  refine o_r 135 87 h f rfl ((if0 _ _).trans (feq (by decide: ¬((1:Int32)=(0:Int32)))).1) ?_
  refine o_l 137 88 h f ?_
  refine o_G 140 89 #[_,_,iv 0,_,_,_,_,_,_] h f ?_
  refine o_e 141 90 h f ?_
  refine o_c 142 91 h f ?_
  refine o_e 143 92 h f ?_
  refine o_Q 144 93 h f A n (x:=w0) ?_
  refine o_g 145 94 1 h f ?_
  refine o_v 146 95 h f ?_
  refine o_hA 147 h hx (D 96 rfl) rfl rfl rfl rfl ?_
  refine o_8 148 0 97 h f A q fun au ae j af O ag=> ?_
  have ah:=Fr.snoc j M w
  have KP:=KP.wr O (Or.inr v)
  have o:=o.wr O
  have q:Arv Z ae k u .int (2:Int32) [(.int (w0+(1:Int32))),(.int (sm.toInt32))] (.int (0:Int32)):=ag
  refine o_p 155 98 j f rfl ((if0 _ _).trans (feq (o_fp B)).2) ?_
  refine o_g 156 101 0 j f ?_
  refine o_o 158 102 #[_,_,_,_,_,_,_,_,_] j f ?_
  refine o_w 126 103 j f ?_
  refine o_e 127 84 j f ?_
  refine o_p 161 85 j f rfl ((if0 _ _).trans (flt (by decide: ¬((0:Int32)<(0:Int32)))).2.2.2) ?_
  refine o_e 162 104 j f ?_
  refine o_p 178 105 j f rfl ((if0 _ _).trans (flt (by decide: ¬((0:Int32)<(0:Int32)))).2.2.2) ?_
  refine o_d 180 114 j f ?_
  refine o_p 212 115 j f rfl ((if0 _ _).trans (teq (by decide:(0:Int32)=(0:Int32))).1) ?_
  refine o_l 214 135 j f ?_
  exact o_K 136 j f hret H (by rw[af];exact ⟨k,u,rfl,ah,KP,w,v,Or.inr ⟨_,_,q,o_fp B,o_iF B hc1,o⟩⟩)
theorem o_oh (l:Launch)(Z:State)(a0:Array Value)(hw: ∀d∈tables_1,d.before a0 Z=true)(ws:List Jvm.Cond)(xq b:Addr)(PP:Heap→Addr→Addr→ClassId→Prop)(h0:Heap)(n0:Nat)(Z0:n0≤h0.size)(t:Old Z n0 h0)(oa:Addr)(ko:ClassId)(h:Fld Z h0 xq "java/math/BigInteger" "signum" "I" (.int (0:Int32)))(i:Fld Z h0 b "java/math/BigInteger" "signum" "I" (.int (1:Int32)))(hPP:PP h0 b oa ko):
  o_q l (⟨"java/math/BigInteger","add","(Ljava/math/BigInteger;)Ljava/math/BigInteger;"⟩:MethodName) (Jvm.Cond.code (⟨"java/math/BigInteger","add","(Ljava/math/BigInteger;)Ljava/math/BigInteger;"⟩:MethodName) jdk_2097_method_32_code 4 (some (.object "java/math/BigInteger"))::ws) ({frames:=3,cells:=3,slots:=10,locals:=74}:Room) #[(.ref xq),(.ref b)] Z h0 (o_aF Z PP h0 n0):=by
 refine o_u (plainFor_of_name o_Y) (fun m=>o_mk m xq b) fun p e s m u v c s₁ hx j k n (o:s.vm.findClass "java/math/BigInteger"=some m.cls) hnm hret X0 hZ e0=> ?_
 have a:=o_t hx j o_ch o hZ n hw
 have N0:=Fr.nil n0
 have KP:Keep h0 h0 []:=Keep.refl _ _
 refine o_c 1 0 X0 a ?_
 refine o_h 4 1 38 X0 a e0 i fun w f q=> ?_
 refine o_p 9 2 f a rfl ((if0 _ _).trans (feq (by decide: ¬((1:Int32)=(0:Int32)))).2) ?_
 refine o_c 10 5 f a ?_
 refine o_h 13 6 38 f a q h fun x g r=> ?_
 refine o_r 16 7 g a rfl ((if0 _ _).trans (teq (by decide:(0:Int32)=(0:Int32))).2) ?_
 refine o_c 17 8 g a ?_
 exact o_K 9 g a hret k (by rw[r];exact ⟨b,oa,ko,rfl,N0,KP,hPP⟩)
theorem o_oi (l:Launch)(Z:State)(a0:Array Value)(hw: ∀d∈tables_1,d.before a0 Z=true)(ws:List Jvm.Cond)(xq t ma oa:Addr)(ka ko:ClassId)(w0:Int32)(h0:Heap)(n0:Nat)(Z0:n0≤h0.size)(n:Old Z n0 h0)(BQ:o_U Z h0 xq ma ka [w0])(BO:o_U Z h0 t oa ko [(1:Int32)]):
  o_q l (⟨"java/math/BigInteger","add","(Ljava/math/BigInteger;)Ljava/math/BigInteger;"⟩:MethodName) (Jvm.Cond.code (⟨"java/math/BigInteger","add","(Ljava/math/BigInteger;)Ljava/math/BigInteger;"⟩:MethodName) jdk_2097_method_32_code 4 (some (.object "java/math/BigInteger"))::ws) ({frames:=3,cells:=3,slots:=10,locals:=74}:Room) #[(.ref xq),(.ref t)] Z h0 (o_aF Z (fun h x a k=>o_bM Z h x a k (o_a w0+1)∨o_aY Z h x a k (o_a w0+1)) h0 n0):=by
 refine o_u (plainFor_of_name o_Y) (fun m=>o_ml m xq t) fun p e s m aT aU c s₁ hx P Q aj (R:s.vm.findClass "java/math/BigInteger"=some m.cls) hnm hret X0 hZ e0=> ?_
 have D:=o_S P o_ch
 have b:=o_t hx P o_ch R hZ aj hw
 have N0:=Fr.nil n0
 have KP:Keep h0 h0 []:=Keep.refl _ _
 obtain ⟨aV,j,G,u,aW⟩:=id BQ
 have u:Arv Z h0 ma ka .int (1:Int32) [(.int w0)] (.int (0:Int32)):=u
 obtain ⟨aX,S,H,v,aY⟩:=id BO
 have v:Arv Z h0 oa ko .int (1:Int32) [(.int (1:Int32))] (.int (0:Int32)):=v
 refine o_c 1 0 X0 b ?_
 refine o_h 4 1 38 X0 b e0 S fun aZ I ak=> ?_
 refine o_p 9 2 I b rfl ((if0 _ _).trans (feq (by decide: ¬((1:Int32)=(0:Int32)))).2) ?_
 refine o_c 10 5 I b ?_
 refine o_h 13 6 38 I b ak j fun a5 J al=> ?_
 refine o_p 18 7 J b rfl ((if0 _ _).trans (feq (by decide: ¬((1:Int32)=(0:Int32)))).2) ?_
 refine o_c 19 10 J b ?_
 refine o_h 22 11 38 J b al S fun a6 T am=> ?_
 refine o_c 23 12 T b ?_
 refine o_h 26 13 38 T b am j fun a7 U ao=> ?_
 refine o_E 29 14 U b rfl (teq (by decide:(1:Int32)=(1:Int32))).2 ?_
 obtain ⟨a8,A,K,aq,o,V,L,-,W⟩:=newO U hx hZ R (o_b hw 71 rfl) (o_b hw 72 rfl) (o_b hw 24 rfl) ao (g:=(mkF m 29 #[rv xq,rv t,.unset,.unset] [])) rfl (D 15 rfl) (by decide) (by decide)
 obtain ⟨f,X⟩: ∃z,z=h0.size:=⟨_,rfl⟩
 rw[←X] at V L W
 have M:h0.size≤f:=Nat.le_trans KP.1 (Nat.le_of_eq X.symm)
 have Y:n0≤f:=Nat.le_trans Z0 M
 have n:=n.ext o
 have KP:=KP.ext o
 have j:=j.ext o
 have G:=G.ext o
 have u:=u.ext o
 have H:=H.ext o
 have v:=v.ext o
 have w:Exa Z A f "java/math/BigInteger":=V
 have B:Fld Z A f "java/math/BigInteger" "signum" "I" (.int (0:Int32)):=L (Or.inr (o_b hw 39 rfl)) (ty:= .int) (by decide)
 have C:Fld Z A f "java/math/BigInteger" "mag" "[I" .null:=L (Or.inr (o_b hw 41 rfl)) (ty:=(.array .int)) (by decide)
 refine o_i (mkF m 32 #[rv xq,rv t,.unset,.unset] [(.ref f)]) W ?_
 refine o_ab 33 16 K b ?_
 refine o_c 34 17 K b ?_
 refine o_h 37 18 40 K b aq G fun a9 ad au=> ?_
 refine o_c 38 19 ad b ?_
 refine o_h 41 20 40 ad b au H fun a_ av aw=> ?_
 have ae:=w.lt
 refine o_F 44 2 2 3 10 21 227 228 24 229 av b (o_of l Z a0 hw [] ma oa w0 A n0 (Nat.le_trans Z0 KP.1) n ka ko u v) o_f2 aw fun _ af a' E ax=> ?_
 obtain ⟨bb,F,rfl,ay,r,bd,ag,aA⟩:=ax
 have ah:=Fr.app N0 ay
 have n:=n.keep r all0
 have KP:=KP.trans r all0
 have j:=j.keep r nin0
 have w:=w.keep r
 have B:=B.keep r nin0
 have C:=C.keep r nin0
 rcases aA with ⟨v0,i,hv0,hv,q⟩|⟨v0,v1,i,hv0,hv,q⟩
 ·refine o_k [_,_,_] ?_
  have y:f≠bb:=Nat.ne_of_lt (Nat.lt_of_lt_of_le ae ag)
  refine o_c 45 22 E b ?_
  refine o_h 48 23 38 E b rfl j fun be aB aC=> ?_
  refine o_7 51 2 1 3 10 24 73 74 24 76 aB b (o_aG l Z a0 hw [] f bb af.heap n0 (Nat.le_trans Z0 KP.1) n Y w B C F (1:Int32) _ (Ne.symm y) i (by decide) (by decide)) o_aw aC rfl fun _ bf bg aD aE=> ?_
  obtain ⟨rfl,aF,N,aG,aH,aI⟩:=aE
  have aJ:=Fr.app ah aF
  have KP:=KP.trans N (allS (Or.inr M) all0)
  have i:=i.keep N (ninS (Ne.symm y) nin0)
  have q:=q.keep N
  refine o_k [_] ?_
  exact o_K 25 aD b hret Q (by exact ⟨f,bb,F,rfl,aJ,KP,Or.inl ⟨v0,⟨aG,aH,aI,i,q⟩,hv0,hv⟩⟩)
 ·refine o_k [_,_,_] ?_
  have y:f≠bb:=Nat.ne_of_lt (Nat.lt_of_lt_of_le ae ag)
  refine o_c 45 22 E b ?_
  refine o_h 48 23 38 E b rfl j fun bh aK aL=> ?_
  refine o_7 51 2 1 3 10 24 73 74 24 76 aK b (o_aG l Z a0 hw [] f bb af.heap n0 (Nat.le_trans Z0 KP.1) n Y w B C F (2:Int32) _ (Ne.symm y) i (by decide) (by decide)) o_aw aL rfl fun _ bj bk aM aN=> ?_
  obtain ⟨rfl,aO,O,aP,aQ,aR⟩:=aN
  have aS:=Fr.app ah aO
  have KP:=KP.trans O (allS (Or.inr M) all0)
  have i:=i.keep O (ninS (Ne.symm y) nin0)
  have q:=q.keep O
  refine o_k [_] ?_
  exact o_K 25 aM b hret Q (by exact ⟨f,bb,F,rfl,aS,KP,Or.inr ⟨v0,v1,⟨aP,aQ,aR,i,q⟩,hv0,hv⟩⟩)
theorem o_oj (l:Launch)(Z:State)(a0:Array Value)(hw: ∀d∈tables_1,d.before a0 Z=true)(ws:List Jvm.Cond)(xq t ma oa:Addr)(ka ko:ClassId)(w0 w1:Int32)(h0:Heap)(n0:Nat)(Z0:n0≤h0.size)(n:Old Z n0 h0)(BQ:o_U Z h0 xq ma ka [w0,w1])(BO:o_U Z h0 t oa ko [(1:Int32)])(hw0: ¬w0=0)(aj:o_a w0*4294967296+o_a w1<9007199254740992):
  o_q l (⟨"java/math/BigInteger","add","(Ljava/math/BigInteger;)Ljava/math/BigInteger;"⟩:MethodName) (Jvm.Cond.code (⟨"java/math/BigInteger","add","(Ljava/math/BigInteger;)Ljava/math/BigInteger;"⟩:MethodName) jdk_2097_method_32_code 4 (some (.object "java/math/BigInteger"))::ws) ({frames:=3,cells:=3,slots:=10,locals:=74}:Room) #[(.ref xq),(.ref t)] Z h0 (o_aF Z (fun h x a k=>o_bM Z h x a k ((o_a w0*4294967296+o_a w1)+1)∨o_aY Z h x a k ((o_a w0*4294967296+o_a w1)+1)) h0 n0):=by
 refine o_u (plainFor_of_name o_Y) (fun m=>o_mm m xq t) fun p e s m aU aV c s₁ hx P Q ak (R:s.vm.findClass "java/math/BigInteger"=some m.cls) hnm hret X0 hZ e0=> ?_
 have D:=o_S P o_ch
 have b:=o_t hx P o_ch R hZ ak hw
 have N0:=Fr.nil n0
 have KP:Keep h0 h0 []:=Keep.refl _ _
 obtain ⟨aW,j,G,u,aX⟩:=id BQ
 have u:Arv Z h0 ma ka .int (2:Int32) [(.int w0),(.int w1)] (.int (0:Int32)):=u
 obtain ⟨aY,S,H,v,aZ⟩:=id BO
 have v:Arv Z h0 oa ko .int (1:Int32) [(.int (1:Int32))] (.int (0:Int32)):=v
 refine o_c 1 0 X0 b ?_
 refine o_h 4 1 38 X0 b e0 S fun a5 I al=> ?_
 refine o_p 9 2 I b rfl ((if0 _ _).trans (feq (by decide: ¬((1:Int32)=(0:Int32)))).2) ?_
 refine o_c 10 5 I b ?_
 refine o_h 13 6 38 I b al j fun a6 J am=> ?_
 refine o_p 18 7 J b rfl ((if0 _ _).trans (feq (by decide: ¬((1:Int32)=(0:Int32)))).2) ?_
 refine o_c 19 10 J b ?_
 refine o_h 22 11 38 J b am S fun a7 T ao=> ?_
 refine o_c 23 12 T b ?_
 refine o_h 26 13 38 T b ao j fun a8 U aq=> ?_
 refine o_E 29 14 U b rfl (teq (by decide:(1:Int32)=(1:Int32))).2 ?_
 obtain ⟨a9,A,K,au,o,V,L,-,W⟩:=newO U hx hZ R (o_b hw 71 rfl) (o_b hw 72 rfl) (o_b hw 24 rfl) aq (g:=(mkF m 29 #[rv xq,rv t,.unset,.unset] [])) rfl (D 15 rfl) (by decide) (by decide)
 obtain ⟨f,X⟩: ∃z,z=h0.size:=⟨_,rfl⟩
 rw[←X] at V L W
 have M:h0.size≤f:=Nat.le_trans KP.1 (Nat.le_of_eq X.symm)
 have Y:n0≤f:=Nat.le_trans Z0 M
 have n:=n.ext o
 have KP:=KP.ext o
 have j:=j.ext o
 have G:=G.ext o
 have u:=u.ext o
 have H:=H.ext o
 have v:=v.ext o
 have w:Exa Z A f "java/math/BigInteger":=V
 have B:Fld Z A f "java/math/BigInteger" "signum" "I" (.int (0:Int32)):=L (Or.inr (o_b hw 39 rfl)) (ty:= .int) (by decide)
 have C:Fld Z A f "java/math/BigInteger" "mag" "[I" .null:=L (Or.inr (o_b hw 41 rfl)) (ty:=(.array .int)) (by decide)
 refine o_i (mkF m 32 #[rv xq,rv t,.unset,.unset] [(.ref f)]) W ?_
 refine o_ab 33 16 K b ?_
 refine o_c 34 17 K b ?_
 refine o_h 37 18 40 K b au G fun a_ ad av=> ?_
 refine o_c 38 19 ad b ?_
 refine o_h 41 20 40 ad b av H fun a' aw ax=> ?_
 have ae:=w.lt
 refine o_F 44 2 2 3 10 21 227 228 24 229 aw b (o_og l Z a0 hw [] ma oa w0 w1 A n0 (Nat.le_trans Z0 KP.1) n ka ko u v hw0 aj) o_f2 ax fun _ af bd E ay=> ?_
 obtain ⟨bb,F,rfl,aA,r,be,ag,aB⟩:=ay
 have ah:=Fr.app N0 aA
 have n:=n.keep r all0
 have KP:=KP.trans r all0
 have j:=j.keep r nin0
 have w:=w.keep r
 have B:=B.keep r nin0
 have C:=C.keep r nin0
 rcases aB with ⟨v0,i,hv0,hv,q⟩|⟨v0,v1,i,hv0,hv,q⟩
 ·refine o_k [_,_,_] ?_
  have y:f≠bb:=Nat.ne_of_lt (Nat.lt_of_lt_of_le ae ag)
  refine o_c 45 22 E b ?_
  refine o_h 48 23 38 E b rfl j fun bf aC aD=> ?_
  refine o_7 51 2 1 3 10 24 73 74 24 76 aC b (o_aG l Z a0 hw [] f bb af.heap n0 (Nat.le_trans Z0 KP.1) n Y w B C F (1:Int32) _ (Ne.symm y) i (by decide) (by decide)) o_aw aD rfl fun _ bg bh aE aF=> ?_
  obtain ⟨rfl,aG,N,aH,aI,aJ⟩:=aF
  have aK:=Fr.app ah aG
  have KP:=KP.trans N (allS (Or.inr M) all0)
  have i:=i.keep N (ninS (Ne.symm y) nin0)
  have q:=q.keep N
  refine o_k [_] ?_
  exact o_K 25 aE b hret Q (by exact ⟨f,bb,F,rfl,aK,KP,Or.inl ⟨v0,⟨aH,aI,aJ,i,q⟩,hv0,hv⟩⟩)
 ·refine o_k [_,_,_] ?_
  have y:f≠bb:=Nat.ne_of_lt (Nat.lt_of_lt_of_le ae ag)
  refine o_c 45 22 E b ?_
  refine o_h 48 23 38 E b rfl j fun bj aL aM=> ?_
  refine o_7 51 2 1 3 10 24 73 74 24 76 aL b (o_aG l Z a0 hw [] f bb af.heap n0 (Nat.le_trans Z0 KP.1) n Y w B C F (2:Int32) _ (Ne.symm y) i (by decide) (by decide)) o_aw aM rfl fun _ bk bl aN aO=> ?_
  obtain ⟨rfl,aP,O,aQ,aR,aS⟩:=aO
  have aT:=Fr.app ah aP
  have KP:=KP.trans O (allS (Or.inr M) all0)
  have i:=i.keep O (ninS (Ne.symm y) nin0)
  have q:=q.keep O
  refine o_k [_] ?_
  exact o_K 25 aN b hret Q (by exact ⟨f,bb,F,rfl,aT,KP,Or.inr ⟨v0,v1,⟨aQ,aR,aS,i,q⟩,hv0,hv⟩⟩)
def o_cl (Z:State)(A B:Int)(h0:Heap)(n0:Nat)(v:Option Value)(h:Heap)(L:List Loc):Prop:= ∃r:Int32,v=some (.int r)∧Fr n0 L∧h=h0∧o_bs A B r
theorem o_ok (l:Launch)(Z:State)(a0:Array Value)(hw: ∀d∈tables_1,d.before a0 Z=true)(ws:List Jvm.Cond)(xr xa:Addr)(ka:ClassId)(w0:Int32)(g ya:Addr)(ky:ClassId)(y0 y1:Int32)(h0:Heap)(n0:Nat)(Z0:n0≤h0.size)(w:Old Z n0 h0)(n:o_U Z h0 xr xa ka [w0])(BY:o_U Z h0 g ya ky [y0,y1])(hy0: ¬y0=0):
  o_q l (⟨"java/math/BigInteger","compareMagnitude","(Ljava/math/BigInteger;)I"⟩:MethodName) (Jvm.Cond.code (⟨"java/math/BigInteger","compareMagnitude","(Ljava/math/BigInteger;)I"⟩:MethodName) jdk_2097_method_122_code 9 (some .int)::ws) ({frames:=0,cells:=0,slots:=0,locals:=0}:Room) #[(.ref xr),(.ref g)] Z h0 (o_cl Z (o_a w0) (o_a y0*4294967296+o_a y1) h0 n0):=by
 refine o_u (plainFor_of_name o_Y) (fun m=>o_mn m xr g) fun p e s m x y c s₁ hx o q r (t:s.vm.findClass "java/math/BigInteger"=some m.cls) hnm hret X0 hZ e0=> ?_
 have a:=o_t hx o o_fP t hZ r hw
 have N0:=Fr.nil n0
 obtain ⟨z,A,u,h,B⟩:=id n
 have h:Arv Z h0 xa ka .int (1:Int32) [(.int w0)] (.int (0:Int32)):=h
 obtain ⟨C,D,v,i,E⟩:=id BY
 have i:Arv Z h0 ya ky .int (2:Int32) [(.int y0),(.int y1)] (.int (0:Int32)):=i
 refine o_c 1 0 X0 a ?_
 refine o_h 4 1 40 X0 a e0 u fun F f j=> ?_
 refine o_bt 5 2 #[_,_,_,_,_,_,_,_,_] f a ?_
 refine o_c 6 3 f a ?_
 refine o_C 7 4 f a j h ?_
 refine o_O 8 5 #[_,_,_,_,_,_,_,_,_] f a ?_
 refine o_c 9 6 f a ?_
 refine o_h 12 7 40 f a j v fun G b k=> ?_
 refine o_1 14 8 #[_,_,_,_,_,_,_,_,_] b a ?_
 refine o_l 16 9 b a ?_
 refine o_C 17 10 b a k i ?_
 refine o_o 19 11 #[_,_,_,_,_,_,_,_,_] b a ?_
 refine o_e 20 12 b a ?_
 refine o_d 22 13 b a ?_
 refine o_E 25 14 b a rfl (tlt (by decide:(1:Int32)<(2:Int32))).2.1 ?_
 refine o_g 26 15 (-1) b a ?_
 exact o_W 16 b a hret q (by rw[k];exact ⟨_,rfl,N0,rfl,Or.inl ⟨rfl,o_iH hy0⟩⟩)
theorem o_ol (l:Launch)(Z:State)(a0:Array Value)(hw: ∀d∈tables_1,d.before a0 Z=true)(ws:List Jvm.Cond)(xr xa:Addr)(ka:ClassId)(w0 w1:Int32)(k ya:Addr)(ky:ClassId)(y0 y1:Int32)(h0:Heap)(n0:Nat)(Z0:n0≤h0.size)(w:Old Z n0 h0)(o:o_U Z h0 xr xa ka [w0,w1])(BY:o_U Z h0 k ya ky [y0,y1])(hy0: ¬y0=0):
  o_q l (⟨"java/math/BigInteger","compareMagnitude","(Ljava/math/BigInteger;)I"⟩:MethodName) (Jvm.Cond.code (⟨"java/math/BigInteger","compareMagnitude","(Ljava/math/BigInteger;)I"⟩:MethodName) jdk_2097_method_122_code 9 (some .int)::ws) ({frames:=0,cells:=0,slots:=0,locals:=0}:Room) #[(.ref xr),(.ref k)] Z h0 (o_cl Z (o_a w0*4294967296+o_a w1) (o_a y0*4294967296+o_a y1) h0 n0):=by
 refine o_u (plainFor_of_name o_Y) (fun m=>o_mo m xr k) fun p e s m y z c s₁ hx q h r (t:s.vm.findClass "java/math/BigInteger"=some m.cls) hnm hret X0 hZ e0=> ?_
 have a:=o_t hx q o_fP t hZ r hw
 have N0:=Fr.nil n0
 obtain ⟨A,B,u,i,C⟩:=id o
 have i:Arv Z h0 xa ka .int (2:Int32) [(.int w0),(.int w1)] (.int (0:Int32)):=i
 obtain ⟨D,E,v,j,F⟩:=id BY
 have j:Arv Z h0 ya ky .int (2:Int32) [(.int y0),(.int y1)] (.int (0:Int32)):=j
 refine o_c 1 0 X0 a ?_
 refine o_h 4 1 40 X0 a e0 u fun G g n=> ?_
 refine o_bt 5 2 #[_,_,_,_,_,_,_,_,_] g a ?_
 refine o_c 6 3 g a ?_
 refine o_C 7 4 g a n i ?_
 refine o_O 8 5 #[_,_,_,_,_,_,_,_,_] g a ?_
 refine o_c 9 6 g a ?_
 refine o_h 12 7 40 g a n v fun H b f=> ?_
 refine o_1 14 8 #[_,_,_,_,_,_,_,_,_] b a ?_
 refine o_l 16 9 b a ?_
 refine o_C 17 10 b a f j ?_
 refine o_o 19 11 #[_,_,_,_,_,_,_,_,_] b a ?_
 refine o_e 20 12 b a ?_
 refine o_d 22 13 b a ?_
 refine o_z 27 14 b a rfl (flt (by decide: ¬((2:Int32)<(2:Int32)))).2.1 ?_
 refine o_e 28 17 b a ?_
 refine o_d 30 18 b a ?_
 refine o_z 35 19 b a rfl (flt (by decide: ¬((2:Int32)<(2:Int32)))).2.2.2 ?_
 refine o_g 36 22 0 b a ?_
 refine o_o 38 23 #[_,_,_,_,_,_,_,_,_] b a ?_
 refine o_d 40 24 b a ?_
 refine o_e 41 25 b a ?_
 refine o_E 44 26 b a rfl (tlt (by decide:(0:Int32)<(2:Int32))).2.1 ?_
 refine o_c 45 27 b a ?_
 refine o_d 47 28 b a ?_
 refine o_Q 48 29 b a f i (x:=w0) ?_
 refine o_o 50 30 #[_,_,_,_,_,_,_,_,_] b a ?_
 refine o_l 52 31 b a ?_
 refine o_d 54 32 b a ?_
 refine o_Q 55 33 b a f j (x:=y0) ?_
 refine o_o 57 34 #[_,_,_,_,_,_,_,_,_] b a ?_
 refine o_d 59 35 b a ?_
 refine o_d 61 36 b a ?_
 by_cases he0:w0=y0
 ·refine o_z 88 37 b a rfl (teq he0).1 ?_
  refine o_G 91 52 #[_,_,_,_,_,_,iv 1,_,_] b a ?_
  refine o_w 38 53 b a ?_
  refine o_d 40 24 b a ?_
  refine o_e 41 25 b a ?_
  refine o_E 44 26 b a rfl (tlt (by decide:(1:Int32)<(2:Int32))).2.1 ?_
  refine o_c 45 27 b a ?_
  refine o_d 47 28 b a ?_
  refine o_Q 48 29 b a f i (x:=w1) ?_
  refine o_o 50 30 #[_,_,_,_,_,_,_,_,_] b a ?_
  refine o_l 52 31 b a ?_
  refine o_d 54 32 b a ?_
  refine o_Q 55 33 b a f j (x:=y1) ?_
  refine o_o 57 34 #[_,_,_,_,_,_,_,_,_] b a ?_
  refine o_d 59 35 b a ?_
  refine o_d 61 36 b a ?_
  by_cases he1:w1=y1
  ·refine o_z 88 37 b a rfl (teq he1).1 ?_
   refine o_G 91 52 #[_,_,_,_,_,_,iv 2,_,_] b a ?_
   refine o_w 38 53 b a ?_
   refine o_d 40 24 b a ?_
   refine o_e 41 25 b a ?_
   refine o_z 94 26 b a rfl (flt (by decide: ¬((2:Int32)<(2:Int32)))).2.1 ?_
   refine o_g 95 54 0 b a ?_
   exact o_W 55 b a hret h (by rw[f];exact ⟨_,rfl,N0,rfl,Or.inr (Or.inl ⟨rfl,by rw[he0,he1]⟩)⟩)
  ·refine o_E 64 37 b a rfl (feq he1).1 ?_
   refine o_d 66 38 b a ?_
   refine o_D 67 39 b a ?_
   refine o_y 70 53 40 b a ?_
   refine o_A 71 41 b a ?_
   refine o_d 73 42 b a ?_
   refine o_D 74 43 b a ?_
   refine o_y 77 53 44 b a ?_
   refine o_A 78 45 b a ?_
   refine o_3 79 46 b a ?_
   by_cases hl1:(lcmpW ((w1.toInt64)&&&(4294967295:Int64)) ((y1.toInt64)&&&(4294967295:Int64)))<(0:Int32)
   ·refine o_r 82 47 b a rfl ((if0 _ _).trans (tlt hl1).2.1) ?_
    refine o_g 83 48 (-1) b a ?_
    refine o_w 87 49 b a ?_
    exact o_W 51 b a hret h (by rw[f];exact ⟨_,rfl,N0,rfl,Or.inl ⟨rfl,o_iK he0 hl1⟩⟩)
   ·refine o_p 86 47 b a rfl ((if0 _ _).trans (flt hl1).2.1) ?_
    refine o_g 87 50 1 b a ?_
    exact o_W 51 b a hret h (by rw[f];exact ⟨_,rfl,N0,rfl,Or.inr (Or.inr ⟨rfl,o_iL he0 he1 hl1⟩)⟩)
 ·refine o_E 64 37 b a rfl (feq he0).1 ?_
  refine o_d 66 38 b a ?_
  refine o_D 67 39 b a ?_
  refine o_y 70 53 40 b a ?_
  refine o_A 71 41 b a ?_
  refine o_d 73 42 b a ?_
  refine o_D 74 43 b a ?_
  refine o_y 77 53 44 b a ?_
  refine o_A 78 45 b a ?_
  refine o_3 79 46 b a ?_
  by_cases hl0:(lcmpW ((w0.toInt64)&&&(4294967295:Int64)) ((y0.toInt64)&&&(4294967295:Int64)))<(0:Int32)
  ·refine o_r 82 47 b a rfl ((if0 _ _).trans (tlt hl0).2.1) ?_
   refine o_g 83 48 (-1) b a ?_
   refine o_w 87 49 b a ?_
   exact o_W 51 b a hret h (by rw[f];exact ⟨_,rfl,N0,rfl,Or.inl ⟨rfl,o_iI hl0⟩⟩)
  ·refine o_p 86 47 b a rfl ((if0 _ _).trans (flt hl0).2.1) ?_
   refine o_g 87 50 1 b a ?_
   exact o_W 51 b a hret h (by rw[f];exact ⟨_,rfl,N0,rfl,Or.inr (Or.inr ⟨rfl,o_iJ he0 hl0⟩)⟩)
theorem o_om (l:Launch)(Z:State)(a0:Array Value)(hw: ∀d∈tables_1,d.before a0 Z=true)(ws:List Jvm.Cond)(xr f:Addr)(A B:Int)(h0:Heap)(n0:Nat)(Z0:n0≤h0.size)(K:Old Z n0 h0)(r:Exa Z h0 xr "java/math/BigInteger")(j:Fld Z h0 xr "java/math/BigInteger" "signum" "I" (.int (1:Int32)))(u:Fld Z h0 f "java/math/BigInteger" "signum" "I" (.int (1:Int32)))(v:o_q l (⟨"java/math/BigInteger","compareMagnitude","(Ljava/math/BigInteger;)I"⟩:MethodName) [Jvm.Cond.code (⟨"java/math/BigInteger","compareMagnitude","(Ljava/math/BigInteger;)I"⟩:MethodName) jdk_2097_method_122_code 9 (some .int)] ({frames:=0,cells:=0,slots:=0,locals:=0}:Room) #[(.ref xr),(.ref f)] Z h0 (o_cl Z A B h0 n0)):
  o_q l (⟨"java/math/BigInteger","compareTo","(Ljava/math/BigInteger;)I"⟩:MethodName) (Jvm.Cond.code (⟨"java/math/BigInteger","compareTo","(Ljava/math/BigInteger;)I"⟩:MethodName) jdk_2097_method_121_code 2 (some .int)::ws) ({frames:=1,cells:=0,slots:=0,locals:=24}:Room) #[(.ref xr),(.ref f)] Z h0 (o_cl Z A B h0 n0):=by
 refine o_u (plainFor_of_name o_Y) (fun m=>o_mp m xr f) fun p e s m L M c s₁ hx n w x (y:s.vm.findClass "java/math/BigInteger"=some m.cls) hnm hret X0 hZ e0=> ?_
 have D:=o_S n o_fQ
 have b:=o_t hx n o_fQ y hZ x hw
 have N0:=Fr.nil n0
 refine o_c 1 0 X0 b ?_
 refine o_h 4 1 38 X0 b e0 j fun N o z=> ?_
 refine o_c 5 2 o b ?_
 refine o_h 8 3 38 o b z u fun O i C=> ?_
 refine o_E 11 4 i b rfl (teq (by decide:(1:Int32)=(1:Int32))).2 ?_
 refine o_c 12 5 i b ?_
 refine o_h 15 6 38 i b C j fun E h F=> ?_
 refine o_i (T':=E) (mkF m 40 #[rv xr,rv f] []) (fun t k=>h.lookupswitchHit hx (g:=(mkF m 15 #[rv xr,rv f] [(.int (1:Int32))])) rfl rfl (D 26 rfl) (by decide) (a:=1) (off:=25) (by rfl) (by show (0:Int)≤15+25;decide) t k) ?_
 refine o_c 41 7 h b ?_
 refine o_c 42 8 h b ?_
 refine o_aq 45 1 0 0 0 9 177 178 180 179 24 181 h b v o_f3 F r fun _ P Q q G=> ?_
 obtain ⟨rc,rfl,H,I,hC⟩:=G
 have J:=Fr.app N0 H
 refine o_k [_] ?_
 refine o_w 57 10 q b ?_
 exact o_W 16 q b hret w (by rw[I];exact ⟨rc,rfl,J,rfl,hC⟩)
def o_on (Z:State)(V:Int)(h0:Heap)(n0:Nat)(v:Option Value)(h:Heap)(L:List Loc):Prop:= ∃r:Int64,v=some (.long r)∧Fr n0 L∧h=h0∧r.toInt=V
def o_gl (Z:State)(cc tt pp:Int64)(h0:Heap)(n0:Nat)(v:Option Value)(h:Heap)(L:List Loc):Prop:= ∃r:Int64,v=some (.long r)∧Fr n0 L∧Keep h0 h []∧o_bU (cc.toInt*pp.toInt) tt.toInt r.toInt
theorem o_oo (l:Launch)(Z:State)(a0:Array Value)(hw: ∀d∈tables_1,d.before a0 Z=true)(ws:List Jvm.Cond)(cc tt pp:Int64)(h0:Heap)(n0:Nat)(Z0:n0≤h0.size)(b:Old Z n0 h0)(aW:0≤cc.toInt∧cc.toInt<9007199254740992)(ao:0≤tt.toInt∧tt.toInt<9007199254740992)(aX:0≤pp.toInt∧pp.toInt<9007199254740992)(aq:0<cc.toInt)(U:0<tt.toInt)(au:0<pp.toInt)(hle:(cc.toInt*pp.toInt)≤4503599627370496*tt.toInt)(pc:Addr)(kp:ClassId)(C:List Value)(E:Value)(SP:Sta Z Z.heap "java/math/BigInteger" "posConst" "[Ljava/math/BigInteger;" (.ref pc))(HP:o_ct Z pc kp C E)(zx w oa:Addr)(ko:ClassId)(SZ:Sta Z Z.heap "java/math/BigInteger" "ZERO" "Ljava/math/BigInteger;" (.ref zx))(EZ:Exa Z Z.heap zx "java/math/BigInteger")(FZ:Fld Z Z.heap zx "java/math/BigInteger" "signum" "I" (.int (0:Int32)))(hzx:zx<n0)(SO:Sta Z Z.heap "java/math/BigInteger" "ONE" "Ljava/math/BigInteger;" (.ref w))(a5:o_U Z Z.heap w oa ko [(1:Int32)]):
  o_q l (⟨"com/example/nuthatch/nuthatch/Arguments","requireFillMillis","(JJJ)J"⟩:MethodName) (Jvm.Cond.code (⟨"com/example/nuthatch/nuthatch/Arguments","requireFillMillis","(JJJ)J"⟩:MethodName) prog_1_method_4_code 8 (some .long)::ws) ({frames:=8,cells:=40,slots:=220,locals:=200}:Room) #[(.long cc),(.long tt),(.long pp)] Z h0 (o_gl Z cc tt pp h0 n0):=by
 refine o_u (plainFor_of_name o_k2) (fun m=>o_mq m cc tt pp) fun p e s m av a6 c s₁ hx aw a7 a8 (ax:s.vm.findClass "com/example/nuthatch/nuthatch/Arguments"=some m.cls) hnm hret X0 hZ e0=> ?_
 have D:=o_S aw o_fR
 have f:=o_t hx aw o_fR ax hZ a8 hw
 have N0:=Fr.nil n0
 have KP:Keep h0 h0 []:=Keep.refl _ _
 refine o_P 1 0 X0 f ?_
 refine o_F 4 1 0 2 8 1 22 23 24 25 X0 f (o_df l Z a0 hw [] cc pc kp C E h0 n0 (Nat.le_trans Z0 KP.1) b aW aq SP HP) o_dd e0 fun _ a9 cg ay a_=> ?_
 obtain ⟨cx,I,K,rfl,a',aA,M⟩:=a_
 have bb:=Fr.app N0 a'
 have b:=b.keep aA all0
 have KP:=KP.trans aA all0
 refine o_k [_] ?_
 refine o_j 6 2 ay f ?_
 refine o_F 9 1 1 4 16 3 22 23 24 25 ay f (o_df l Z a0 hw [] pp pc kp C E a9.heap n0 (Nat.le_trans Z0 KP.1) b aX au SP HP) o_dd rfl fun _ y ci bd be=> ?_
 obtain ⟨px,N,O,rfl,bf,V,aB⟩:=be
 have bg:=Fr.app bb bf
 have b:=b.keep V all0
 have KP:=KP.trans V all0
 have M:=M.keep V nin0 nin0
 refine o_k [_,_] ?_
 have aC:=M.exa
 have hM:o_q l (⟨"java/math/BigInteger","multiply","(Ljava/math/BigInteger;ZZI)Ljava/math/BigInteger;"⟩:MethodName) [Jvm.Cond.code (⟨"java/math/BigInteger","multiply","(Ljava/math/BigInteger;ZZI)Ljava/math/BigInteger;"⟩:MethodName) jdk_2097_method_42_code 9 (some (.object "java/math/BigInteger"))] ({frames:=4,cells:=3,slots:=22,locals:=110}:Room) #[(.ref cx),(.ref px),(.int (0:Int32)),(.int (0:Int32)),(.int (0:Int32))] Z y.heap (o_aF Z (fun h x a k=>o_aj Z h x a k (cc.toInt*pp.toInt) 4) y.heap n0):=by
  rcases M with ⟨c0,BC,F,ec⟩|⟨c0,c1,BC,F,ec⟩
  ·rcases aB with ⟨d0,BP,z,ed⟩|⟨d0,d1,BP,z,ed⟩
   ·exact o_a8 (o_nh l Z a0 hw [] cx I K c0 px N O d0 y.heap n0 (Nat.le_trans Z0 KP.1) b BC BP F z) (fun v h L ⟨x,a,k,e1,e2,e3,e4⟩=>⟨x,a,k,e1,e2,e3,by rw[ec,ed];exact e4.elim (fun q=>o_cb q (by omega)) (fun q=>o_bT q (by omega))⟩)
   ·exact o_a8 (o_ni l Z a0 hw [] cx I K c0 px N O d0 d1 y.heap n0 (Nat.le_trans Z0 KP.1) b BC BP F z) (fun v h L ⟨x,a,k,e1,e2,e3,e4⟩=>⟨x,a,k,e1,e2,e3,by rw[ec,ed];exact e4.elim (fun q=>o_bT q (by omega)) (fun q=>o_dR q (by omega))⟩)
  ·rcases aB with ⟨d0,BP,z,ed⟩|⟨d0,d1,BP,z,ed⟩
   ·exact o_a8 (o_nj l Z a0 hw [] cx I K c0 c1 px N O d0 y.heap n0 (Nat.le_trans Z0 KP.1) b BC BP F z) (fun v h L ⟨x,a,k,e1,e2,e3,e4⟩=>⟨x,a,k,e1,e2,e3,by rw[ec,ed];exact e4.elim (fun q=>o_bT q (by omega)) (fun q=>o_dR q (by omega))⟩)
   ·exact o_a8 (o_nk l Z a0 hw [] cx I K c0 c1 px N O d0 d1 y.heap n0 (Nat.le_trans Z0 KP.1) b BC BP F z) (fun v h L ⟨x,a,k,e1,e2,e3,e4⟩=>⟨x,a,k,e1,e2,e3,by rw[ec,ed];exact e4.elim (fun q=>o_dR q (by omega)) (fun q=>o_iM q (by omega))⟩)
 refine o_aq 12 1 0 7 38 4 28 29 31 30 24 32 bd f (o_nl l Z a0 hw [] cx px (fun h x a k=>o_aj Z h x a k (cc.toInt*pp.toInt) 4) y.heap n0 (Nat.le_trans Z0 KP.1) b aC hM) o_f4 rfl aC fun _ aD cj aE bh=> ?_
 obtain ⟨mx,aF,aG,rfl,bj,aH,G⟩:=bh
 have bk:=Fr.app bg bj
 have b:=b.keep aH all0
 have KP:=KP.trans aH all0
 refine o_k [_] ?_
 have G:o_aj Z aD.heap mx aF aG (cc.toInt*pp.toInt) 4:=G
 refine o_P 13 5 aE f ?_
 refine o_F 16 1 1 9 46 6 22 23 24 25 aE f (o_df l Z a0 hw [] tt pc kp C E aD.heap n0 (Nat.le_trans Z0 KP.1) b ao U SP HP) o_dd rfl fun _ aI ck bl bm=> ?_
 obtain ⟨tx,aJ,aK,rfl,bn,W,bo⟩:=bm
 have bp:=Fr.app bk bn
 have b:=b.keep W all0
 have KP:=KP.trans W all0
 have G:=G.keep W nin0 nin0
 refine o_k [_,_] ?_
 obtain ⟨cn,fa,n,X,br,bt,bu,bv,hcn,h1n,hn4,ha0,hva⟩:=id G
 obtain ⟨dn,ft,nd,bw,bx,aL,aM,bz,hdn,bA,hd2,ht0,hvt⟩:=o_iN bo
 refine o_aq 19 1 0 23 126 7 90 91 93 92 24 94 bl f (o_oe l Z a0 hw [] mx tx (o_n fa n) (o_n ft nd) aI.heap n0 (Nat.le_trans Z0 KP.1) b aJ aK dn ft nd X aL aM hdn hd2 (o_od l Z a0 hw [] mx tx fa ft n nd aI.heap n0 (Nat.le_trans Z0 KP.1) b zx cn dn aF aJ aG aK X br bt bu bv bw bx aL aM bz hcn hdn h1n hn4 bA hd2 ha0 ht0 (o_iO hvt ao.2) (by rw[hva,hvt];exact hle) SZ EZ FZ hzx)) o_f1 rfl X fun _ B cl H bB=> ?_
 obtain ⟨ar,cm,xq,Y,xr,sg,rfl,bC,aN,ad,A,bD,bE,hsg⟩:=bB
 have bF:=Fr.app bp bC
 have b:=b.keep aN all0
 have KP:=KP.trans aN all0
 refine o_k [_] ?_
 rw[hva,hvt] at A hsg
 have hA0:0<(cc.toInt*pp.toInt):=Int.mul_pos aq au
 refine o_1 21 8 #[_,_,_,_,_,_,_,_] H f ?_
 refine o_l 23 9 H f ?_
 refine o_g 24 10 1 H f ?_
 obtain ⟨co,ae,-,aO,-,bG,-⟩:=id ad
 refine o_i (mkF m 25 #[.val (.long cc),.second,.val (.long tt),.second,.val (.long pp),.second,rv ar,.unset] [(.ref xr)]) (H.aaload hx (j:=(1:Int32)) (v:=(.ref xr)) ae.1 (State.isArrayOf_alike hZ.alike ae.2.1) rfl ae.2.2 (inb_of aO ⟨by decide,by decide⟩) (bG.at (inb_of aO ⟨by decide,by decide⟩) rfl) (g:=(mkF m 24 #[.val (.long cc),.second,.val (.long tt),.second,.val (.long pp),.second,rv ar,.unset] [(.int (1:Int32)),(.ref ar)])) rfl rfl (D 11 rfl)) ?_
 refine o_aq 28 0 0 23 126 12 160 161 163 162 24 164 H f (o_nI l Z a0 hw [] xr sg B.heap n0 (Nat.le_trans Z0 KP.1) b bE) o_fV rfl bD fun _ cp cq o bH=> ?_
 obtain ⟨rfl,bI,P⟩:=bH
 have aP:=Fr.app bF bI
 refine o_k [_] ?_
 have J: ∀(T_:State) (Q:Heap) (L_:List Loc) (fx fb:Addr) (fk:ClassId) (rr:Int),Stand p l e ({frames:=8,cells:=40,slots:=220,locals:=200}:Room) s m #[(.long cc),(.long tt),(.long pp)] av a6 c T_ L_ 26 136→T_.heap=Q→Fr n0 L_→Old Z n0 Q→Keep h0 Q []→o_aj Z Q fx fb fk rr 2→o_bU (cc.toInt*pp.toInt) tt.toInt rr→o_f p e av (o_V s (o_gl Z cc tt pp h0 n0) ({frames:=8,cells:=40,slots:=220,locals:=200}:Room).cells ({frames:=8,cells:=40,slots:=220,locals:=200}:Room).slots) T_ (mkF m 48 #[.val (.long cc),.second,.val (.long tt),.second,.val (.long pp),.second,rv ar,.unset] [(.ref fx)]):=by
  intro cr bJ ct fx fb fk rr R bK bL b KP FB i
  refine o_1 50 23 #[_,_,_,_,_,_,_,_] R f ?_
  refine o_l 52 24 R f ?_
  refine o_y 55 171 25 R f ?_
  refine o_F 58 1 1 28 144 26 22 23 24 25 R f (o_df l Z a0 hw [] (4503599627370496:Int64) pc kp C E bJ n0 (Nat.le_trans Z0 KP.1) b ⟨by decide,by decide⟩ (by decide) SP HP) o_dd bK fun _ u cu bM bN=> ?_
  obtain ⟨S,aR,aS,rfl,bO,ag,aT⟩:=bN
  have bP:=Fr.app bL bO
  have b:=b.keep ag all0
  have KP:=KP.trans ag all0
  have FB:=FB.keep ag nin0 nin0
  refine o_k [_,_] ?_
  have T:=o_fr FB
  have ah:=T.exa
  have ai:(4503599627370496:Int64).toInt=4503599627370496:=rfl
  have bQ:o_q l (⟨"java/math/BigInteger","compareMagnitude","(Ljava/math/BigInteger;)I"⟩:MethodName) [Jvm.Cond.code (⟨"java/math/BigInteger","compareMagnitude","(Ljava/math/BigInteger;)I"⟩:MethodName) jdk_2097_method_122_code 9 (some .int)] ({frames:=0,cells:=0,slots:=0,locals:=0}:Room) #[(.ref fx),(.ref S)] Z u.heap (o_cl Z rr 4503599627370496 u.heap n0):=by
   rcases aT with ⟨y0,BY,hy0,ey⟩|⟨y0,y1,BY,hy0,ey⟩
   ·rw[ai] at ey;have:=o_m y0;omega
   ·rcases T with ⟨w0,t,hw0,ex⟩|⟨w0,w1,t,hw0,ex⟩
    ·exact o_a8 (o_ok l Z a0 hw [] fx fb fk w0 S aR aS y0 y1 u.heap n0 (Nat.le_trans Z0 KP.1) b t BY hy0) (fun v h L ⟨r,e1,e2,e3,e4⟩=>⟨r,e1,e2,e3,by rw[ex,←ai,ey];exact e4⟩)
    ·exact o_a8 (o_ol l Z a0 hw [] fx fb fk w0 w1 S aR aS y0 y1 u.heap n0 (Nat.le_trans Z0 KP.1) b t BY hy0) (fun v h L ⟨r,e1,e2,e3,e4⟩=>⟨r,e1,e2,e3,by rw[ex,←ai,ey];exact e4⟩)
  refine o_aq 61 1 0 28 144 27 172 173 175 174 24 176 bM f (o_om l Z a0 hw [] fx S rr 4503599627370496 u.heap n0 (Nat.le_trans Z0 KP.1) b ah T.fs aT.fs bQ) o_f3 rfl ah fun _ cv cw aj bR=> ?_
  obtain ⟨rc,rfl,bS,bT,hC⟩:=bR
  have bU:=Fr.app bP bS
  refine o_k [_] ?_
  refine o_p 81 28 aj f rfl ((if0 _ _).trans (flt (o_iR hC i.2.2.2)).2.2.2) ?_
  refine o_l 83 36 aj f ?_
  have hLV:o_q l (⟨"java/math/BigInteger","longValue","()J"⟩:MethodName) [Jvm.Cond.code (⟨"java/math/BigInteger","longValue","()J"⟩:MethodName) jdk_2097_method_136_code 4 (some .long)] ({frames:=2,cells:=0,slots:=0,locals:=34}:Room) #[(.ref fx)] Z u.heap (o_on Z rr u.heap n0):=by
   rcases T with ⟨w0,t,hw0,ex⟩|⟨w0,w1,t,hw0,ex⟩
   ·exact o_a8 (o_nQ l Z a0 hw [] fx fb fk w0 u.heap n0 (Nat.le_trans Z0 KP.1) b t) (fun v h L ⟨r,e1,e2,e3,e4⟩=>⟨r,e1,e2,e3,by rw[ex];exact e4⟩)
   ·exact o_a8 (o_nW l Z a0 hw [] fx fb fk w0 w1 u.heap n0 (Nat.le_trans Z0 KP.1) b t (by have:=i.2.2.2;rw[ex] at this;omega)) (fun v h L ⟨r,e1,e2,e3,e4⟩=>⟨r,e1,e2,e3,by rw[ex];exact e4⟩)
  refine o_aq 86 0 0 28 144 37 182 183 185 184 24 186 aj f hLV o_kY bT ah fun _ cy cz bV bW=> ?_
  obtain ⟨rl,rfl,bX,bY,hrl⟩:=bW
  have bZ:=Fr.app bU bX
  refine o_k [_] ?_
  exact o_a1 38 bV f hret a7 (by rw[bY];exact ⟨rl,rfl,bZ,KP,by rw[hrl];exact i⟩)
 by_cases hs0:sg=(0:Int32)
 ·refine o_r 31 13 o f rfl ((if0 _ _).trans (teq hs0).2) ?_
  refine o_l 33 14 o f ?_
  refine o_g 34 15 0 o f ?_
  obtain ⟨cA,ak,-,aU,-,b0,-⟩:=id ad
  refine o_i (mkF m 35 #[.val (.long cc),.second,.val (.long tt),.second,.val (.long pp),.second,rv ar,.unset] [(.ref xq)]) (o.aaload hx (j:=(0:Int32)) (v:=(.ref xq)) (by rw[P];exact ak.1) (State.isArrayOf_alike hZ.alike ak.2.1) rfl ak.2.2 (inb_of aU ⟨by decide,by decide⟩) (b0.at (inb_of aU ⟨by decide,by decide⟩) rfl) (g:=(mkF m 34 #[.val (.long cc),.second,.val (.long tt),.second,.val (.long pp),.second,rv ar,.unset] [(.int (0:Int32)),(.ref ar)])) rfl rfl (D 16 rfl)) ?_
  refine o_w 48 17 o f ?_
  have i:=o_iP U hA0 hle (hsg.mp hs0)
  obtain ⟨fk,FB⟩:=o_fs A (by have:=i.2.2.1;omega) (by have:=i.2.2.2;omega)
  exact J _ _ _ xq Y fk _ (o_iT o (by decide) (by decide)) P aP b KP FB i
 ·refine o_p 38 13 o f rfl ((if0 _ _).trans (feq hs0).2) ?_
  refine o_l 40 18 o f ?_
  refine o_g 41 19 0 o f ?_
  obtain ⟨cB,al,-,aV,-,b5,-⟩:=id ad
  refine o_i (mkF m 42 #[.val (.long cc),.second,.val (.long tt),.second,.val (.long pp),.second,rv ar,.unset] [(.ref xq)]) (o.aaload hx (j:=(0:Int32)) (v:=(.ref xq)) (by rw[P];exact al.1) (State.isArrayOf_alike hZ.alike al.2.1) rfl al.2.2 (inb_of aV ⟨by decide,by decide⟩) (b5.at (inb_of aV ⟨by decide,by decide⟩) rfl) (g:=(mkF m 41 #[.val (.long cc),.second,.val (.long tt),.second,.val (.long pp),.second,rv ar,.unset] [(.int (0:Int32)),(.ref ar)])) rfl rfl (D 20 rfl)) ?_
  obtain ⟨cC,b6,b7,b8⟩:=getS2 o hx hZ ax (host:="") (Or.inl (o_b hw 165 rfl)) Via.refl P (SO.ext b.2) (g:=(mkF m 42 #[.val (.long cc),.second,.val (.long tt),.second,.val (.long pp),.second,rv ar,.unset] [(.ref xq)])) rfl (D 21 rfl)
  refine o_i (mkF m 45 #[.val (.long cc),.second,.val (.long tt),.second,.val (.long pp),.second,rv ar,.unset] [(.ref w),(.ref xq)]) b8 ?_
  have i:=o_iQ U hA0 hle (fun q=>hs0 (hsg.mpr q))
  have BO:=a5.ext b.2
  have b9:=A.1
  have b_:o_q l (⟨"java/math/BigInteger","add","(Ljava/math/BigInteger;)Ljava/math/BigInteger;"⟩:MethodName) [Jvm.Cond.code (⟨"java/math/BigInteger","add","(Ljava/math/BigInteger;)Ljava/math/BigInteger;"⟩:MethodName) jdk_2097_method_32_code 4 (some (.object "java/math/BigInteger"))] ({frames:=3,cells:=3,slots:=10,locals:=74}:Room) #[(.ref xq),(.ref w)] Z B.heap (o_aF Z (fun h x a k=>o_aj Z h x a k ((cc.toInt*pp.toInt)/tt.toInt+1) 2) B.heap n0):=by
   by_cases hV0:(cc.toInt*pp.toInt)/tt.toInt=0
   ·refine o_a8 (o_oh l Z a0 hw [] xq w (fun h x a k=>o_aj Z h x a k ((cc.toInt*pp.toInt)/tt.toInt+1) 2) B.heap n0 (Nat.le_trans Z0 KP.1) b oa ko (o_iS A hV0) BO.2.1 ?_) (fun v h L q=>q)
    rw[hV0];exact o_cb ⟨1,BO,by decide,rfl⟩ (by omega)
   ·obtain ⟨k,QN⟩:=o_fs A (by have:=i.2.2.1;omega) (by have:=i.2.2.2;omega)
    rcases o_fr QN with ⟨w0,t,hw0,ex⟩|⟨w0,w1,t,hw0,ex⟩
    ·exact o_a8 (o_oi l Z a0 hw [] xq w Y oa k ko w0 B.heap n0 (Nat.le_trans Z0 KP.1) b t BO) (fun v h L ⟨x,a,k,e1,e2,e3,e4⟩=>⟨x,a,k,e1,e2,e3,by rw[ex];exact e4.elim (fun q=>o_cb q (by omega)) (fun q=>o_bT q (by omega))⟩)
    ·exact o_a8 (o_oj l Z a0 hw [] xq w Y oa k ko w0 w1 B.heap n0 (Nat.le_trans Z0 KP.1) b t BO hw0 (by have:=i.2.2.2;rw[ex] at this;omega)) (fun v h L ⟨x,a,k,e1,e2,e3,e4⟩=>⟨x,a,k,e1,e2,e3,by rw[ex];exact e4.elim (fun q=>o_cb q (by omega)) (fun q=>o_bT q (by omega))⟩)
  refine o_aq 48 1 0 26 136 22 166 167 169 168 24 170 b6 f b_ o_f4 b7 b9 fun _ b' cD ca cb=> ?_
  obtain ⟨fx,fb,fk,rfl,cd,am,FB⟩:=cb
  have ce:=Fr.app aP cd
  have b:=b.keep am all0
  have KP:=KP.trans am all0
  have A:=A.keep am nin0 nin0
  refine o_k [_] ?_
  have FB:o_aj Z b'.heap fx fb fk ((cc.toInt*pp.toInt)/tt.toInt+1) 2:=FB
  exact J _ _ _ fx fb fk _ ca rfl ce b KP FB i
def o_gm (Z:State)(ca ta pa:Int64)(sw:Int32)(pc:Addr)(kp:ClassId)(a:List Value)(b:Value)(zx c oa:Addr)(ko:ClassId)(h0:Heap)(n0:Nat)(v:Option Value)(h:Heap)(L:List Loc):Prop:=v=some (.int 1)∧Fr n0 L
theorem o_op (l:Launch)(Z:State)(a0:Array Value)(hw: ∀d∈tables_1,d.before a0 Z=true)(ws:List Jvm.Cond)(ca ta pa:Int64)(sw:Int32)(pc:Addr)(kp:ClassId)(u:List Value)(v:Value)(zx r oa:Addr)(ko:ClassId)(h0:Heap)(n0:Nat)(Z0:n0≤h0.size)(j:Old Z n0 h0)(SP:Sta Z Z.heap "java/math/BigInteger" "posConst" "[Ljava/math/BigInteger;" (.ref pc))(HP:o_ct Z pc kp u v)(SZ:Sta Z Z.heap "java/math/BigInteger" "ZERO" "Ljava/math/BigInteger;" (.ref zx))(I:Exa Z Z.heap zx "java/math/BigInteger")(J:Fld Z Z.heap zx "java/math/BigInteger" "signum" "I" (.int (0:Int32)))(hzx:zx<n0)(SO:Sta Z Z.heap "java/math/BigInteger" "ONE" "Ljava/math/BigInteger;" (.ref r))(K:o_U Z Z.heap r oa ko [(1:Int32)]):
  o_q l x (Jvm.Cond.code x code maxLocals ret::ws) room_1 #[(.long ca),(.long ta),(.long pa),(.int sw)] Z h0 (o_gm Z ca ta pa sw pc kp u v zx r oa ko h0 n0):=by
 refine MetFree.of_bodySF (plainFor_of_name o_de) hisR ?_
 intro p e s m args L B c s₁ Bd hml0 hP hK
 obtain ⟨rfl,hZ,hh⟩:=hP
 have C:=Bd.returns
 have hx:=Bd.exec
 have a:=Bd.bytes
 have D:B.locks=false:=BodyLoose.notSynchronized Bd
 have n:c.maxLocals=15:=hml0
 have f:s.vm.findClass "com/example/nuthatch/nuthatch/ArgumentsRequireFillMillisPinLaw"=some m.cls:=findClass_of_methodNamed Bd.named
 have aK:=(name_of_methodNamed Bd.named Bd.method).1
 have X0:Stand p l e room_1 s m #[(.long ca),(.long ta),(.long pa),(.int sw)] L B c s₁ [] 0 0:=Stand.of_body Bd
 have e0:s₁.heap=h0:=by rw[←hh,Bd.state];rfl
 have N0:=Fr.nil n0
 have KP:Keep h0 h0 []:=Keep.refl _ _
 refine o_d9 (Fin:=(o_V s (o_gm Z ca ta pa sw pc kp u v zx r oa ko h0 n0) room_1.cells room_1.slots)) (o_d_ (mkF m 0 #[.val (.long ca),.second,.val (.long ta),.second,.val (.long pa),.second,iv sw,.unset,.unset,.unset,.unset,.unset,.unset,.unset,.unset] []) (castTop (o_mr m ca ta pa sw)) ?_)
 refine o_b0 1 1 X0 hx (hb a at_0) rfl rfl ?_
 refine o_ee 2 X0 hx (hb a at_1) rfl rfl ?_
 refine o_b1 5 X0 hx f (mvT hZ (o_b hw 0 rfl)) (hb a at_2) rfl ?_
 refine o_dq 6 X0 hx (hb a at_5) rfl rfl ?_
 refine o_dn 8 X0 hx (hb a at_6) rfl rfl ?_
 refine o_bZ 10 63 X0 hx (hb a at_8) rfl rfl ?_
 refine o_do 11 X0 hx (hb a at_10) rfl rfl ?_
 refine o_dr 12 X0 hx (hb a at_11) rfl rfl ?_
 obtain ⟨_,aL,aM,h,M,N⟩:=o_bn X0 hx f (mvT hZ (o_b hw 1 rfl)) (mvT hZ (o_b hw 2 rfl)) (mvT hZ (o_b hw 3 rfl)) (mvT hZ (o_b hw 4 rfl)) (by decide) (backOf (W:=0) (o_dZ l Z a0 hw [] (1:Int64) (((ca&&&(9007199254740991:Int64)).toUInt64>>>((sw&&&(63:Int32))&&&0x3f).toInt64.toUInt64).toInt64) h0 n0 (Nat.le_trans Z0 KP.1) j) hZ (o_b hw 4 rfl) (o_b hw 3 rfl) (by decide) (by decide)) (g:=(mkF m 12 #[.val (.long ca),.second,.val (.long ta),.second,.val (.long pa),.second,iv sw,.unset,.unset,.unset,.unset,.unset,.unset,.unset,.unset] [(.long (((ca&&&(9007199254740991:Int64)).toUInt64>>>((sw&&&(63:Int32))&&&0x3f).toInt64.toUInt64).toInt64)),(.long (1:Int64))])) rfl (by rw[n];rfl) (argsL:= [(.long (1:Int64)),(.long (((ca&&&(9007199254740991:Int64)).toUInt64>>>((sw&&&(63:Int32))&&&0x3f).toInt64.toUInt64).toInt64))]) (rest:= []) (lenOf o_bK rfl) rfl (by show 2*0+_≤_;exact Nat.le_of_eq rfl) (hb a at_12) rfl e0 (kc:=0) (ks:=0) rfl rfl (by decide) (by decide)
 obtain ⟨cc,rfl,O,P,Q⟩:=M
 have R:=Fr.app N0 O
 refine o_i (mkF m 15 #[.val (.long ca),.second,.val (.long ta),.second,.val (.long pa),.second,iv sw,.unset,.unset,.unset,.unset,.unset,.unset,.unset,.unset] [(.long cc)]) N ?_
 obtain ⟨w,S⟩:=o_dU Q (o_dS (o_dT _))
 refine o_aO 17 #[.val (.long ca),.second,.val (.long ta),.second,.val (.long pa),.second,iv sw,.val (.long cc),.second,.unset,.unset,.unset,.unset,.unset,.unset] h hx (hb a at_15) rfl rfl ?_
 refine o_b0 18 1 h hx (hb a at_17) rfl rfl ?_
 refine o_ee 19 h hx (hb a at_18) rfl rfl ?_
 refine o_b1 22 h hx f (mvT hZ (o_b hw 0 rfl)) (hb a at_19) rfl ?_
 refine o_dq 23 h hx (hb a at_22) rfl rfl ?_
 refine o_dn 25 h hx (hb a at_23) rfl rfl ?_
 refine o_bZ 27 6 h hx (hb a at_25) rfl rfl ?_
 refine o_ed 28 h hx (hb a at_27) rfl rfl ?_
 refine o_bZ 30 63 h hx (hb a at_28) rfl rfl ?_
 refine o_do 31 h hx (hb a at_30) rfl rfl ?_
 refine o_dr 32 h hx (hb a at_31) rfl rfl ?_
 obtain ⟨_,aN,aO,i,T,U⟩:=o_bn h hx f (mvT hZ (o_b hw 1 rfl)) (mvT hZ (o_b hw 2 rfl)) (mvT hZ (o_b hw 3 rfl)) (mvT hZ (o_b hw 4 rfl)) (by decide) (backOf (W:=0) (o_dZ l Z a0 hw [] (1:Int64) (((ta&&&(9007199254740991:Int64)).toUInt64>>>((((sw.toUInt32>>>((6:Int32)&&&31).toUInt32).toInt32)&&&(63:Int32))&&&0x3f).toInt64.toUInt64).toInt64) h0 n0 (Nat.le_trans Z0 KP.1) j) hZ (o_b hw 4 rfl) (o_b hw 3 rfl) (by decide) (by decide)) (g:=(mkF m 32 #[.val (.long ca),.second,.val (.long ta),.second,.val (.long pa),.second,iv sw,.val (.long cc),.second,.unset,.unset,.unset,.unset,.unset,.unset] [(.long (((ta&&&(9007199254740991:Int64)).toUInt64>>>((((sw.toUInt32>>>((6:Int32)&&&31).toUInt32).toInt32)&&&(63:Int32))&&&0x3f).toInt64.toUInt64).toInt64)),(.long (1:Int64))])) rfl (by rw[n];rfl) (argsL:= [(.long (1:Int64)),(.long (((ta&&&(9007199254740991:Int64)).toUInt64>>>((((sw.toUInt32>>>((6:Int32)&&&31).toUInt32).toInt32)&&&(63:Int32))&&&0x3f).toInt64.toUInt64).toInt64))]) (rest:= []) (lenOf o_bK rfl) rfl (by show 2*0+_≤_;exact Nat.le_of_eq rfl) (hb a at_32) rfl P (kc:=0) (ks:=0) rfl rfl (by decide) (by decide)
 obtain ⟨tt,rfl,V,X,Y⟩:=T
 have ad:=Fr.app R V
 refine o_i (mkF m 35 #[.val (.long ca),.second,.val (.long ta),.second,.val (.long pa),.second,iv sw,.val (.long cc),.second,.unset,.unset,.unset,.unset,.unset,.unset] [(.long tt)]) U ?_
 obtain ⟨y,ae⟩:=o_dU Y (o_dS (o_dT _))
 refine o_aO 37 #[.val (.long ca),.second,.val (.long ta),.second,.val (.long pa),.second,iv sw,.val (.long cc),.second,.val (.long tt),.second,.unset,.unset,.unset,.unset] i hx (hb a at_35) rfl rfl ?_
 refine o_b0 38 1 i hx (hb a at_37) rfl rfl ?_
 refine o_ax 40 i hx (hb a at_38) rfl rfl ?_
 refine o_b1 43 i hx f (mvT hZ (o_b hw 0 rfl)) (hb a at_40) rfl ?_
 refine o_dq 44 i hx (hb a at_43) rfl rfl ?_
 refine o_dn 46 i hx (hb a at_44) rfl rfl ?_
 refine o_bZ 48 12 i hx (hb a at_46) rfl rfl ?_
 refine o_ed 49 i hx (hb a at_48) rfl rfl ?_
 refine o_bZ 51 63 i hx (hb a at_49) rfl rfl ?_
 refine o_do 52 i hx (hb a at_51) rfl rfl ?_
 refine o_dr 53 i hx (hb a at_52) rfl rfl ?_
 obtain ⟨_,aP,aQ,o,af,ag⟩:=o_bn i hx f (mvT hZ (o_b hw 1 rfl)) (mvT hZ (o_b hw 2 rfl)) (mvT hZ (o_b hw 3 rfl)) (mvT hZ (o_b hw 4 rfl)) (by decide) (backOf (W:=0) (o_dZ l Z a0 hw [] (1:Int64) (((pa&&&(9007199254740991:Int64)).toUInt64>>>((((sw.toUInt32>>>((12:Int32)&&&31).toUInt32).toInt32)&&&(63:Int32))&&&0x3f).toInt64.toUInt64).toInt64) h0 n0 (Nat.le_trans Z0 KP.1) j) hZ (o_b hw 4 rfl) (o_b hw 3 rfl) (by decide) (by decide)) (g:=(mkF m 53 #[.val (.long ca),.second,.val (.long ta),.second,.val (.long pa),.second,iv sw,.val (.long cc),.second,.val (.long tt),.second,.unset,.unset,.unset,.unset] [(.long (((pa&&&(9007199254740991:Int64)).toUInt64>>>((((sw.toUInt32>>>((12:Int32)&&&31).toUInt32).toInt32)&&&(63:Int32))&&&0x3f).toInt64.toUInt64).toInt64)),(.long (1:Int64))])) rfl (by rw[n];rfl) (argsL:= [(.long (1:Int64)),(.long (((pa&&&(9007199254740991:Int64)).toUInt64>>>((((sw.toUInt32>>>((12:Int32)&&&31).toUInt32).toInt32)&&&(63:Int32))&&&0x3f).toInt64.toUInt64).toInt64))]) (rest:= []) (lenOf o_bK rfl) rfl (by show 2*0+_≤_;exact Nat.le_of_eq rfl) (hb a at_53) rfl X (kc:=0) (ks:=0) rfl rfl (by decide) (by decide)
 obtain ⟨pp,rfl,ah,ai,aj⟩:=af
 have ak:=Fr.app ad ah
 refine o_i (mkF m 56 #[.val (.long ca),.second,.val (.long ta),.second,.val (.long pa),.second,iv sw,.val (.long cc),.second,.val (.long tt),.second,.unset,.unset,.unset,.unset] [(.long pp)]) ag ?_
 obtain ⟨z,al⟩:=o_dU aj (o_dS (o_dT _))
 refine o_aO 58 #[.val (.long ca),.second,.val (.long ta),.second,.val (.long pa),.second,iv sw,.val (.long cc),.second,.val (.long tt),.second,.val (.long pp),.second,.unset,.unset] o hx (hb a at_56) rfl rfl ?_
 refine o_ax 60 o hx (hb a at_58) rfl rfl ?_
 refine o_ax 62 o hx (hb a at_60) rfl rfl ?_
 refine o_b1 65 o hx f (mvT hZ (o_b hw 5 rfl)) (hb a at_62) rfl ?_
 refine o_ax 67 o hx (hb a at_65) rfl rfl ?_
 obtain ⟨_,aR,aS,k,am,ao⟩:=o_bn o hx f (mvT hZ (o_b hw 6 rfl)) (mvT hZ (o_b hw 7 rfl)) (mvT hZ (o_b hw 8 rfl)) (mvT hZ (o_b hw 9 rfl)) (by decide) (backOf (W:=0) (o_d0 l Z a0 hw [] cc pp (4503599627370496:Int64) tt h0 n0 (Nat.le_trans Z0 KP.1) j w z ⟨by decide,by decide⟩ y) hZ (o_b hw 9 rfl) (o_b hw 8 rfl) (by decide) (by decide)) (g:=(mkF m 67 #[.val (.long ca),.second,.val (.long ta),.second,.val (.long pa),.second,iv sw,.val (.long cc),.second,.val (.long tt),.second,.val (.long pp),.second,.unset,.unset] [(.long tt),(.long (4503599627370496:Int64)),(.long pp),(.long cc)])) rfl (by rw[n];rfl) (argsL:= [(.long cc),(.long pp),(.long (4503599627370496:Int64)),(.long tt)]) (rest:= []) (lenOf o_dX rfl) rfl (by show 2*0+_≤_;exact Nat.le_of_eq rfl) (hb a at_67) rfl ai (kc:=0) (ks:=0) rfl rfl (by decide) (by decide)
 obtain ⟨k1,rfl,aq,E,C1⟩:=am
 have F:=Fr.app ak aq
 refine o_i (mkF m 70 #[.val (.long ca),.second,.val (.long ta),.second,.val (.long pa),.second,iv sw,.val (.long cc),.second,.val (.long tt),.second,.val (.long pp),.second,.unset,.unset] [(.int k1)]) ao ?_
 by_cases hg:(0:Int32)<k1
 ·refine o_cn 73 k hx (hb a at_70) ((if0 _ _).trans (tlt hg).2.2.2) rfl ?_
  refine o_ec 74 1 k hx (hb a at_73) rfl rfl ?_
  exact o_cm k hx (t:= .boolean) C (by simp) D (hb a at_74) (by decide) (by decide) (by rw[E];exact ⟨rfl,F⟩)
 ·refine o_eg 75 k hx (hb a at_70) ((if0 _ _).trans (flt hg).2.2.2) (by decide) (by decide) ?_
  have hle:=o_iU C1 hg
  refine o_ax 77 k hx (hb a at_75) rfl rfl ?_
  refine o_ax 79 k hx (hb a at_77) rfl rfl ?_
  refine o_ax 81 k hx (hb a at_79) rfl rfl ?_
  obtain ⟨_,G,aT,b,au,av⟩:=o_bn k hx f (mvT hZ (o_b hw 18 rfl)) (mvT hZ (o_b hw 19 rfl)) (mvT hZ (o_b hw 20 rfl)) (mvT hZ (o_b hw 21 rfl)) (by decide) (backOf (W:=0) (o_oo l Z a0 hw [] cc tt pp h0 n0 (Nat.le_trans Z0 KP.1) j w y z S ae al hle pc kp u v SP HP zx r oa ko SZ I J hzx SO K) hZ (o_b hw 21 rfl) (o_b hw 20 rfl) (by decide) (by decide)) (g:=(mkF m 81 #[.val (.long ca),.second,.val (.long ta),.second,.val (.long pa),.second,iv sw,.val (.long cc),.second,.val (.long tt),.second,.val (.long pp),.second,.unset,.unset] [(.long pp),(.long tt),(.long cc)])) rfl (by rw[n];rfl) (argsL:= [(.long cc),(.long tt),(.long pp)]) (rest:= []) (lenOf o_kZ rfl) rfl (by show 2*0+_≤_;exact Nat.le_of_eq rfl) (hb a at_81) rfl E (kc:=40) (ks:=220) rfl rfl (by decide) (by decide)
  obtain ⟨rr,rfl,aw,H,ax⟩:=au
  have ay:=Fr.app F aw
  have j:=j.keep H all0
  have KP:=KP.trans H all0
  refine o_i (mkF m 84 #[.val (.long ca),.second,.val (.long ta),.second,.val (.long pa),.second,iv sw,.val (.long cc),.second,.val (.long tt),.second,.val (.long pp),.second,.unset,.unset] [(.long rr)]) av ?_
  obtain ⟨v1,v2,v3,v4⟩:=ax
  refine o_aO 86 #[.val (.long ca),.second,.val (.long ta),.second,.val (.long pa),.second,iv sw,.val (.long cc),.second,.val (.long tt),.second,.val (.long pp),.second,.val (.long rr),.second] b hx (hb a at_84) rfl rfl ?_
  refine o_ax 88 b hx (hb a at_86) rfl rfl ?_
  refine o_b0 89 1 b hx (hb a at_88) rfl rfl ?_
  refine o_ef 90 b hx (hb a at_89) rfl ?_
  refine o_cn 93 b hx (hb a at_90) ((if0 _ _).trans (flt (o_iX v3)).1) rfl ?_
  refine o_ax 95 b hx (hb a at_93) rfl rfl ?_
  refine o_b1 98 b hx f (mvT hZ (o_b hw 5 rfl)) (hb a at_95) rfl ?_
  refine o_ef 99 b hx (hb a at_98) rfl ?_
  refine o_eg 104 b hx (hb a at_99) ((if0 _ _).trans (flt (o_iY v4)).2.2.2) (by decide) (by decide) ?_
  refine o_ax 106 b hx (hb a at_104) rfl rfl ?_
  refine o_b0 107 1 b hx (hb a at_106) rfl rfl ?_
  refine o_gt 108 b hx (hb a at_107) rfl rfl ?_
  refine o_ax 110 b hx (hb a at_108) rfl rfl ?_
  refine o_ax 112 b hx (hb a at_110) rfl rfl ?_
  refine o_ax 114 b hx (hb a at_112) rfl rfl ?_
  have e1:=o_iZ v3 v4
  obtain ⟨_,aU,aV,q,aA,aB⟩:=o_bn b hx f (mvT hZ (o_b hw 6 rfl)) (mvT hZ (o_b hw 7 rfl)) (mvT hZ (o_b hw 8 rfl)) (mvT hZ (o_b hw 9 rfl)) (by decide) (backOf (W:=0) (o_d0 l Z a0 hw [] (rr-(1:Int64)) tt cc pp G.heap n0 (Nat.le_trans Z0 KP.1) j (by omega) y w z) hZ (o_b hw 9 rfl) (o_b hw 8 rfl) (by decide) (by decide)) (g:=(mkF m 114 #[.val (.long ca),.second,.val (.long ta),.second,.val (.long pa),.second,iv sw,.val (.long cc),.second,.val (.long tt),.second,.val (.long pp),.second,.val (.long rr),.second] [(.long pp),(.long cc),(.long tt),(.long (rr-(1:Int64)))])) rfl (by rw[n];rfl) (argsL:= [(.long (rr-(1:Int64))),(.long tt),(.long cc),(.long pp)]) (rest:= []) (lenOf o_dX rfl) rfl (by show 2*0+_≤_;exact Nat.le_of_eq rfl) (hb a at_114) rfl rfl (kc:=40) (ks:=220) rfl rfl (by decide) (by decide)
  obtain ⟨k2,rfl,aC,aD,C2⟩:=aA
  have aE:=Fr.app ay aC
  refine o_i (mkF m 117 #[.val (.long ca),.second,.val (.long ta),.second,.val (.long pa),.second,iv sw,.val (.long cc),.second,.val (.long tt),.second,.val (.long pp),.second,.val (.long rr),.second] [(.int k2)]) aB ?_
  refine o_cn 120 q hx (hb a at_117) ((if0 _ _).trans (tlt (o_iV C2 (by rw[e1];exact v1))).2.1) rfl ?_
  refine o_ax 122 q hx (hb a at_120) rfl rfl ?_
  refine o_ax 124 q hx (hb a at_122) rfl rfl ?_
  refine o_ax 126 q hx (hb a at_124) rfl rfl ?_
  refine o_ax 128 q hx (hb a at_126) rfl rfl ?_
  obtain ⟨_,aW,aX,A,aF,aG⟩:=o_bn q hx f (mvT hZ (o_b hw 6 rfl)) (mvT hZ (o_b hw 7 rfl)) (mvT hZ (o_b hw 8 rfl)) (mvT hZ (o_b hw 9 rfl)) (by decide) (backOf (W:=0) (o_d0 l Z a0 hw [] cc pp rr tt G.heap n0 (Nat.le_trans Z0 KP.1) j w z (by omega) y) hZ (o_b hw 9 rfl) (o_b hw 8 rfl) (by decide) (by decide)) (g:=(mkF m 128 #[.val (.long ca),.second,.val (.long ta),.second,.val (.long pa),.second,iv sw,.val (.long cc),.second,.val (.long tt),.second,.val (.long pp),.second,.val (.long rr),.second] [(.long tt),(.long rr),(.long pp),(.long cc)])) rfl (by rw[n];rfl) (argsL:= [(.long cc),(.long pp),(.long rr),(.long tt)]) (rest:= []) (lenOf o_dX rfl) rfl (by show 2*0+_≤_;exact Nat.le_of_eq rfl) (hb a at_128) rfl aD (kc:=40) (ks:=220) rfl rfl (by decide) (by decide)
  obtain ⟨k3,rfl,aH,aI,C3⟩:=aF
  have aJ:=Fr.app aE aH
  refine o_i (mkF m 131 #[.val (.long ca),.second,.val (.long ta),.second,.val (.long pa),.second,iv sw,.val (.long cc),.second,.val (.long tt),.second,.val (.long pp),.second,.val (.long rr),.second] [(.int k3)]) aG ?_
  refine o_cn 134 A hx (hb a at_131) ((if0 _ _).trans (flt (o_iW C3 v2)).2.2.1) rfl ?_
  refine o_ec 135 1 A hx (hb a at_134) rfl rfl ?_
  refine o_gu 139 A hx (hb a at_135) (by decide) (by decide) ?_
  exact o_cm A hx (t:= .boolean) C (by simp) D (hb a at_139) (by decide) (by decide) (by rw[aI];exact ⟨rfl,aJ⟩)
theorem o_gn {Post:Tables→Env→Array Value→State→Outcome→State→Prop}(hpost: ∀tb e args s v u,(limb_1_1.after args s (.returned v) u=true∧limb_1_2.after args s (.returned v) u=true∧True)→FrameEnd s (.returned v) u (Jvm.fieldLocs frame_1_writes args s++Jvm.arrayLocs frame_1_arrays args s++Jvm.staticLocs frame_1_statics s) 64 256→Post tb e args s (.returned v) u):
  ArmFor flags0 classFile x code maxLocals ret World_1 tables_1 room_1 Calls_1 rest_1 Pre_1 Post:=by
 intro l hfl _ _ p e ha hc hk s m args M hf hA hF happ hP
 obtain ⟨hcalls,hrest,hpre⟩:=hP
 obtain ⟨-,-,-,hnamed,-,-,-,hat⟩:=(Spec.applies_iff hf).mp happ
 obtain ⟨hg,hn⟩:=and_e (Cond.before_iff.mp (show (Jvm.Cond.and given_1 narrow_1).before args s=true from hpre))
 obtain ⟨hg0,O⟩:=and_e hg
 obtain ⟨hg1,hgr1⟩:=and_e O
 obtain ⟨hg2,hgr2⟩:=and_e hgr1
 obtain ⟨hg3,P⟩:=and_e hgr2
 obtain ⟨w0,w1,w2,w3,rfl⟩: ∃w0 w1 w2 w3:Value,args= #[w0,w1,w2,w3]:=by
  have hs:args.size=4:=by simpa [Cond.value,given_1] using hg0
  obtain ⟨L⟩:=args
  match L,hs with
  | [w0,w1,w2,w3],_=>exact ⟨w0,w1,w2,w3,rfl⟩
 have hw:=fun d (hd:d∈tables_1)=>atoms_spec (ws:=Jvm.Cond.code x code maxLocals ret::tables_1) hat d (List.mem_cons_of_mem _ hd)
 have b:Fit s:=fun {y c} hc i hi=>by
  obtain ⟨ha,rfl⟩:=Array.getElem?_eq_some_iff.mp hc
  have q:=List.all_eq_true.mp ((Array.all_eq_true_iff_forall_mem.mp hF) _ (Array.getElem_mem ha)) i (List.mem_range.mpr hi)
  simpa [Array.getElem?_eq_getElem hi] using q
 obtain ⟨i0,Q⟩:=isL_v hg1
 obtain rfl:w0=(.long i0):=Option.some.inj Q
 obtain ⟨i1,R⟩:=isL_v hg2
 obtain rfl:w1=(.long i1):=Option.some.inj R
 obtain ⟨i2,S⟩:=isL_v hg3
 obtain rfl:w2=(.long i2):=Option.some.inj S
 obtain ⟨i3,T⟩:=is_v P
 obtain rfl:w3=(.int i3):=Option.some.inj T
 obtain ⟨a,a'⟩:=atoms_of _ (rest_1_c_eq▸(show rest_1_c.before _ s=true from hrest))
 obtain ⟨pa,f⟩:=exa_v (Cond.before_iff.mp (a _ (List.mem_of_getElem? (i:=9) rfl)))
 have SP:=Sta.start f (Or.inl (a _ (List.mem_of_getElem? (i:=1) rfl)))
 obtain ⟨U,V⟩:=Arr.start f (Cond.before_iff.mp (a _ (List.mem_of_getElem? (i:=8) rfl)))
 obtain ⟨y1,h⟩:=exa_v (Cond.before_iff.mp (a _ (List.mem_of_getElem? (i:=12) rfl)))
 obtain ⟨W,X,Y⟩:=o_aB b h (Cond.before_iff.mp (a _ (List.mem_of_getElem? (i:=12) rfl))) (Cond.before_iff.mp (a _ (List.mem_of_getElem? (i:=13) rfl))) (Cond.before_iff.mp (a _ (List.mem_of_getElem? (i:=14) rfl))) (Cond.before_iff.mp (a _ (List.mem_of_getElem? (i:=15) rfl))) (Cond.before_iff.mp (a _ (List.mem_of_getElem? (i:=16) rfl))) (Cond.before_iff.mp (a _ (List.mem_of_getElem? (i:=17) rfl)))
 obtain ⟨y2,j⟩:=exa_v (Cond.before_iff.mp (a _ (List.mem_of_getElem? (i:=19) rfl)))
 obtain ⟨Z,ad,ae⟩:=o_aB b j (Cond.before_iff.mp (a _ (List.mem_of_getElem? (i:=19) rfl))) (Cond.before_iff.mp (a _ (List.mem_of_getElem? (i:=20) rfl))) (Cond.before_iff.mp (a _ (List.mem_of_getElem? (i:=21) rfl))) (Cond.before_iff.mp (a _ (List.mem_of_getElem? (i:=22) rfl))) (Cond.before_iff.mp (a _ (List.mem_of_getElem? (i:=23) rfl))) (Cond.before_iff.mp (a _ (List.mem_of_getElem? (i:=24) rfl)))
 obtain ⟨y3,k⟩:=exa_v (Cond.before_iff.mp (a _ (List.mem_of_getElem? (i:=25) rfl)))
 obtain ⟨af,ag,ah⟩:=o_aB b k (Cond.before_iff.mp (a _ (List.mem_of_getElem? (i:=25) rfl))) (Cond.before_iff.mp (a _ (List.mem_of_getElem? (i:=26) rfl))) (Cond.before_iff.mp (a _ (List.mem_of_getElem? (i:=27) rfl))) (Cond.before_iff.mp (a _ (List.mem_of_getElem? (i:=28) rfl))) (Cond.before_iff.mp (a _ (List.mem_of_getElem? (i:=29) rfl))) (Cond.before_iff.mp (a _ (List.mem_of_getElem? (i:=30) rfl)))
 obtain ⟨y4,r⟩:=exa_v (Cond.before_iff.mp (a _ (List.mem_of_getElem? (i:=31) rfl)))
 obtain ⟨ai,aj,ak⟩:=o_aB b r (Cond.before_iff.mp (a _ (List.mem_of_getElem? (i:=31) rfl))) (Cond.before_iff.mp (a _ (List.mem_of_getElem? (i:=32) rfl))) (Cond.before_iff.mp (a _ (List.mem_of_getElem? (i:=33) rfl))) (Cond.before_iff.mp (a _ (List.mem_of_getElem? (i:=34) rfl))) (Cond.before_iff.mp (a _ (List.mem_of_getElem? (i:=35) rfl))) (Cond.before_iff.mp (a _ (List.mem_of_getElem? (i:=36) rfl)))
 obtain ⟨y5,t⟩:=exa_v (Cond.before_iff.mp (a _ (List.mem_of_getElem? (i:=37) rfl)))
 obtain ⟨al,am,ao⟩:=o_aB b t (Cond.before_iff.mp (a _ (List.mem_of_getElem? (i:=37) rfl))) (Cond.before_iff.mp (a _ (List.mem_of_getElem? (i:=38) rfl))) (Cond.before_iff.mp (a _ (List.mem_of_getElem? (i:=39) rfl))) (Cond.before_iff.mp (a _ (List.mem_of_getElem? (i:=40) rfl))) (Cond.before_iff.mp (a _ (List.mem_of_getElem? (i:=41) rfl))) (Cond.before_iff.mp (a _ (List.mem_of_getElem? (i:=42) rfl)))
 obtain ⟨y6,w⟩:=exa_v (Cond.before_iff.mp (a _ (List.mem_of_getElem? (i:=43) rfl)))
 obtain ⟨aq,au,av⟩:=o_aB b w (Cond.before_iff.mp (a _ (List.mem_of_getElem? (i:=43) rfl))) (Cond.before_iff.mp (a _ (List.mem_of_getElem? (i:=44) rfl))) (Cond.before_iff.mp (a _ (List.mem_of_getElem? (i:=45) rfl))) (Cond.before_iff.mp (a _ (List.mem_of_getElem? (i:=46) rfl))) (Cond.before_iff.mp (a _ (List.mem_of_getElem? (i:=47) rfl))) (Cond.before_iff.mp (a _ (List.mem_of_getElem? (i:=48) rfl)))
 obtain ⟨y7,z⟩:=exa_v (Cond.before_iff.mp (a _ (List.mem_of_getElem? (i:=49) rfl)))
 obtain ⟨aw,ax,ay⟩:=o_aB b z (Cond.before_iff.mp (a _ (List.mem_of_getElem? (i:=49) rfl))) (Cond.before_iff.mp (a _ (List.mem_of_getElem? (i:=50) rfl))) (Cond.before_iff.mp (a _ (List.mem_of_getElem? (i:=51) rfl))) (Cond.before_iff.mp (a _ (List.mem_of_getElem? (i:=52) rfl))) (Cond.before_iff.mp (a _ (List.mem_of_getElem? (i:=53) rfl))) (Cond.before_iff.mp (a _ (List.mem_of_getElem? (i:=54) rfl)))
 obtain ⟨y8,A⟩:=exa_v (Cond.before_iff.mp (a _ (List.mem_of_getElem? (i:=55) rfl)))
 obtain ⟨aA,aB,aC⟩:=o_aB b A (Cond.before_iff.mp (a _ (List.mem_of_getElem? (i:=55) rfl))) (Cond.before_iff.mp (a _ (List.mem_of_getElem? (i:=56) rfl))) (Cond.before_iff.mp (a _ (List.mem_of_getElem? (i:=57) rfl))) (Cond.before_iff.mp (a _ (List.mem_of_getElem? (i:=58) rfl))) (Cond.before_iff.mp (a _ (List.mem_of_getElem? (i:=59) rfl))) (Cond.before_iff.mp (a _ (List.mem_of_getElem? (i:=60) rfl)))
 obtain ⟨y9,B⟩:=exa_v (Cond.before_iff.mp (a _ (List.mem_of_getElem? (i:=61) rfl)))
 obtain ⟨aD,aE,aF⟩:=o_aB b B (Cond.before_iff.mp (a _ (List.mem_of_getElem? (i:=61) rfl))) (Cond.before_iff.mp (a _ (List.mem_of_getElem? (i:=62) rfl))) (Cond.before_iff.mp (a _ (List.mem_of_getElem? (i:=63) rfl))) (Cond.before_iff.mp (a _ (List.mem_of_getElem? (i:=64) rfl))) (Cond.before_iff.mp (a _ (List.mem_of_getElem? (i:=65) rfl))) (Cond.before_iff.mp (a _ (List.mem_of_getElem? (i:=66) rfl)))
 obtain ⟨y10,C⟩:=exa_v (Cond.before_iff.mp (a _ (List.mem_of_getElem? (i:=68) rfl)))
 obtain ⟨aG,aH,aI⟩:=o_aB b C (Cond.before_iff.mp (a _ (List.mem_of_getElem? (i:=68) rfl))) (Cond.before_iff.mp (a _ (List.mem_of_getElem? (i:=69) rfl))) (Cond.before_iff.mp (a _ (List.mem_of_getElem? (i:=70) rfl))) (Cond.before_iff.mp (a _ (List.mem_of_getElem? (i:=71) rfl))) (Cond.before_iff.mp (a _ (List.mem_of_getElem? (i:=72) rfl))) (Cond.before_iff.mp (a _ (List.mem_of_getElem? (i:=73) rfl)))
 obtain ⟨y11,D⟩:=exa_v (Cond.before_iff.mp (a _ (List.mem_of_getElem? (i:=74) rfl)))
 obtain ⟨aJ,aK,aL⟩:=o_aB b D (Cond.before_iff.mp (a _ (List.mem_of_getElem? (i:=74) rfl))) (Cond.before_iff.mp (a _ (List.mem_of_getElem? (i:=75) rfl))) (Cond.before_iff.mp (a _ (List.mem_of_getElem? (i:=76) rfl))) (Cond.before_iff.mp (a _ (List.mem_of_getElem? (i:=77) rfl))) (Cond.before_iff.mp (a _ (List.mem_of_getElem? (i:=78) rfl))) (Cond.before_iff.mp (a _ (List.mem_of_getElem? (i:=79) rfl)))
 obtain ⟨y12,E⟩:=exa_v (Cond.before_iff.mp (a _ (List.mem_of_getElem? (i:=80) rfl)))
 obtain ⟨aM,aN,aO⟩:=o_aB b E (Cond.before_iff.mp (a _ (List.mem_of_getElem? (i:=80) rfl))) (Cond.before_iff.mp (a _ (List.mem_of_getElem? (i:=81) rfl))) (Cond.before_iff.mp (a _ (List.mem_of_getElem? (i:=82) rfl))) (Cond.before_iff.mp (a _ (List.mem_of_getElem? (i:=83) rfl))) (Cond.before_iff.mp (a _ (List.mem_of_getElem? (i:=84) rfl))) (Cond.before_iff.mp (a _ (List.mem_of_getElem? (i:=85) rfl)))
 obtain ⟨y13,F⟩:=exa_v (Cond.before_iff.mp (a _ (List.mem_of_getElem? (i:=86) rfl)))
 obtain ⟨aP,aQ,aR⟩:=o_aB b F (Cond.before_iff.mp (a _ (List.mem_of_getElem? (i:=86) rfl))) (Cond.before_iff.mp (a _ (List.mem_of_getElem? (i:=87) rfl))) (Cond.before_iff.mp (a _ (List.mem_of_getElem? (i:=88) rfl))) (Cond.before_iff.mp (a _ (List.mem_of_getElem? (i:=89) rfl))) (Cond.before_iff.mp (a _ (List.mem_of_getElem? (i:=90) rfl))) (Cond.before_iff.mp (a _ (List.mem_of_getElem? (i:=91) rfl)))
 obtain ⟨aS,G⟩:=exa_v (Cond.before_iff.mp (a _ (List.mem_of_getElem? (i:=92) rfl)))
 obtain ⟨aT,aU,aV⟩:=o_aB b G (Cond.before_iff.mp (a _ (List.mem_of_getElem? (i:=92) rfl))) (Cond.before_iff.mp (a _ (List.mem_of_getElem? (i:=93) rfl))) (Cond.before_iff.mp (a _ (List.mem_of_getElem? (i:=94) rfl))) (Cond.before_iff.mp (a _ (List.mem_of_getElem? (i:=95) rfl))) (Cond.before_iff.mp (a _ (List.mem_of_getElem? (i:=96) rfl))) (Cond.before_iff.mp (a _ (List.mem_of_getElem? (i:=97) rfl)))
 obtain ⟨aW,H⟩:=exa_v (Cond.before_iff.mp (a _ (List.mem_of_getElem? (i:=98) rfl)))
 obtain ⟨aX,aY,aZ⟩:=o_aB b H (Cond.before_iff.mp (a _ (List.mem_of_getElem? (i:=98) rfl))) (Cond.before_iff.mp (a _ (List.mem_of_getElem? (i:=99) rfl))) (Cond.before_iff.mp (a _ (List.mem_of_getElem? (i:=100) rfl))) (Cond.before_iff.mp (a _ (List.mem_of_getElem? (i:=101) rfl))) (Cond.before_iff.mp (a _ (List.mem_of_getElem? (i:=102) rfl))) (Cond.before_iff.mp (a _ (List.mem_of_getElem? (i:=103) rfl)))
 obtain ⟨a0,I⟩:=exa_v (Cond.before_iff.mp (a _ (List.mem_of_getElem? (i:=104) rfl)))
 obtain ⟨a5,a6,a7⟩:=o_aB b I (Cond.before_iff.mp (a _ (List.mem_of_getElem? (i:=104) rfl))) (Cond.before_iff.mp (a _ (List.mem_of_getElem? (i:=105) rfl))) (Cond.before_iff.mp (a _ (List.mem_of_getElem? (i:=106) rfl))) (Cond.before_iff.mp (a _ (List.mem_of_getElem? (i:=107) rfl))) (Cond.before_iff.mp (a _ (List.mem_of_getElem? (i:=108) rfl))) (Cond.before_iff.mp (a _ (List.mem_of_getElem? (i:=109) rfl)))
 have HP:=o_i1 b V f (Cond.before_iff.mp (a _ (List.mem_of_getElem? (i:=10) rfl))) (o_i2 ⟨⟨y1,W,X,h,Y⟩,⟨y2,Z,ad,j,ae⟩,⟨y3,af,ag,k,ah⟩,⟨y4,ai,aj,r,ak⟩,⟨y5,al,am,t,ao⟩,⟨y6,aq,au,w,av⟩,⟨y7,aw,ax,z,ay⟩,⟨y8,aA,aB,A,aC⟩,⟨y9,aD,aE,B,aF⟩,⟨y10,aG,aH,C,aI⟩,⟨y11,aJ,aK,D,aL⟩,⟨y12,aM,aN,E,aO⟩,⟨y13,aP,aQ,F,aR⟩,⟨aS,aT,aU,G,aV⟩,⟨aW,aX,aY,H,aZ⟩,⟨a0,a5,a6,I,a7⟩⟩)
 obtain ⟨zx,g⟩:=exa_v (Cond.before_iff.mp (a _ (List.mem_of_getElem? (i:=112) rfl)))
 have SZ:=Sta.start g (Or.inl (a _ (List.mem_of_getElem? (i:=111) rfl)))
 have J:=Exa.start g (Cond.before_iff.mp (a _ (List.mem_of_getElem? (i:=112) rfl)))
 have FZ:=o_eb g (Cond.before_iff.mp (a _ (List.mem_of_getElem? (i:=113) rfl)))
 obtain ⟨ox,K⟩:=exa_v (Cond.before_iff.mp (a _ (List.mem_of_getElem? (i:=119) rfl)))
 have SO:=Sta.start K (Or.inl (a _ (List.mem_of_getElem? (i:=3) rfl)))
 obtain ⟨oa,ko,a_⟩:=o_aB b K (Cond.before_iff.mp (a _ (List.mem_of_getElem? (i:=119) rfl))) (Cond.before_iff.mp (a _ (List.mem_of_getElem? (i:=120) rfl))) (Cond.before_iff.mp (a _ (List.mem_of_getElem? (i:=121) rfl))) (Cond.before_iff.mp (a _ (List.mem_of_getElem? (i:=122) rfl))) (Cond.before_iff.mp (a _ (List.mem_of_getElem? (i:=123) rfl))) (Cond.before_iff.mp (a _ (List.mem_of_getElem? (i:=124) rfl)))
 obtain ⟨n,o,h1,h2,h3,_,L,rfl,⟨rfl,N⟩,hq⟩:=o_op l s _ hw tables_1 i0 i1 i2 i3 pa U.cls _ _ zx ox oa ko s.heap s.heap.size (Nat.le_refl _) (Old.start s) SP HP SZ J FZ J.lt SO a_ p e ha hc hk s m _ M hf ((Spec.applies_iff_loose hf).mp happ).1 ⟨rfl,State.Warmed39.refl s,rfl⟩ trivial
 refine ⟨n,_,h1,h2,h3,hpost _ _ _ _ _ _ ⟨Cond.after_iff.mpr rfl,Cond.after_iff.mpr (eq_i res_at (Term.int_eval (1)) rfl),trivial⟩ ⟨hq.1,hq.2.1,(hq.2.2.sift fun y hy=>Or.inr (N y hy)).mono (by decide) (by decide)⟩⟩
theorem main_1_1:Claimed_1_1:=o_gn fun _ _ _ _ _ _ h hF=>⟨h.1,hF⟩
theorem main_1_2:Claimed_1_2:=o_gn fun _ _ _ _ _ _ h hF=>⟨h.2.1,hF⟩
end Jvm.Pilot.@@N@@
namespace Jvm.Pilot.@@N@@
open Jvm Jvm.ClassFile Sem Op Lib Jvm.Free Jvm.Stand Jvm.Pilot.@@N@@.Jvm.D
namespace start1
open Jvm.ClassFile
def u (s:String):CpInfo:= .utf8 (stringToUtf16 s)
def gap:Nat→List CpInfo→List CpInfo
 |0,r=>r
 |n+1,r=> .unusable::gap n r
def poolList (es:List (Nat×CpInfo))(last:Nat):List CpInfo:=es.foldr (fun e r=>gap e.1 (e.2::r)) (gap last [])
def pool (es:List (Nat×CpInfo))(last:Nat):Array CpInfo:=⟨poolList es last⟩
def fileOf (pool:Array CpInfo)(this:Nat)(attrs:Array Attribute:= #[])(ms:Array MethodInfo:= #[])(fl:Nat:=33)(sup:Nat:=0)(ifs:Array Nat:= #[])(fds:Array FieldInfo:= #[]):ClassFile where
 minorVersion:=0
 majorVersion:=65
 constantPool:=pool
 accessFlags:=fl
 thisClass:=this
 superClass:=sup
 interfaces:=ifs
 fields:=fds
 methods:=ms
 attributes:=attrs
def plain (name:String)(sup:Option ClassId):Class where
 name:=name
 kind:= .ordinary
 loader:=none
 accessFlags:=33
 super:=sup
 interfaces:= #[]
 cf:=none
 fields:= #[]
 methods:= #[]
 instanceTypes:= #[]
 staticTypes:= #[]
 resolved:= #[]
 callSites:= []
 init:= .initialized
 statics:=none
 mirror:=none
def pool0:Array CpInfo:=pool [(5,u "<init>"),(0,u "()V"),(1,.class_ 10),(1,u "java/lang/Object"),(85,u "clone"),(0,u "()Ljava/lang/Object;")] 26
def k0c0:Code:={maxStack:=0,maxLocals:=1,code:=object_method_1_code,exceptionTable:= #[],attributes:= #[]}
def k0m0:Method:={name:="<init>",desc:="()V",sig:={parameters:= [],returnType:=none},accessFlags:=1,code:=some k0c0}
def k0m1:Method:={name:="clone",desc:="()Ljava/lang/Object;",sig:={parameters:= [],returnType:=some (.object "java/lang/Object")},accessFlags:=260,code:=none}
def k0:Class:={plain "java/lang/Object" none with
 accessFlags:=33
 interfaces:= #[]
 cf:=some (fileOf pool0 8 #[] #[{accessFlags:=1,nameIndex:=5,descriptorIndex:=6,attributes:= #[]},{accessFlags:=260,nameIndex:=96,descriptorIndex:=97,attributes:= #[]}] 33 0 #[] #[])
 fields:= #[]
 methods:= #[k0m0,k0m1]
 instanceTypes:= #[]
 staticTypes:= #[]
 resolved:=Array.replicate 124 none
 statics:=none}
def pool1:Array CpInfo:=pool [(2,.class_ 4),(1,u "java/lang/Object"),(0,u "<init>"),(0,u "()V"),(0,.class_ 8),(0,u "com/example/nuthatch/nuthatch/ArgumentsRequireFillMillisPinLaw"),(0,.long 67108863),(1,.long 4503599627370495),(1,.methodref 7 14),(0,.nameAndType 15 16),(0,u "high"),(0,u "(JJ)J"),(0,.methodref 7 18),(0,.nameAndType 19 16),(0,u "low"),(0,.long 9007199254740991),(1,.methodref 23 24),(0,.class_ 25),(0,.nameAndType 26 16),(0,u "java/lang/Math"),(0,u "max"),(0,.long 4503599627370496),(1,.methodref 7 30),(0,.nameAndType 31 32),(0,u "cmp"),(0,u "(JJJJ)I"),(0,.methodref 34 35),(0,.class_ 36),(0,.nameAndType 37 38),(0,u "com/example/nuthatch/nuthatch/Arguments"),(0,u "requireFillMillis"),(0,u "(JJJ)J"),(0,u "LARGEST"),(0,u "J"),(1,u "LONGEST"),(0,u "M26"),(0,u "M52"),(3,u "law"),(0,u "(JJJI)Z")] 2
def k1m0:Method:={name:="<init>",desc:="()V",sig:={parameters:= [],returnType:=none},accessFlags:=2,code:=none}
def k1c1:Code:={maxStack:=6,maxLocals:=20,code:=method_2_code,exceptionTable:= #[],attributes:= #[]}
def k1m1:Method:={name:="high",desc:="(JJ)J",sig:={parameters:= [.long,.long],returnType:=some .long},accessFlags:=10,code:=some k1c1}
def k1c2:Code:={maxStack:=6,maxLocals:=18,code:=method_3_code,exceptionTable:= #[],attributes:= #[]}
def k1m2:Method:={name:="low",desc:="(JJ)J",sig:={parameters:= [.long,.long],returnType:=some .long},accessFlags:=10,code:=some k1c2}
def k1c3:Code:={maxStack:=4,maxLocals:=16,code:=method_4_code,exceptionTable:= #[],attributes:= #[]}
def k1m3:Method:={name:="cmp",desc:="(JJJJ)I",sig:={parameters:= [.long,.long,.long,.long],returnType:=some .int},accessFlags:=10,code:=some k1c3}
def k1c4:Code:={maxStack:=8,maxLocals:=15,code:=code,exceptionTable:= #[],attributes:= #[]}
def k1m4:Method:={name:="law",desc:="(JJJI)Z",sig:={parameters:= [.long,.long,.long,.int],returnType:=some .boolean},accessFlags:=9,code:=some k1c4}
def k1:Class:={plain "com/example/nuthatch/nuthatch/ArgumentsRequireFillMillisPinLaw" (some 0) with
 accessFlags:=49
 interfaces:= #[]
 cf:=some (fileOf pool1 7 #[] #[{accessFlags:=2,nameIndex:=5,descriptorIndex:=6,attributes:= #[]},{accessFlags:=10,nameIndex:=15,descriptorIndex:=16,attributes:= #[]},{accessFlags:=10,nameIndex:=19,descriptorIndex:=16,attributes:= #[]},{accessFlags:=10,nameIndex:=31,descriptorIndex:=32,attributes:= #[]},{accessFlags:=9,nameIndex:=48,descriptorIndex:=49,attributes:= #[]}] 49 2 #[] #[{accessFlags:=26,nameIndex:=39,descriptorIndex:=40,attributes:= #[]},{accessFlags:=26,nameIndex:=42,descriptorIndex:=40,attributes:= #[]},{accessFlags:=26,nameIndex:=43,descriptorIndex:=40,attributes:= #[]},{accessFlags:=26,nameIndex:=44,descriptorIndex:=40,attributes:= #[]}])
 fields:= #[{name:="LARGEST",type:= .long,accessFlags:=26,slot:=0,constantValue:=0},{name:="LONGEST",type:= .long,accessFlags:=26,slot:=1,constantValue:=0},{name:="M26",type:= .long,accessFlags:=26,slot:=2,constantValue:=0},{name:="M52",type:= .long,accessFlags:=26,slot:=3,constantValue:=0}]
 methods:= #[k1m0,k1m1,k1m2,k1m3,k1m4]
 instanceTypes:= #[]
 staticTypes:= #[.long,.long,.long,.long]
 resolved:=Array.replicate 52 none
 statics:=none}
def pool2:Array CpInfo:=pool [(1,.class_ 2),(0,u "java/lang/Math"),(1,.class_ 6),(1,u "java/lang/Object"),(0,u "<init>"),(0,u "()V"),(89,.class_ 100),(1,u "java/lang/Math$RandomNumberGeneratorHolder"),(20,u "(JJ)J"),(50,u "negativeZeroFloatBits"),(0,u "J"),(2,u "negativeZeroDoubleBits"),(21,u "max"),(2,u "min"),(43,u "$assertionsDisabled"),(0,u "Z"),(88,u "(II)I"),(2,u "twoToTheDoubleScaleDown"),(0,u "D"),(4,u "twoToTheDoubleScaleUp"),(9,u "E"),(3,u "PI"),(2,u "TAU"),(2,u "DEGREES_TO_RADIANS"),(0,u "RADIANS_TO_DEGREES")] 94
def k2m0:Method:={name:="<init>",desc:="()V",sig:={parameters:= [],returnType:=none},accessFlags:=2,code:=none}
def k2c1:Code:={maxStack:=4,maxLocals:=4,code:=jdk_29_method_66_code,exceptionTable:= #[],attributes:= #[]}
def k2m1:Method:={name:="max",desc:="(JJ)J",sig:={parameters:= [.long,.long],returnType:=some .long},accessFlags:=9,code:=some k2c1}
def k2c2:Code:={maxStack:=2,maxLocals:=2,code:=jdk_29_method_69_code,exceptionTable:= #[],attributes:= #[]}
def k2m2:Method:={name:="min",desc:="(II)I",sig:={parameters:= [.int,.int],returnType:=some .int},accessFlags:=9,code:=some k2c2}
def k2:Class:={plain "java/lang/Math" (some 0) with
 accessFlags:=49
 interfaces:= #[]
 cf:=some (fileOf pool2 1 #[.nestMembers #[98]] #[{accessFlags:=2,nameIndex:=7,descriptorIndex:=8,attributes:= #[]},{accessFlags:=9,nameIndex:=198,descriptorIndex:=121,attributes:= #[]},{accessFlags:=9,nameIndex:=201,descriptorIndex:=335,attributes:= #[]}] 49 4 #[] #[{accessFlags:=25,nameIndex:=354,descriptorIndex:=339,attributes:= #[]},{accessFlags:=25,nameIndex:=358,descriptorIndex:=339,attributes:= #[]},{accessFlags:=25,nameIndex:=361,descriptorIndex:=339,attributes:= #[]},{accessFlags:=26,nameIndex:=364,descriptorIndex:=339,attributes:= #[]},{accessFlags:=26,nameIndex:=365,descriptorIndex:=339,attributes:= #[]},{accessFlags:=26,nameIndex:=172,descriptorIndex:=173,attributes:= #[]},{accessFlags:=26,nameIndex:=176,descriptorIndex:=173,attributes:= #[]},{accessFlags:=8,nameIndex:=344,descriptorIndex:=339,attributes:= #[]},{accessFlags:=8,nameIndex:=338,descriptorIndex:=339,attributes:= #[]},{accessFlags:=4120,nameIndex:=245,descriptorIndex:=246,attributes:= #[]}])
 fields:= #[{name:="E",type:= .double,accessFlags:=25,slot:=0,constantValue:=0},{name:="PI",type:= .double,accessFlags:=25,slot:=1,constantValue:=0},{name:="TAU",type:= .double,accessFlags:=25,slot:=2,constantValue:=0},{name:="DEGREES_TO_RADIANS",type:= .double,accessFlags:=26,slot:=3,constantValue:=0},{name:="RADIANS_TO_DEGREES",type:= .double,accessFlags:=26,slot:=4,constantValue:=0},{name:="negativeZeroFloatBits",type:= .long,accessFlags:=26,slot:=5,constantValue:=0},{name:="negativeZeroDoubleBits",type:= .long,accessFlags:=26,slot:=6,constantValue:=0},{name:="twoToTheDoubleScaleUp",type:= .double,accessFlags:=8,slot:=7,constantValue:=0},{name:="twoToTheDoubleScaleDown",type:= .double,accessFlags:=8,slot:=8,constantValue:=0},{name:="$assertionsDisabled",type:= .boolean,accessFlags:=4120,slot:=9,constantValue:=0}]
 methods:= #[k2m0,k2m1,k2m2]
 instanceTypes:= #[]
 staticTypes:= #[.double,.double,.double,.double,.double,.long,.long,.double,.double,.boolean]
 resolved:=Array.replicate 460 none
 statics:=none}
def pool3:Array CpInfo:=pool [(2,.class_ 4),(1,u "java/lang/Object"),(0,u "<init>"),(0,u "()V"),(21,.class_ 29),(0,u "com/example/nuthatch/nuthatch/Arguments"),(5,.methodref 36 37),(0,.class_ 38),(0,.nameAndType 39 40),(0,u "java/math/BigInteger"),(0,u "valueOf"),(0,u "(J)Ljava/math/BigInteger;"),(0,.methodref 36 42),(0,.nameAndType 43 44),(0,u "multiply"),(0,u "(Ljava/math/BigInteger;)Ljava/math/BigInteger;"),(0,.methodref 36 46),(0,.nameAndType 47 48),(0,u "divideAndRemainder"),(0,u "(Ljava/math/BigInteger;)[Ljava/math/BigInteger;"),(0,.methodref 36 50),(0,.nameAndType 51 52),(0,u "signum"),(0,u "()I"),(0,.fieldref 36 54),(0,.nameAndType 55 56),(0,u "ONE"),(0,u "Ljava/math/BigInteger;"),(0,.methodref 36 58),(0,.nameAndType 59 44),(0,u "add"),(0,.long 4503599627370496),(1,.methodref 36 63),(0,.nameAndType 64 65),(0,u "compareTo"),(0,u "(Ljava/math/BigInteger;)I"),(3,.methodref 36 70),(0,.nameAndType 71 72),(0,u "longValue"),(0,u "()J"),(11,u "LARGEST_MILLIS"),(0,u "Ljava/time/Duration;"),(24,u "LARGEST"),(0,u "J"),(1,u "LONGEST_FILL"),(0,u "NANOS_PER_MILLI"),(0,u "I"),(6,u "requireFillMillis"),(0,u "(JJJ)J")] 30
def k3m0:Method:={name:="<init>",desc:="()V",sig:={parameters:= [],returnType:=none},accessFlags:=2,code:=none}
def k3c1:Code:={maxStack:=8,maxLocals:=8,code:=prog_1_method_4_code,exceptionTable:= #[],attributes:= #[]}
def k3m1:Method:={name:="requireFillMillis",desc:="(JJJ)J",sig:={parameters:= [.long,.long,.long],returnType:=some .long},accessFlags:=8,code:=some k3c1}
def k3:Class:={plain "com/example/nuthatch/nuthatch/Arguments" (some 0) with
 accessFlags:=32
 interfaces:= #[]
 cf:=some (fileOf pool3 28 #[] #[{accessFlags:=2,nameIndex:=5,descriptorIndex:=6,attributes:= #[]},{accessFlags:=8,nameIndex:=122,descriptorIndex:=123,attributes:= #[]}] 32 2 #[] #[{accessFlags:=24,nameIndex:=110,descriptorIndex:=111,attributes:= #[]},{accessFlags:=24,nameIndex:=113,descriptorIndex:=111,attributes:= #[]},{accessFlags:=26,nameIndex:=114,descriptorIndex:=115,attributes:= #[]},{accessFlags:=26,nameIndex:=84,descriptorIndex:=85,attributes:= #[]}])
 fields:= #[{name:="LARGEST",type:= .long,accessFlags:=24,slot:=0,constantValue:=0},{name:="LONGEST_FILL",type:= .long,accessFlags:=24,slot:=1,constantValue:=0},{name:="NANOS_PER_MILLI",type:= .int,accessFlags:=26,slot:=2,constantValue:=0},{name:="LARGEST_MILLIS",type:=(.object "java/time/Duration"),accessFlags:=26,slot:=3,constantValue:=0}]
 methods:= #[k3m0,k3m1]
 instanceTypes:= #[]
 staticTypes:= #[.long,.long,.int,(.object "java/time/Duration")]
 resolved:=Array.replicate 154 none
 statics:=none}
def pool4:Array CpInfo:=pool [(1,.class_ 2),(0,u "java/io/Serializable"),(0,.class_ 4),(0,u "java/lang/Object")] 2
def k4:Class:={plain "java/io/Serializable" (some 0) with
 accessFlags:=1537
 interfaces:= #[]
 cf:=some (fileOf pool4 1 #[] #[] 1537 3 #[] #[])
 fields:= #[]
 methods:= #[]
 instanceTypes:= #[]
 staticTypes:= #[]
 resolved:=Array.replicate 7 none
 statics:=none}
def pool5:Array CpInfo:=pool [(1,.methodref 2 3),(0,.class_ 4),(0,.nameAndType 5 6),(0,u "java/lang/Object"),(0,u "<init>"),(0,u "()V"),(1,.class_ 10),(1,u "java/lang/Number"),(2,.class_ 14),(0,u "java/io/Serializable"),(0,u "serialVersionUID"),(0,u "J")] 20
def k5c0:Code:={maxStack:=1,maxLocals:=1,code:=jdk_18_method_1_code,exceptionTable:= #[],attributes:= #[]}
def k5m0:Method:={name:="<init>",desc:="()V",sig:={parameters:= [],returnType:=none},accessFlags:=1,code:=some k5c0}
def k5:Class:={plain "java/lang/Number" (some 0) with
 accessFlags:=1057
 interfaces:= #[4]
 cf:=some (fileOf pool5 8 #[] #[{accessFlags:=1,nameIndex:=5,descriptorIndex:=6,attributes:= #[]}] 1057 2 #[13] #[{accessFlags:=26,nameIndex:=15,descriptorIndex:=16,attributes:= #[]}])
 fields:= #[{name:="serialVersionUID",type:= .long,accessFlags:=26,slot:=0,constantValue:=0}]
 methods:= #[k5m0]
 instanceTypes:= #[]
 staticTypes:= #[.long]
 resolved:=Array.replicate 37 none
 statics:=none}
def pool6:Array CpInfo:=pool [(1,.class_ 2),(0,u "java/lang/Comparable"),(0,.class_ 4),(0,u "java/lang/Object")] 7
def k6:Class:={plain "java/lang/Comparable" (some 0) with
 accessFlags:=1537
 interfaces:= #[]
 cf:=some (fileOf pool6 1 #[] #[] 1537 3 #[] #[])
 fields:= #[]
 methods:= #[]
 instanceTypes:= #[]
 staticTypes:= #[]
 resolved:=Array.replicate 12 none
 statics:=none}
def pool7:Array CpInfo:=pool [(1,.class_ 2),(0,u "java/lang/Integer"),(0,.methodref 4 5),(0,.class_ 6),(0,.nameAndType 7 8),(0,u "java/lang/Number"),(0,u "<init>"),(0,u "()V"),(8,.class_ 19),(1,u "java/util/Objects"),(1,u "(III)I"),(1,.class_ 25),(1,u "java/math/BigInteger"),(0,u "ZERO"),(0,u "Ljava/math/BigInteger;"),(0,.fieldref 23 29),(0,.nameAndType 30 31),(0,u "mag"),(0,u "[I"),(0,.fieldref 23 33),(0,.nameAndType 34 35),(0,u "signum"),(0,u "I"),(7,.integer 67108864),(8,u "([I)[I"),(0,.methodref 23 54),(0,.nameAndType 55 52),(0,u "trustedStripLeadingZeroInts"),(18,u "()I"),(7,u "(I)I"),(12,u "bitsPerDigit"),(0,u "[J"),(9,u "digitsPerInt"),(12,u "intRadix"),(10,.long 4294967295),(9,.class_ 142),(1,u "java/util/Arrays"),(32,.methodref 23 176),(0,.nameAndType 7 177),(0,u "([II)V"),(2,u "SMALL_PRIME_PRODUCT"),(3,u "(Ljava/math/BigInteger;)Ljava/math/BigInteger;"),(2,u "longValue"),(0,u "()J"),(30,u "(I)Ljava/math/BigInteger;"),(17,u "valueOf"),(0,u "(J)Ljava/math/BigInteger;"),(2,u "add"),(18,u "ONE"),(6,u "TWO"),(43,u "$assertionsDisabled"),(0,u "Z"),(5,u "multiply"),(18,u "compareTo"),(0,u "(Ljava/math/BigInteger;)I"),(6,.long 16),(1,.fieldref 23 348),(0,.nameAndType 349 350),(0,u "posConst"),(0,u "[Ljava/math/BigInteger;"),(4,u "negConst"),(0,.methodref 23 357),(0,.nameAndType 7 358),(0,u "(J)V"),(1,.nameAndType 7 361),(0,u "([I)V"),(0,.methodref 23 363),(0,.nameAndType 241 364),(0,u "([I[I)[I"),(0,.methodref 23 366),(0,.nameAndType 367 338),(0,u "compareMagnitude"),(20,.methodref 389 390),(0,.class_ 391),(0,.nameAndType 392 393),(0,u "java/lang/System"),(0,u "arraycopy"),(0,u "(Ljava/lang/Object;ILjava/lang/Object;II)V"),(3,.methodref 23 398),(0,.nameAndType 318 399),(0,u "(Ljava/math/BigInteger;ZZI)Ljava/math/BigInteger;"),(3,.methodref 23 404),(0,.nameAndType 405 406),(0,u "multiplyByInt"),(0,u "([III)Ljava/math/BigInteger;"),(0,.methodref 23 408),(0,.nameAndType 409 410),(0,u "multiplyToLen"),(0,u "([II[II[I)[I"),(12,.methodref 1 424),(0,.nameAndType 425 82),(0,u "bitCount"),(0,.methodref 1 427),(0,.nameAndType 428 82),(0,u "numberOfTrailingZeros"),(0,.methodref 23 430),(0,.nameAndType 431 432),(0,u "shiftLeft"),(0,u "([II)[I"),(0,.methodref 140 434),(0,.nameAndType 435 436),(0,u "copyOfRange"),(0,u "([III)[I"),(4,.methodref 23 442),(0,.nameAndType 443 177),(0,u "multiplyToLenCheck"),(0,.methodref 23 445),(0,.nameAndType 446 410),(0,u "implMultiplyToLen"),(0,.methodref 17 448),(0,.nameAndType 449 450),(0,u "requireNonNull"),(0,u "(Ljava/lang/Object;)Ljava/lang/Object;"),(21,.class_ 474),(1,u "java/math/BigInteger$RecursiveOp"),(62,u "divideKnuth"),(3,.class_ 542),(0,u "java/math/MutableBigInteger"),(0,.methodref 541 5),(0,.methodref 541 360),(3,.methodref 541 549),(0,.nameAndType 550 219),(0,u "toBigInteger"),(0,.methodref 23 552),(0,.nameAndType 553 554),(0,u "divideAndRemainderKnuth"),(0,u "(Ljava/math/BigInteger;)[Ljava/math/BigInteger;"),(3,.methodref 541 559),(0,.nameAndType 537 560),(0,u "(Ljava/math/MutableBigInteger;Ljava/math/MutableBigInteger;)Ljava/math/MutableBigInteger;"),(20,u "NEGATIVE_ONE"),(20,.methodref 1 603),(0,.nameAndType 604 82),(0,u "numberOfLeadingZeros"),(2,u "bitLengthForInt"),(3,.methodref 17 612),(0,.nameAndType 613 21),(0,u "checkFromToIndex"),(3,u "([I[IIII)V"),(0,.methodref 23 619),(0,.nameAndType 620 617),(0,u "shiftLeftImplWorker"),(52,u "bnExpModThreshTable"),(62,.methodref 23 737),(0,.nameAndType 738 82),(0,u "getInt"),(7,u "lowestSetBitPlusTwo"),(2,u "bitLengthPlusOne"),(2,u "bitCountPlusOne"),(6,u "LOG_TWO"),(0,u "D"),(2,u "logCache"),(0,u "[D"),(13,u "NUM_ZEROS"),(2,u "ZEROS"),(0,u "Ljava/lang/String;"),(9,u "longRadix"),(5,u "digitsPerLong"),(19,u "divideAndRemainder"),(2,u "powerCache"),(0,u "[[Ljava/math/BigInteger;"),(37,.methodref 23 861),(0,.nameAndType 862 74),(0,u "signInt"),(5,u "firstNonzeroIntNumPlusTwo"),(38,.class_ 909),(1,u "java/math/BigInteger$UnsafeHolder"),(141,u "TEN"),(106,u "serialPersistentFields"),(0,u "[Ljava/io/ObjectStreamField;"),(0,.class_ 1161),(0,u "java/lang/Comparable"),(0,u "LONG_MASK"),(0,u "J"),(1,u "MAX_MAG_LENGTH"),(0,u "PRIME_SEARCH_BIT_LENGTH_LIMIT"),(1,u "KARATSUBA_THRESHOLD"),(1,u "TOOM_COOK_THRESHOLD"),(1,u "KARATSUBA_SQUARE_THRESHOLD"),(1,u "TOOM_COOK_SQUARE_THRESHOLD"),(1,u "BURNIKEL_ZIEGLER_THRESHOLD"),(0,u "BURNIKEL_ZIEGLER_OFFSET"),(1,u "SCHOENHAGE_BASE_CONVERSION_THRESHOLD"),(1,u "MULTIPLY_SQUARE_THRESHOLD"),(0,u "MONTGOMERY_INTRINSIC_THRESHOLD"),(1,u "SMALL_PRIME_THRESHOLD"),(1,u "DEFAULT_PRIME_CERTAINTY"),(1,u "MAX_CONSTANT"),(3,u "serialVersionUID"),(338,.class_ 1532),(0,u "java/math/BigInteger$RecursiveOp$RecursiveSquare"),(0,.class_ 1534),(0,u "java/math/BigInteger$RecursiveOp$RecursiveMultiply")] 7
def k7c0:Code:={maxStack:=2,maxLocals:=3,code:=jdk_2097_method_25_code,exceptionTable:= #[],attributes:= #[]}
def k7m0:Method:={name:="<init>",desc:="([II)V",sig:={parameters:= [(.array .int),.int],returnType:=none},accessFlags:=0,code:=some k7c0}
def k7c1:Code:={maxStack:=4,maxLocals:=2,code:=jdk_2097_method_29_code,exceptionTable:= #[],attributes:= #[]}
def k7m1:Method:={name:="valueOf",desc:="(J)Ljava/math/BigInteger;",sig:={parameters:= [.long],returnType:=some (.object "java/math/BigInteger")},accessFlags:=9,code:=some k7c1}
def k7c2:Code:={maxStack:=4,maxLocals:=4,code:=jdk_2097_method_30_code,exceptionTable:= #[],attributes:= #[]}
def k7m2:Method:={name:="<init>",desc:="(J)V",sig:={parameters:= [.long],returnType:=none},accessFlags:=2,code:=some k7c2}
def k7c3:Code:={maxStack:=5,maxLocals:=4,code:=jdk_2097_method_32_code,exceptionTable:= #[],attributes:= #[]}
def k7m3:Method:={name:="add",desc:="(Ljava/math/BigInteger;)Ljava/math/BigInteger;",sig:={parameters:= [(.object "java/math/BigInteger")],returnType:=some (.object "java/math/BigInteger")},accessFlags:=1,code:=some k7c3}
def k7c4:Code:={maxStack:=6,maxLocals:=9,code:=jdk_2097_method_35_code,exceptionTable:= #[],attributes:= #[]}
def k7m4:Method:={name:="add",desc:="([I[I)[I",sig:={parameters:= [(.array .int),(.array .int)],returnType:=some (.array .int)},accessFlags:=10,code:=some k7c4}
def k7c5:Code:={maxStack:=5,maxLocals:=2,code:=jdk_2097_method_40_code,exceptionTable:= #[],attributes:= #[]}
def k7m5:Method:={name:="multiply",desc:="(Ljava/math/BigInteger;)Ljava/math/BigInteger;",sig:={parameters:= [(.object "java/math/BigInteger")],returnType:=some (.object "java/math/BigInteger")},accessFlags:=1,code:=some k7c5}
def k7c6:Code:={maxStack:=5,maxLocals:=9,code:=jdk_2097_method_42_code,exceptionTable:= #[],attributes:= #[]}
def k7m6:Method:={name:="multiply",desc:="(Ljava/math/BigInteger;ZZI)Ljava/math/BigInteger;",sig:={parameters:= [(.object "java/math/BigInteger"),.boolean,.boolean,.int],returnType:=some (.object "java/math/BigInteger")},accessFlags:=2,code:=some k7c6}
def k7c7:Code:={maxStack:=4,maxLocals:=13,code:=jdk_2097_method_43_code,exceptionTable:= #[],attributes:= #[]}
def k7m7:Method:={name:="multiplyByInt",desc:="([III)Ljava/math/BigInteger;",sig:={parameters:= [(.array .int),.int,.int],returnType:=some (.object "java/math/BigInteger")},accessFlags:=10,code:=some k7c7}
def k7c8:Code:={maxStack:=5,maxLocals:=5,code:=jdk_2097_method_45_code,exceptionTable:= #[],attributes:= #[]}
def k7m8:Method:={name:="multiplyToLen",desc:="([II[II[I)[I",sig:={parameters:= [(.array .int),.int,(.array .int),.int,(.array .int)],returnType:=some (.array .int)},accessFlags:=10,code:=some k7c8}
def k7c9:Code:={maxStack:=6,maxLocals:=14,code:=jdk_2097_method_46_code,exceptionTable:= #[],attributes:= #[]}
def k7m9:Method:={name:="implMultiplyToLen",desc:="([II[II[I)[I",sig:={parameters:= [(.array .int),.int,(.array .int),.int,(.array .int)],returnType:=some (.array .int)},accessFlags:=10,code:=some k7c9}
def k7c10:Code:={maxStack:=4,maxLocals:=2,code:=jdk_2097_method_47_code,exceptionTable:= #[],attributes:= #[]}
def k7m10:Method:={name:="multiplyToLenCheck",desc:="([II)V",sig:={parameters:= [(.array .int),.int],returnType:=none},accessFlags:=10,code:=some k7c10}
def k7c11:Code:={maxStack:=2,maxLocals:=2,code:=jdk_2097_method_63_code,exceptionTable:= #[],attributes:= #[]}
def k7m11:Method:={name:="divideAndRemainder",desc:="(Ljava/math/BigInteger;)[Ljava/math/BigInteger;",sig:={parameters:= [(.object "java/math/BigInteger")],returnType:=some (.array (.object "java/math/BigInteger"))},accessFlags:=1,code:=some k7c11}
def k7c12:Code:={maxStack:=5,maxLocals:=7,code:=jdk_2097_method_64_code,exceptionTable:= #[],attributes:= #[]}
def k7m12:Method:={name:="divideAndRemainderKnuth",desc:="(Ljava/math/BigInteger;)[Ljava/math/BigInteger;",sig:={parameters:= [(.object "java/math/BigInteger")],returnType:=some (.array (.object "java/math/BigInteger"))},accessFlags:=2,code:=some k7c12}
def k7c13:Code:={maxStack:=2,maxLocals:=1,code:=jdk_2097_method_74_code,exceptionTable:= #[],attributes:= #[]}
def k7m13:Method:={name:="bitLengthForInt",desc:="(I)I",sig:={parameters:= [.int],returnType:=some .int},accessFlags:=8,code:=some k7c13}
def k7c14:Code:={maxStack:=1,maxLocals:=1,code:=jdk_2097_method_81_code,exceptionTable:= #[],attributes:= #[]}
def k7m14:Method:={name:="signum",desc:="()I",sig:={parameters:= [],returnType:=some .int},accessFlags:=1,code:=some k7c14}
def k7c15:Code:={maxStack:=5,maxLocals:=10,code:=jdk_2097_method_102_code,exceptionTable:= #[],attributes:= #[]}
def k7m15:Method:={name:="shiftLeft",desc:="([II)[I",sig:={parameters:= [(.array .int),.int],returnType:=some (.array .int)},accessFlags:=10,code:=some k7c15}
def k7c16:Code:={maxStack:=5,maxLocals:=7,code:=jdk_2097_method_103_code,exceptionTable:= #[],attributes:= #[]}
def k7m16:Method:={name:="shiftLeftImplWorker",desc:="([I[IIII)V",sig:={parameters:= [(.array .int),(.array .int),.int,.int,.int],returnType:=none},accessFlags:=10,code:=some k7c16}
def k7c17:Code:={maxStack:=2,maxLocals:=2,code:=jdk_2097_method_121_code,exceptionTable:= #[],attributes:= #[]}
def k7m17:Method:={name:="compareTo",desc:="(Ljava/math/BigInteger;)I",sig:={parameters:= [(.object "java/math/BigInteger")],returnType:=some .int},accessFlags:=1,code:=some k7c17}
def k7c18:Code:={maxStack:=6,maxLocals:=9,code:=jdk_2097_method_122_code,exceptionTable:= #[],attributes:= #[]}
def k7m18:Method:={name:="compareMagnitude",desc:="(Ljava/math/BigInteger;)I",sig:={parameters:= [(.object "java/math/BigInteger")],returnType:=some .int},accessFlags:=16,code:=some k7c18}
def k7c19:Code:={maxStack:=6,maxLocals:=4,code:=jdk_2097_method_136_code,exceptionTable:= #[],attributes:= #[]}
def k7m19:Method:={name:="longValue",desc:="()J",sig:={parameters:= [],returnType:=some .long},accessFlags:=1,code:=some k7c19}
def k7c20:Code:={maxStack:=3,maxLocals:=3,code:=jdk_2097_method_140_code,exceptionTable:= #[],attributes:= #[]}
def k7m20:Method:={name:="trustedStripLeadingZeroInts",desc:="([I)[I",sig:={parameters:= [(.array .int)],returnType:=some (.array .int)},accessFlags:=10,code:=some k7c20}
def k7c21:Code:={maxStack:=1,maxLocals:=1,code:=jdk_2097_method_147_code,exceptionTable:= #[],attributes:= #[]}
def k7m21:Method:={name:="signInt",desc:="()I",sig:={parameters:= [],returnType:=some .int},accessFlags:=2,code:=some k7c21}
def k7c22:Code:={maxStack:=3,maxLocals:=3,code:=jdk_2097_method_148_code,exceptionTable:= #[],attributes:= #[]}
def k7m22:Method:={name:="getInt",desc:="(I)I",sig:={parameters:= [.int],returnType:=some .int},accessFlags:=2,code:=some k7c22}
def k7:Class:={plain "java/math/BigInteger" (some 5) with
 accessFlags:=33
 interfaces:= #[6]
 cf:=some (fileOf pool7 23 #[.nestMembers #[907,472,1531,1533]] #[{accessFlags:=0,nameIndex:=7,descriptorIndex:=177,attributes:= #[]},{accessFlags:=9,nameIndex:=237,descriptorIndex:=238,attributes:= #[]},{accessFlags:=2,nameIndex:=7,descriptorIndex:=358,attributes:= #[]},{accessFlags:=1,nameIndex:=241,descriptorIndex:=184,attributes:= #[]},{accessFlags:=10,nameIndex:=241,descriptorIndex:=364,attributes:= #[]},{accessFlags:=1,nameIndex:=318,descriptorIndex:=184,attributes:= #[]},{accessFlags:=2,nameIndex:=318,descriptorIndex:=399,attributes:= #[]},{accessFlags:=10,nameIndex:=405,descriptorIndex:=406,attributes:= #[]},{accessFlags:=10,nameIndex:=409,descriptorIndex:=410,attributes:= #[]},{accessFlags:=10,nameIndex:=446,descriptorIndex:=410,attributes:= #[]},{accessFlags:=10,nameIndex:=443,descriptorIndex:=177,attributes:= #[]},{accessFlags:=1,nameIndex:=818,descriptorIndex:=554,attributes:= #[]},{accessFlags:=2,nameIndex:=553,descriptorIndex:=554,attributes:= #[]},{accessFlags:=8,nameIndex:=607,descriptorIndex:=82,attributes:= #[]},{accessFlags:=1,nameIndex:=34,descriptorIndex:=74,attributes:= #[]},{accessFlags:=10,nameIndex:=431,descriptorIndex:=432,attributes:= #[]},{accessFlags:=10,nameIndex:=620,descriptorIndex:=617,attributes:= #[]},{accessFlags:=1,nameIndex:=337,descriptorIndex:=338,attributes:= #[]},{accessFlags:=16,nameIndex:=367,descriptorIndex:=338,attributes:= #[]},{accessFlags:=1,nameIndex:=187,descriptorIndex:=188,attributes:= #[]},{accessFlags:=10,nameIndex:=55,descriptorIndex:=52,attributes:= #[]},{accessFlags:=2,nameIndex:=862,descriptorIndex:=74,attributes:= #[]},{accessFlags:=2,nameIndex:=738,descriptorIndex:=82,attributes:= #[]}] 33 4 #[1160] #[{accessFlags:=16,nameIndex:=34,descriptorIndex:=35,attributes:= #[]},{accessFlags:=16,nameIndex:=30,descriptorIndex:=31,attributes:= #[]},{accessFlags:=2,nameIndex:=752,descriptorIndex:=35,attributes:= #[]},{accessFlags:=2,nameIndex:=749,descriptorIndex:=35,attributes:= #[]},{accessFlags:=2,nameIndex:=746,descriptorIndex:=35,attributes:= #[]},{accessFlags:=2,nameIndex:=868,descriptorIndex:=35,attributes:= #[]},{accessFlags:=24,nameIndex:=1162,descriptorIndex:=1163,attributes:= #[]},{accessFlags:=26,nameIndex:=1165,descriptorIndex:=35,attributes:= #[]},{accessFlags:=26,nameIndex:=1166,descriptorIndex:=35,attributes:= #[]},{accessFlags:=26,nameIndex:=1168,descriptorIndex:=35,attributes:= #[]},{accessFlags:=26,nameIndex:=1170,descriptorIndex:=35,attributes:= #[]},{accessFlags:=26,nameIndex:=1172,descriptorIndex:=35,attributes:= #[]},{accessFlags:=26,nameIndex:=1174,descriptorIndex:=35,attributes:= #[]},{accessFlags:=24,nameIndex:=1176,descriptorIndex:=35,attributes:= #[]},{accessFlags:=24,nameIndex:=1177,descriptorIndex:=35,attributes:= #[]},{accessFlags:=26,nameIndex:=1179,descriptorIndex:=35,attributes:= #[]},{accessFlags:=26,nameIndex:=1181,descriptorIndex:=35,attributes:= #[]},{accessFlags:=26,nameIndex:=1182,descriptorIndex:=35,attributes:= #[]},{accessFlags:=10,nameIndex:=95,descriptorIndex:=96,attributes:= #[]},{accessFlags:=26,nameIndex:=1184,descriptorIndex:=35,attributes:= #[]},{accessFlags:=26,nameIndex:=1186,descriptorIndex:=35,attributes:= #[]},{accessFlags:=26,nameIndex:=180,descriptorIndex:=27,attributes:= #[]},{accessFlags:=26,nameIndex:=1188,descriptorIndex:=35,attributes:= #[]},{accessFlags:=26,nameIndex:=349,descriptorIndex:=350,attributes:= #[]},{accessFlags:=26,nameIndex:=355,descriptorIndex:=350,attributes:= #[]},{accessFlags:=74,nameIndex:=821,descriptorIndex:=822,attributes:= #[]},{accessFlags:=26,nameIndex:=763,descriptorIndex:=764,attributes:= #[]},{accessFlags:=26,nameIndex:=759,descriptorIndex:=760,attributes:= #[]},{accessFlags:=25,nameIndex:=26,descriptorIndex:=27,attributes:= #[]},{accessFlags:=25,nameIndex:=260,descriptorIndex:=27,attributes:= #[]},{accessFlags:=25,nameIndex:=267,descriptorIndex:=27,attributes:= #[]},{accessFlags:=26,nameIndex:=581,descriptorIndex:=27,attributes:= #[]},{accessFlags:=25,nameIndex:=1051,descriptorIndex:=27,attributes:= #[]},{accessFlags:=8,nameIndex:=673,descriptorIndex:=31,attributes:= #[]},{accessFlags:=10,nameIndex:=778,descriptorIndex:=35,attributes:= #[]},{accessFlags:=26,nameIndex:=781,descriptorIndex:=782,attributes:= #[]},{accessFlags:=10,nameIndex:=798,descriptorIndex:=31,attributes:= #[]},{accessFlags:=10,nameIndex:=792,descriptorIndex:=350,attributes:= #[]},{accessFlags:=10,nameIndex:=106,descriptorIndex:=31,attributes:= #[]},{accessFlags:=10,nameIndex:=119,descriptorIndex:=31,attributes:= #[]},{accessFlags:=26,nameIndex:=1192,descriptorIndex:=1163,attributes:= #[]},{accessFlags:=26,nameIndex:=1158,descriptorIndex:=1159,attributes:= #[]},{accessFlags:=4120,nameIndex:=311,descriptorIndex:=312,attributes:= #[]}])
 fields:= #[{name:="signum",type:= .int,accessFlags:=16,slot:=0,constantValue:=0},{name:="mag",type:=(.array .int),accessFlags:=16,slot:=1,constantValue:=0},{name:="bitCountPlusOne",type:= .int,accessFlags:=2,slot:=2,constantValue:=0},{name:="bitLengthPlusOne",type:= .int,accessFlags:=2,slot:=3,constantValue:=0},{name:="lowestSetBitPlusTwo",type:= .int,accessFlags:=2,slot:=4,constantValue:=0},{name:="firstNonzeroIntNumPlusTwo",type:= .int,accessFlags:=2,slot:=5,constantValue:=0},{name:="LONG_MASK",type:= .long,accessFlags:=24,slot:=0,constantValue:=0},{name:="MAX_MAG_LENGTH",type:= .int,accessFlags:=26,slot:=1,constantValue:=0},{name:="PRIME_SEARCH_BIT_LENGTH_LIMIT",type:= .int,accessFlags:=26,slot:=2,constantValue:=0},{name:="KARATSUBA_THRESHOLD",type:= .int,accessFlags:=26,slot:=3,constantValue:=0},{name:="TOOM_COOK_THRESHOLD",type:= .int,accessFlags:=26,slot:=4,constantValue:=0},{name:="KARATSUBA_SQUARE_THRESHOLD",type:= .int,accessFlags:=26,slot:=5,constantValue:=0},{name:="TOOM_COOK_SQUARE_THRESHOLD",type:= .int,accessFlags:=26,slot:=6,constantValue:=0},{name:="BURNIKEL_ZIEGLER_THRESHOLD",type:= .int,accessFlags:=24,slot:=7,constantValue:=0},{name:="BURNIKEL_ZIEGLER_OFFSET",type:= .int,accessFlags:=24,slot:=8,constantValue:=0},{name:="SCHOENHAGE_BASE_CONVERSION_THRESHOLD",type:= .int,accessFlags:=26,slot:=9,constantValue:=0},{name:="MULTIPLY_SQUARE_THRESHOLD",type:= .int,accessFlags:=26,slot:=10,constantValue:=0},{name:="MONTGOMERY_INTRINSIC_THRESHOLD",type:= .int,accessFlags:=26,slot:=11,constantValue:=0},{name:="bitsPerDigit",type:=(.array .long),accessFlags:=10,slot:=12,constantValue:=0},{name:="SMALL_PRIME_THRESHOLD",type:= .int,accessFlags:=26,slot:=13,constantValue:=0},{name:="DEFAULT_PRIME_CERTAINTY",type:= .int,accessFlags:=26,slot:=14,constantValue:=0},{name:="SMALL_PRIME_PRODUCT",type:=(.object "java/math/BigInteger"),accessFlags:=26,slot:=15,constantValue:=0},{name:="MAX_CONSTANT",type:= .int,accessFlags:=26,slot:=16,constantValue:=0},{name:="posConst",type:=(.array (.object "java/math/BigInteger")),accessFlags:=26,slot:=17,constantValue:=0},{name:="negConst",type:=(.array (.object "java/math/BigInteger")),accessFlags:=26,slot:=18,constantValue:=0},{name:="powerCache",type:=(.array (.array (.object "java/math/BigInteger"))),accessFlags:=74,slot:=19,constantValue:=0},{name:="logCache",type:=(.array .double),accessFlags:=26,slot:=20,constantValue:=0},{name:="LOG_TWO",type:= .double,accessFlags:=26,slot:=21,constantValue:=0},{name:="ZERO",type:=(.object "java/math/BigInteger"),accessFlags:=25,slot:=22,constantValue:=0},{name:="ONE",type:=(.object "java/math/BigInteger"),accessFlags:=25,slot:=23,constantValue:=0},{name:="TWO",type:=(.object "java/math/BigInteger"),accessFlags:=25,slot:=24,constantValue:=0},{name:="NEGATIVE_ONE",type:=(.object "java/math/BigInteger"),accessFlags:=26,slot:=25,constantValue:=0},{name:="TEN",type:=(.object "java/math/BigInteger"),accessFlags:=25,slot:=26,constantValue:=0},{name:="bnExpModThreshTable",type:=(.array .int),accessFlags:=8,slot:=27,constantValue:=0},{name:="NUM_ZEROS",type:= .int,accessFlags:=10,slot:=28,constantValue:=0},{name:="ZEROS",type:=(.object "java/lang/String"),accessFlags:=26,slot:=29,constantValue:=0},{name:="digitsPerLong",type:=(.array .int),accessFlags:=10,slot:=30,constantValue:=0},{name:="longRadix",type:=(.array (.object "java/math/BigInteger")),accessFlags:=10,slot:=31,constantValue:=0},{name:="digitsPerInt",type:=(.array .int),accessFlags:=10,slot:=32,constantValue:=0},{name:="intRadix",type:=(.array .int),accessFlags:=10,slot:=33,constantValue:=0},{name:="serialVersionUID",type:= .long,accessFlags:=26,slot:=34,constantValue:=0},{name:="serialPersistentFields",type:=(.array (.object "java/io/ObjectStreamField")),accessFlags:=26,slot:=35,constantValue:=0},{name:="$assertionsDisabled",type:= .boolean,accessFlags:=4120,slot:=36,constantValue:=0}]
 methods:= #[k7m0,k7m1,k7m2,k7m3,k7m4,k7m5,k7m6,k7m7,k7m8,k7m9,k7m10,k7m11,k7m12,k7m13,k7m14,k7m15,k7m16,k7m17,k7m18,k7m19,k7m20,k7m21,k7m22]
 instanceTypes:= #[.int,(.array .int),.int,.int,.int,.int]
 staticTypes:= #[.long,.int,.int,.int,.int,.int,.int,.int,.int,.int,.int,.int,(.array .long),.int,.int,(.object "java/math/BigInteger"),.int,(.array (.object "java/math/BigInteger")),(.array (.object "java/math/BigInteger")),(.array (.array (.object "java/math/BigInteger"))),(.array .double),.double,(.object "java/math/BigInteger"),(.object "java/math/BigInteger"),(.object "java/math/BigInteger"),(.object "java/math/BigInteger"),(.object "java/math/BigInteger"),(.array .int),.int,(.object "java/lang/String"),(.array .int),(.array (.object "java/math/BigInteger")),(.array .int),(.array .int),.long,(.array (.object "java/io/ObjectStreamField")),.boolean]
 resolved:=Array.replicate 1542 none
 statics:=some 0}
def pool8:Array CpInfo:=pool [(1,.class_ 2),(0,u "java/lang/constant/Constable"),(0,.class_ 4),(0,u "java/lang/Object")] 6
def k8:Class:={plain "java/lang/constant/Constable" (some 0) with
 accessFlags:=1537
 interfaces:= #[]
 cf:=some (fileOf pool8 1 #[] #[] 1537 3 #[] #[])
 fields:= #[]
 methods:= #[]
 instanceTypes:= #[]
 staticTypes:= #[]
 resolved:=Array.replicate 11 none
 statics:=none}
def pool9:Array CpInfo:=pool [(1,.class_ 2),(0,u "java/lang/constant/ConstantDesc"),(0,.class_ 4),(0,u "java/lang/Object")] 32
def k9:Class:={plain "java/lang/constant/ConstantDesc" (some 0) with
 accessFlags:=1537
 interfaces:= #[]
 cf:=some (fileOf pool9 1 #[] #[] 1537 3 #[] #[])
 fields:= #[]
 methods:= #[]
 instanceTypes:= #[]
 staticTypes:= #[]
 resolved:=Array.replicate 37 none
 statics:=none}
def pool10:Array CpInfo:=pool [(1,.class_ 2),(0,u "java/lang/Integer"),(16,u "digits"),(0,u "[C"),(32,u "numberOfLeadingZeros"),(0,u "(I)I"),(30,u "DigitOnes"),(0,u "[B"),(2,u "DigitTens"),(99,.class_ 190),(0,u "java/lang/Integer$IntegerCache"),(3,u "I"),(8,.class_ 204),(0,u "java/lang/Number"),(2,u "value"),(56,.integer 65536),(0,.integer 1431655765),(0,.integer 858993459),(0,.integer 252645135),(34,u "TYPE"),(0,u "Ljava/lang/Class;"),(0,.class_ 305),(0,u "java/lang/Comparable"),(0,.class_ 307),(0,u "java/lang/constant/Constable"),(0,.class_ 309),(0,u "java/lang/constant/ConstantDesc"),(0,u "MIN_VALUE"),(1,u "MAX_VALUE"),(3,u "SIZE"),(1,u "BYTES"),(1,u "serialVersionUID"),(0,u "J"),(84,u "numberOfTrailingZeros"),(0,u "bitCount")] 45
def k10c0:Code:={maxStack:=3,maxLocals:=2,code:=jdk_33_method_47_code,exceptionTable:= #[],attributes:= #[]}
def k10m0:Method:={name:="numberOfLeadingZeros",desc:="(I)I",sig:={parameters:= [.int],returnType:=some .int},accessFlags:=9,code:=some k10c0}
def k10c1:Code:={maxStack:=3,maxLocals:=2,code:=jdk_33_method_48_code,exceptionTable:= #[],attributes:= #[]}
def k10m1:Method:={name:="numberOfTrailingZeros",desc:="(I)I",sig:={parameters:= [.int],returnType:=some .int},accessFlags:=9,code:=some k10c1}
def k10c2:Code:={maxStack:=3,maxLocals:=1,code:=jdk_33_method_49_code,exceptionTable:= #[],attributes:= #[]}
def k10m2:Method:={name:="bitCount",desc:="(I)I",sig:={parameters:= [.int],returnType:=some .int},accessFlags:=9,code:=some k10c2}
def k10:Class:={plain "java/lang/Integer" (some 5) with
 accessFlags:=49
 interfaces:= #[6,8,9]
 cf:=some (fileOf pool10 1 #[.nestMembers #[189]] #[{accessFlags:=9,nameIndex:=53,descriptorIndex:=54,attributes:= #[]},{accessFlags:=9,nameIndex:=406,descriptorIndex:=54,attributes:= #[]},{accessFlags:=9,nameIndex:=407,descriptorIndex:=54,attributes:= #[]}] 49 203 #[304,306,308] #[{accessFlags:=25,nameIndex:=310,descriptorIndex:=194,attributes:= #[]},{accessFlags:=25,nameIndex:=312,descriptorIndex:=194,attributes:= #[]},{accessFlags:=25,nameIndex:=302,descriptorIndex:=303,attributes:= #[]},{accessFlags:=24,nameIndex:=19,descriptorIndex:=20,attributes:= #[]},{accessFlags:=24,nameIndex:=89,descriptorIndex:=86,attributes:= #[]},{accessFlags:=24,nameIndex:=85,descriptorIndex:=86,attributes:= #[]},{accessFlags:=18,nameIndex:=207,descriptorIndex:=194,attributes:= #[]},{accessFlags:=25,nameIndex:=316,descriptorIndex:=194,attributes:= #[]},{accessFlags:=25,nameIndex:=318,descriptorIndex:=194,attributes:= #[]},{accessFlags:=26,nameIndex:=320,descriptorIndex:=321,attributes:= #[]}])
 fields:= #[{name:="MIN_VALUE",type:= .int,accessFlags:=25,slot:=0,constantValue:=0},{name:="MAX_VALUE",type:= .int,accessFlags:=25,slot:=1,constantValue:=0},{name:="TYPE",type:=(.object "java/lang/Class"),accessFlags:=25,slot:=2,constantValue:=0},{name:="digits",type:=(.array .char),accessFlags:=24,slot:=3,constantValue:=0},{name:="DigitTens",type:=(.array .byte),accessFlags:=24,slot:=4,constantValue:=0},{name:="DigitOnes",type:=(.array .byte),accessFlags:=24,slot:=5,constantValue:=0},{name:="value",type:= .int,accessFlags:=18,slot:=0,constantValue:=0},{name:="SIZE",type:= .int,accessFlags:=25,slot:=6,constantValue:=0},{name:="BYTES",type:= .int,accessFlags:=25,slot:=7,constantValue:=0},{name:="serialVersionUID",type:= .long,accessFlags:=26,slot:=8,constantValue:=0}]
 methods:= #[k10m0,k10m1,k10m2]
 instanceTypes:= #[.int]
 staticTypes:= #[.int,.int,(.object "java/lang/Class"),(.array .char),(.array .byte),(.array .byte),.int,.int,.long]
 resolved:=Array.replicate 453 none
 statics:=none}
def pool11:Array CpInfo:=pool [(2,.class_ 4),(1,u "java/lang/Object"),(0,u "<init>"),(0,u "()V"),(7,.class_ 16),(1,u "java/util/Arrays"),(57,.class_ 76),(1,u "java/util/Arrays$NaturalOrder"),(32,u "()Ljava/lang/Object;"),(3,.class_ 115),(1,u "java/util/Arrays$LegacyMergeSort"),(1,u "Z"),(10,.nameAndType 129 109),(0,u "clone"),(9,u "copyOfRange"),(10,.methodref 151 152),(0,.class_ 153),(0,.nameAndType 154 155),(0,u "java/lang/System"),(0,u "arraycopy"),(0,u "(Ljava/lang/Object;ILjava/lang/Object;II)V"),(148,.methodref 305 306),(0,.class_ 307),(0,.nameAndType 308 309),(0,u "java/lang/Math"),(0,u "min"),(0,u "(II)I"),(6,.methodref 317 128),(0,.class_ 318),(0,u "[I"),(24,.methodref 14 344),(0,.nameAndType 345 346),(0,u "checkLength"),(0,u "(II)V"),(4,.methodref 14 352),(0,.nameAndType 353 354),(0,u "copyOfRangeInt"),(0,u "([III)[I"),(20,.class_ 376),(0,u "java/util/Arrays$ArrayList"),(68,u "$assertionsDisabled"),(269,u "MIN_ARRAY_SORT_GRAN"),(0,u "I"),(2,u "INSERTIONSORT_THRESHOLD"),(120,u "fill"),(4,u "([II)V"),(129,.class_ 976),(0,u "java/util/Arrays$ArrayItr")] 52
def k11m0:Method:={name:="<init>",desc:="()V",sig:={parameters:= [],returnType:=none},accessFlags:=2,code:=none}
def k11c1:Code:={maxStack:=3,maxLocals:=4,code:=jdk_65_method_103_code,exceptionTable:= #[],attributes:= #[]}
def k11m1:Method:={name:="fill",desc:="([II)V",sig:={parameters:= [(.array .int),.int],returnType:=none},accessFlags:=9,code:=some k11c1}
def k11c2:Code:={maxStack:=4,maxLocals:=2,code:=jdk_65_method_131_code,exceptionTable:= #[],attributes:= #[]}
def k11m2:Method:={name:="checkLength",desc:="(II)V",sig:={parameters:= [.int,.int],returnType:=none},accessFlags:=10,code:=some k11c2}
def k11c3:Code:={maxStack:=3,maxLocals:=3,code:=jdk_65_method_136_code,exceptionTable:= #[],attributes:= #[]}
def k11m3:Method:={name:="copyOfRange",desc:="([III)[I",sig:={parameters:= [(.array .int),.int,.int],returnType:=some (.array .int)},accessFlags:=9,code:=some k11c3}
def k11c4:Code:={maxStack:=6,maxLocals:=5,code:=jdk_65_method_137_code,exceptionTable:= #[],attributes:= #[]}
def k11m4:Method:={name:="copyOfRangeInt",desc:="([III)[I",sig:={parameters:= [(.array .int),.int,.int],returnType:=some (.array .int)},accessFlags:=10,code:=some k11c4}
def k11:Class:={plain "java/util/Arrays" (some 0) with
 accessFlags:=49
 interfaces:= #[]
 cf:=some (fileOf pool11 14 #[.nestMembers #[975,375,113,74]] #[{accessFlags:=2,nameIndex:=5,descriptorIndex:=6,attributes:= #[]},{accessFlags:=9,nameIndex:=840,descriptorIndex:=845,attributes:= #[]},{accessFlags:=10,nameIndex:=345,descriptorIndex:=346,attributes:= #[]},{accessFlags:=9,nameIndex:=139,descriptorIndex:=354,attributes:= #[]},{accessFlags:=10,nameIndex:=353,descriptorIndex:=354,attributes:= #[]}] 49 2 #[] #[{accessFlags:=26,nameIndex:=715,descriptorIndex:=716,attributes:= #[]},{accessFlags:=26,nameIndex:=719,descriptorIndex:=716,attributes:= #[]},{accessFlags:=4120,nameIndex:=445,descriptorIndex:=117,attributes:= #[]}])
 fields:= #[{name:="MIN_ARRAY_SORT_GRAN",type:= .int,accessFlags:=26,slot:=0,constantValue:=0},{name:="INSERTIONSORT_THRESHOLD",type:= .int,accessFlags:=26,slot:=1,constantValue:=0},{name:="$assertionsDisabled",type:= .boolean,accessFlags:=4120,slot:=2,constantValue:=0}]
 methods:= #[k11m0,k11m1,k11m2,k11m3,k11m4]
 instanceTypes:= #[]
 staticTypes:= #[.int,.int,.boolean]
 resolved:=Array.replicate 1029 none
 statics:=none}
def pool12:Array CpInfo:=pool [(2,.class_ 4),(1,u "java/lang/Object"),(0,u "<init>"),(0,u "()V"),(1,.class_ 10),(1,u "java/lang/System"),(0,u "allowSecurityManager"),(0,u "I"),(16,u "cons"),(0,u "Ljava/io/Console;"),(77,.class_ 110),(1,u "java/lang/System$CallersHolder"),(43,u "initialErrStream"),(0,u "Ljava/io/PrintStream;"),(19,u "security"),(0,u "Ljava/lang/SecurityManager;"),(31,.class_ 209),(0,u "java/lang/System$1"),(7,u "props"),(0,u "Ljava/util/Properties;"),(2,u "lineSeparator"),(0,u "Ljava/lang/String;"),(96,.class_ 321),(1,u "java/lang/System$LoggerFinder"),(5,.class_ 328),(0,u "java/lang/System$Logger"),(67,u "err"),(2,u "out"),(91,u "notSupportedJnuEncoding"),(15,u "in"),(17,u "initialIn"),(0,u "Ljava/io/InputStream;"),(35,u "bootLayer"),(0,u "Ljava/lang/ModuleLayer;"),(99,.class_ 664),(0,u "java/lang/System$2"),(9,u "NEVER"),(2,u "MAYBE"),(49,u "arraycopy"),(0,u "(Ljava/lang/Object;ILjava/lang/Object;II)V"),(72,.class_ 802),(0,u "java/lang/System$Logger$Level")] 31
def k12m0:Method:={name:="<init>",desc:="()V",sig:={parameters:= [],returnType:=none},accessFlags:=2,code:=none}
def k12m1:Method:={name:="arraycopy",desc:="(Ljava/lang/Object;ILjava/lang/Object;II)V",sig:={parameters:= [(.object "java/lang/Object"),.int,(.object "java/lang/Object"),.int,.int],returnType:=none},accessFlags:=265,code:=none}
def k12:Class:={plain "java/lang/System" (some 0) with
 accessFlags:=49
 interfaces:= #[]
 cf:=some (fileOf pool12 8 #[.nestMembers #[319,327,801,108,663,208]] #[{accessFlags:=2,nameIndex:=5,descriptorIndex:=6,attributes:= #[]},{accessFlags:=265,nameIndex:=727,descriptorIndex:=728,attributes:= #[]}] 49 2 #[] #[{accessFlags:=25,nameIndex:=507,descriptorIndex:=526,attributes:= #[]},{accessFlags:=25,nameIndex:=399,descriptorIndex:=155,attributes:= #[]},{accessFlags:=25,nameIndex:=396,descriptorIndex:=155,attributes:= #[]},{accessFlags:=10,nameIndex:=525,descriptorIndex:=526,attributes:= #[]},{accessFlags:=26,nameIndex:=674,descriptorIndex:=12,attributes:= #[]},{accessFlags:=26,nameIndex:=677,descriptorIndex:=12,attributes:= #[]},{accessFlags:=10,nameIndex:=11,descriptorIndex:=12,attributes:= #[]},{accessFlags:=74,nameIndex:=175,descriptorIndex:=176,attributes:= #[]},{accessFlags:=10,nameIndex:=491,descriptorIndex:=222,attributes:= #[]},{accessFlags:=74,nameIndex:=29,descriptorIndex:=30,attributes:= #[]},{accessFlags:=74,nameIndex:=154,descriptorIndex:=155,attributes:= #[]},{accessFlags:=10,nameIndex:=217,descriptorIndex:=218,attributes:= #[]},{accessFlags:=10,nameIndex:=221,descriptorIndex:=222,attributes:= #[]},{accessFlags:=8,nameIndex:=562,descriptorIndex:=563,attributes:= #[]}])
 fields:= #[{name:="in",type:=(.object "java/io/InputStream"),accessFlags:=25,slot:=0,constantValue:=0},{name:="out",type:=(.object "java/io/PrintStream"),accessFlags:=25,slot:=1,constantValue:=0},{name:="err",type:=(.object "java/io/PrintStream"),accessFlags:=25,slot:=2,constantValue:=0},{name:="initialIn",type:=(.object "java/io/InputStream"),accessFlags:=10,slot:=3,constantValue:=0},{name:="NEVER",type:= .int,accessFlags:=26,slot:=4,constantValue:=0},{name:="MAYBE",type:= .int,accessFlags:=26,slot:=5,constantValue:=0},{name:="allowSecurityManager",type:= .int,accessFlags:=10,slot:=6,constantValue:=0},{name:="security",type:=(.object "java/lang/SecurityManager"),accessFlags:=74,slot:=7,constantValue:=0},{name:="notSupportedJnuEncoding",type:=(.object "java/lang/String"),accessFlags:=10,slot:=8,constantValue:=0},{name:="cons",type:=(.object "java/io/Console"),accessFlags:=74,slot:=9,constantValue:=0},{name:="initialErrStream",type:=(.object "java/io/PrintStream"),accessFlags:=74,slot:=10,constantValue:=0},{name:="props",type:=(.object "java/util/Properties"),accessFlags:=10,slot:=11,constantValue:=0},{name:="lineSeparator",type:=(.object "java/lang/String"),accessFlags:=10,slot:=12,constantValue:=0},{name:="bootLayer",type:=(.object "java/lang/ModuleLayer"),accessFlags:=8,slot:=13,constantValue:=0}]
 methods:= #[k12m0,k12m1]
 instanceTypes:= #[]
 staticTypes:= #[(.object "java/io/InputStream"),(.object "java/io/PrintStream"),(.object "java/io/PrintStream"),(.object "java/io/InputStream"),.int,.int,.int,(.object "java/lang/SecurityManager"),(.object "java/lang/String"),(.object "java/io/Console"),(.object "java/io/PrintStream"),(.object "java/util/Properties"),(.object "java/lang/String"),(.object "java/lang/ModuleLayer")]
 resolved:=Array.replicate 834 none
 statics:=none}
def pool13:Array CpInfo:=pool [(1,.class_ 2),(0,u "java/math/BigInteger"),(2,.methodref 6 7),(0,.class_ 8),(0,.nameAndType 9 10),(0,u "java/lang/Object"),(0,u "<init>"),(0,u "()V"),(0,.fieldref 12 13),(0,.class_ 14),(0,.nameAndType 15 16),(0,u "java/math/MutableBigInteger"),(0,u "offset"),(0,u "I"),(0,.fieldref 12 18),(0,.nameAndType 19 20),(0,u "value"),(0,u "[I"),(0,.fieldref 12 22),(0,.nameAndType 23 16),(0,u "intLen"),(4,.class_ 30),(1,u "java/util/Arrays"),(2,.methodref 28 34),(0,.nameAndType 35 36),(0,u "copyOfRange"),(0,u "([III)[I"),(0,.methodref 28 38),(0,.nameAndType 39 40),(0,u "fill"),(0,u "([II)V"),(2,u "$assertionsDisabled"),(0,u "Z"),(7,.long 4294967295),(1,.fieldref 1 55),(0,.nameAndType 56 57),(0,u "ZERO"),(0,u "Ljava/math/BigInteger;"),(0,.methodref 12 59),(0,.nameAndType 60 61),(0,u "getMagnitudeArray"),(0,u "()[I"),(0,.methodref 1 63),(0,.nameAndType 9 40),(0,.methodref 12 65),(0,.nameAndType 66 10),(0,u "normalize"),(6,u "toBigInteger"),(0,u "(I)Ljava/math/BigInteger;"),(4,.long 9223372036854775808),(8,.integer 2147483648),(1,.class_ 92),(1,u "java/lang/Integer"),(1,u "(I)I"),(13,.methodref 12 109),(0,.nameAndType 110 111),(0,u "rightShift"),(0,u "(I)V"),(0,.methodref 1 113),(0,.nameAndType 114 94),(0,u "bitLengthForInt"),(0,.methodref 12 116),(0,.nameAndType 117 111),(0,u "primitiveLeftShift"),(18,.methodref 12 137),(0,.nameAndType 9 138),(0,u "(Ljava/math/MutableBigInteger;)V"),(3,.methodref 12 143),(0,.nameAndType 144 145),(0,u "compare"),(0,u "(Ljava/math/MutableBigInteger;)I"),(3,.methodref 12 150),(0,.nameAndType 151 10),(0,u "clear"),(0,.methodref 90 153),(0,.nameAndType 154 94),(0,u "numberOfLeadingZeros"),(0,.methodref 12 156),(0,.nameAndType 157 158),(0,u "divWord"),(0,u "(JI)J"),(3,u "(Ljava/math/MutableBigInteger;Ljava/math/MutableBigInteger;Z)Ljava/math/MutableBigInteger;"),(0,.methodref 12 164),(0,.nameAndType 165 162),(0,u "divideKnuth"),(3,u "(Ljava/math/MutableBigInteger;Ljava/math/MutableBigInteger;)Ljava/math/MutableBigInteger;"),(7,.methodref 12 7),(0,.methodref 12 179),(0,.nameAndType 180 181),(0,u "divideOneWord"),(0,u "(ILjava/math/MutableBigInteger;)I"),(0,.methodref 12 183),(0,.nameAndType 9 111),(6,.methodref 12 191),(0,.nameAndType 192 162),(0,u "divideMagnitude"),(64,u "ONE"),(0,u "Ljava/math/MutableBigInteger;"),(0,.methodref 12 260),(0,.nameAndType 9 261),(0,u "([I)V"),(7,.methodref 12 270),(0,.nameAndType 271 272),(0,u "copyAndShift"),(0,u "([III[III)V"),(0,.methodref 12 274),(0,.nameAndType 275 276),(0,u "unsignedLongCompare"),(0,u "(JJ)Z"),(0,.methodref 12 278),(0,.nameAndType 279 280),(0,u "mulsub"),(0,u "([I[IIII)I"),(130,u "KNUTH_POW2_THRESH_LEN"),(2,u "KNUTH_POW2_THRESH_ZEROS")] 175
def k13c0:Code:={maxStack:=2,maxLocals:=1,code:=jdk_2101_method_1_code,exceptionTable:= #[],attributes:= #[]}
def k13m0:Method:={name:="<init>",desc:="()V",sig:={parameters:= [],returnType:=none},accessFlags:=0,code:=some k13c0}
def k13c1:Code:={maxStack:=3,maxLocals:=2,code:=jdk_2101_method_2_code,exceptionTable:= #[],attributes:= #[]}
def k13m1:Method:={name:="<init>",desc:="(I)V",sig:={parameters:= [.int],returnType:=none},accessFlags:=0,code:=some k13c1}
def k13c2:Code:={maxStack:=2,maxLocals:=2,code:=jdk_2101_method_3_code,exceptionTable:= #[],attributes:= #[]}
def k13m2:Method:={name:="<init>",desc:="([I)V",sig:={parameters:= [(.array .int)],returnType:=none},accessFlags:=0,code:=some k13c2}
def k13c3:Code:={maxStack:=5,maxLocals:=2,code:=jdk_2101_method_5_code,exceptionTable:= #[],attributes:= #[]}
def k13m3:Method:={name:="<init>",desc:="(Ljava/math/MutableBigInteger;)V",sig:={parameters:= [(.object "java/math/MutableBigInteger")],returnType:=none},accessFlags:=0,code:=some k13c3}
def k13c4:Code:={maxStack:=4,maxLocals:=2,code:=jdk_2101_method_7_code,exceptionTable:= #[],attributes:= #[]}
def k13m4:Method:={name:="getMagnitudeArray",desc:="()[I",sig:={parameters:= [],returnType:=some (.array .int)},accessFlags:=2,code:=some k13c4}
def k13c5:Code:={maxStack:=4,maxLocals:=2,code:=jdk_2101_method_9_code,exceptionTable:= #[],attributes:= #[]}
def k13m5:Method:={name:="toBigInteger",desc:="(I)Ljava/math/BigInteger;",sig:={parameters:= [.int],returnType:=some (.object "java/math/BigInteger")},accessFlags:=0,code:=some k13c5}
def k13c6:Code:={maxStack:=4,maxLocals:=3,code:=jdk_2101_method_13_code,exceptionTable:= #[],attributes:= #[]}
def k13m6:Method:={name:="clear",desc:="()V",sig:={parameters:= [],returnType:=none},accessFlags:=0,code:=some k13c6}
def k13c7:Code:={maxStack:=3,maxLocals:=8,code:=jdk_2101_method_15_code,exceptionTable:= #[],attributes:= #[]}
def k13m7:Method:={name:="compare",desc:="(Ljava/math/MutableBigInteger;)I",sig:={parameters:= [(.object "java/math/MutableBigInteger")],returnType:=some .int},accessFlags:=16,code:=some k13c7}
def k13c8:Code:={maxStack:=3,maxLocals:=4,code:=jdk_2101_method_21_code,exceptionTable:= #[],attributes:= #[]}
def k13m8:Method:={name:="normalize",desc:="()V",sig:={parameters:= [],returnType:=none},accessFlags:=16,code:=some k13c8}
def k13c9:Code:={maxStack:=3,maxLocals:=5,code:=jdk_2101_method_35_code,exceptionTable:= #[],attributes:= #[]}
def k13m9:Method:={name:="rightShift",desc:="(I)V",sig:={parameters:= [.int],returnType:=none},accessFlags:=0,code:=some k13c9}
def k13c10:Code:={maxStack:=8,maxLocals:=15,code:=jdk_2101_method_39_code,exceptionTable:= #[],attributes:= #[]}
def k13m10:Method:={name:="mulsub",desc:="([I[IIII)I",sig:={parameters:= [(.array .int),(.array .int),.int,.int,.int],returnType:=some .int},accessFlags:=2,code:=some k13c10}
def k13c11:Code:={maxStack:=5,maxLocals:=8,code:=jdk_2101_method_42_code,exceptionTable:= #[],attributes:= #[]}
def k13m11:Method:={name:="primitiveLeftShift",desc:="(I)V",sig:={parameters:= [.int],returnType:=none},accessFlags:=18,code:=some k13c11}
def k13c12:Code:={maxStack:=6,maxLocals:=15,code:=jdk_2101_method_53_code,exceptionTable:= #[],attributes:= #[]}
def k13m12:Method:={name:="divideOneWord",desc:="(ILjava/math/MutableBigInteger;)I",sig:={parameters:= [.int,(.object "java/math/MutableBigInteger")],returnType:=some .int},accessFlags:=0,code:=some k13c12}
def k13c13:Code:={maxStack:=4,maxLocals:=3,code:=jdk_2101_method_56_code,exceptionTable:= #[],attributes:= #[]}
def k13m13:Method:={name:="divideKnuth",desc:="(Ljava/math/MutableBigInteger;Ljava/math/MutableBigInteger;)Ljava/math/MutableBigInteger;",sig:={parameters:= [(.object "java/math/MutableBigInteger"),(.object "java/math/MutableBigInteger")],returnType:=some (.object "java/math/MutableBigInteger")},accessFlags:=0,code:=some k13c13}
def k13c14:Code:={maxStack:=5,maxLocals:=8,code:=jdk_2101_method_57_code,exceptionTable:= #[],attributes:= #[]}
def k13m14:Method:={name:="divideKnuth",desc:="(Ljava/math/MutableBigInteger;Ljava/math/MutableBigInteger;Z)Ljava/math/MutableBigInteger;",sig:={parameters:= [(.object "java/math/MutableBigInteger"),(.object "java/math/MutableBigInteger"),.boolean],returnType:=some (.object "java/math/MutableBigInteger")},accessFlags:=0,code:=some k13c14}
def k13c15:Code:={maxStack:=5,maxLocals:=10,code:=jdk_2101_method_64_code,exceptionTable:= #[],attributes:= #[]}
def k13m15:Method:={name:="copyAndShift",desc:="([III[III)V",sig:={parameters:= [(.array .int),.int,.int,(.array .int),.int,.int],returnType:=none},accessFlags:=10,code:=some k13c15}
def k13c16:Code:={maxStack:=7,maxLocals:=28,code:=jdk_2101_method_65_code,exceptionTable:= #[],attributes:= #[]}
def k13m16:Method:={name:="divideMagnitude",desc:="(Ljava/math/MutableBigInteger;Ljava/math/MutableBigInteger;Z)Ljava/math/MutableBigInteger;",sig:={parameters:= [(.object "java/math/MutableBigInteger"),(.object "java/math/MutableBigInteger"),.boolean],returnType:=some (.object "java/math/MutableBigInteger")},accessFlags:=2,code:=some k13c16}
def k13c17:Code:={maxStack:=6,maxLocals:=5,code:=jdk_2101_method_69_code,exceptionTable:= #[],attributes:= #[]}
def k13m17:Method:={name:="unsignedLongCompare",desc:="(JJ)Z",sig:={parameters:= [.long,.long],returnType:=some .boolean},accessFlags:=2,code:=some k13c17}
def k13c18:Code:={maxStack:=6,maxLocals:=9,code:=jdk_2101_method_70_code,exceptionTable:= #[],attributes:= #[]}
def k13m18:Method:={name:="divWord",desc:="(JI)J",sig:={parameters:= [.long,.int],returnType:=some .long},accessFlags:=8,code:=some k13c18}
def k13:Class:={plain "java/math/MutableBigInteger" (some 0) with
 accessFlags:=32
 interfaces:= #[]
 cf:=some (fileOf pool13 12 #[] #[{accessFlags:=0,nameIndex:=9,descriptorIndex:=10,attributes:= #[]},{accessFlags:=0,nameIndex:=9,descriptorIndex:=111,attributes:= #[]},{accessFlags:=0,nameIndex:=9,descriptorIndex:=261,attributes:= #[]},{accessFlags:=0,nameIndex:=9,descriptorIndex:=138,attributes:= #[]},{accessFlags:=2,nameIndex:=60,descriptorIndex:=61,attributes:= #[]},{accessFlags:=0,nameIndex:=73,descriptorIndex:=74,attributes:= #[]},{accessFlags:=0,nameIndex:=151,descriptorIndex:=10,attributes:= #[]},{accessFlags:=16,nameIndex:=144,descriptorIndex:=145,attributes:= #[]},{accessFlags:=16,nameIndex:=66,descriptorIndex:=10,attributes:= #[]},{accessFlags:=0,nameIndex:=110,descriptorIndex:=111,attributes:= #[]},{accessFlags:=2,nameIndex:=279,descriptorIndex:=280,attributes:= #[]},{accessFlags:=18,nameIndex:=117,descriptorIndex:=111,attributes:= #[]},{accessFlags:=0,nameIndex:=180,descriptorIndex:=181,attributes:= #[]},{accessFlags:=0,nameIndex:=165,descriptorIndex:=169,attributes:= #[]},{accessFlags:=0,nameIndex:=165,descriptorIndex:=162,attributes:= #[]},{accessFlags:=10,nameIndex:=271,descriptorIndex:=272,attributes:= #[]},{accessFlags:=2,nameIndex:=192,descriptorIndex:=162,attributes:= #[]},{accessFlags:=2,nameIndex:=275,descriptorIndex:=276,attributes:= #[]},{accessFlags:=8,nameIndex:=157,descriptorIndex:=158,attributes:= #[]}] 32 6 #[] #[{accessFlags:=0,nameIndex:=19,descriptorIndex:=20,attributes:= #[]},{accessFlags:=0,nameIndex:=23,descriptorIndex:=16,attributes:= #[]},{accessFlags:=0,nameIndex:=15,descriptorIndex:=16,attributes:= #[]},{accessFlags:=24,nameIndex:=257,descriptorIndex:=258,attributes:= #[]},{accessFlags:=24,nameIndex:=411,descriptorIndex:=16,attributes:= #[]},{accessFlags:=24,nameIndex:=414,descriptorIndex:=16,attributes:= #[]},{accessFlags:=4120,nameIndex:=43,descriptorIndex:=44,attributes:= #[]}])
 fields:= #[{name:="value",type:=(.array .int),accessFlags:=0,slot:=0,constantValue:=0},{name:="intLen",type:= .int,accessFlags:=0,slot:=1,constantValue:=0},{name:="offset",type:= .int,accessFlags:=0,slot:=2,constantValue:=0},{name:="ONE",type:=(.object "java/math/MutableBigInteger"),accessFlags:=24,slot:=0,constantValue:=0},{name:="KNUTH_POW2_THRESH_LEN",type:= .int,accessFlags:=24,slot:=1,constantValue:=0},{name:="KNUTH_POW2_THRESH_ZEROS",type:= .int,accessFlags:=24,slot:=2,constantValue:=0},{name:="$assertionsDisabled",type:= .boolean,accessFlags:=4120,slot:=3,constantValue:=0}]
 methods:= #[k13m0,k13m1,k13m2,k13m3,k13m4,k13m5,k13m6,k13m7,k13m8,k13m9,k13m10,k13m11,k13m12,k13m13,k13m14,k13m15,k13m16,k13m17,k13m18]
 instanceTypes:= #[(.array .int),.int,.int]
 staticTypes:= #[(.object "java/math/MutableBigInteger"),.int,.int,.boolean]
 resolved:=Array.replicate 590 none
 statics:=none}
def pool14:Array CpInfo:=pool [(1,.class_ 2),(0,u "java/lang/Cloneable"),(0,.class_ 4),(0,u "java/lang/Object")] 2
def k14:Class:={plain "java/lang/Cloneable" (some 0) with
 accessFlags:=1537
 interfaces:= #[]
 cf:=some (fileOf pool14 1 #[] #[] 1537 3 #[] #[])
 fields:= #[]
 methods:= #[]
 instanceTypes:= #[]
 staticTypes:= #[]
 resolved:=Array.replicate 7 none
 statics:=none}
def pool15:Array CpInfo:=pool [(2,.class_ 4),(1,u "java/lang/Object"),(0,u "<init>"),(0,u "()V"),(35,.class_ 44),(1,u "java/util/Objects"),(0,u "requireNonNull"),(0,u "(Ljava/lang/Object;)Ljava/lang/Object;"),(59,.class_ 108),(1,u "jdk/internal/util/Preconditions"),(2,.methodref 106 112),(0,.nameAndType 113 114),(0,u "checkFromToIndex"),(0,u "(IIILjava/util/function/BiFunction;)I"),(60,u "(III)I")] 8
def k15m0:Method:={name:="<init>",desc:="()V",sig:={parameters:= [],returnType:=none},accessFlags:=2,code:=none}
def k15c1:Code:={maxStack:=2,maxLocals:=1,code:=jdk_31_method_10_code,exceptionTable:= #[],attributes:= #[]}
def k15m1:Method:={name:="requireNonNull",desc:="(Ljava/lang/Object;)Ljava/lang/Object;",sig:={parameters:= [(.object "java/lang/Object")],returnType:=some (.object "java/lang/Object")},accessFlags:=9,code:=some k15c1}
def k15c2:Code:={maxStack:=4,maxLocals:=3,code:=jdk_31_method_18_code,exceptionTable:= #[],attributes:= #[]}
def k15m2:Method:={name:="checkFromToIndex",desc:="(III)I",sig:={parameters:= [.int,.int,.int],returnType:=some .int},accessFlags:=9,code:=some k15c2}
def k15:Class:={plain "java/util/Objects" (some 0) with
 accessFlags:=49
 interfaces:= #[]
 cf:=some (fileOf pool15 42 #[] #[{accessFlags:=2,nameIndex:=5,descriptorIndex:=6,attributes:= #[]},{accessFlags:=9,nameIndex:=45,descriptorIndex:=46,attributes:= #[]},{accessFlags:=9,nameIndex:=113,descriptorIndex:=175,attributes:= #[]}] 49 2 #[] #[])
 fields:= #[]
 methods:= #[k15m0,k15m1,k15m2]
 instanceTypes:= #[]
 staticTypes:= #[]
 resolved:=Array.replicate 184 none
 statics:=none}
def pool16:Array CpInfo:=pool [(2,.class_ 4),(1,u "java/lang/Object"),(0,u "<init>"),(0,u "()V"),(17,.class_ 26),(1,u "jdk/internal/util/Preconditions"),(20,u "checkFromToIndex"),(7,.class_ 56),(0,u "jdk/internal/util/Preconditions$4"),(57,.class_ 115),(0,u "jdk/internal/util/Preconditions$1"),(7,u "SIOOBE_FORMATTER"),(0,u "Ljava/util/function/BiFunction;"),(0,.class_ 126),(0,u "jdk/internal/util/Preconditions$2"),(3,u "AIOOBE_FORMATTER"),(0,.class_ 132),(0,u "jdk/internal/util/Preconditions$3"),(3,u "IOOBE_FORMATTER"),(46,u "(IIILjava/util/function/BiFunction;)I")] 10
def k16m0:Method:={name:="<init>",desc:="()V",sig:={parameters:= [],returnType:=none},accessFlags:=1,code:=none}
def k16c1:Code:={maxStack:=4,maxLocals:=4,code:=jdk_41_method_12_code,exceptionTable:= #[],attributes:= #[]}
def k16m1:Method:={name:="checkFromToIndex",desc:="(IIILjava/util/function/BiFunction;)I",sig:={parameters:= [.int,.int,.int,(.object "java/util/function/BiFunction")],returnType:=some .int},accessFlags:=9,code:=some k16c1}
def k16:Class:={plain "jdk/internal/util/Preconditions" (some 0) with
 accessFlags:=33
 interfaces:= #[]
 cf:=some (fileOf pool16 24 #[.nestMembers #[55,131,125,114]] #[{accessFlags:=1,nameIndex:=5,descriptorIndex:=6,attributes:= #[]},{accessFlags:=9,nameIndex:=47,descriptorIndex:=183,attributes:= #[]}] 33 2 #[] #[{accessFlags:=25,nameIndex:=123,descriptorIndex:=124,attributes:= #[]},{accessFlags:=25,nameIndex:=130,descriptorIndex:=124,attributes:= #[]},{accessFlags:=25,nameIndex:=136,descriptorIndex:=124,attributes:= #[]}])
 fields:= #[{name:="SIOOBE_FORMATTER",type:=(.object "java/util/function/BiFunction"),accessFlags:=25,slot:=0,constantValue:=0},{name:="AIOOBE_FORMATTER",type:=(.object "java/util/function/BiFunction"),accessFlags:=25,slot:=1,constantValue:=0},{name:="IOOBE_FORMATTER",type:=(.object "java/util/function/BiFunction"),accessFlags:=25,slot:=2,constantValue:=0}]
 methods:= #[k16m0,k16m1]
 instanceTypes:= #[]
 staticTypes:= #[(.object "java/util/function/BiFunction"),(.object "java/util/function/BiFunction"),(.object "java/util/function/BiFunction")]
 resolved:=Array.replicate 194 none
 statics:=none}
def k17:Class:={plain "byte" none with kind:= .primitive 'B',accessFlags:=0x411}
def k18:Class:={plain "[B" (some 0) with kind:= .array 17 .byte,interfaces:= #[14,4],accessFlags:=1041}
def k19:Class:={plain "int" none with kind:= .primitive 'I',accessFlags:=0x411}
def k20:Class:={plain "[I" (some 0) with kind:= .array 19 .int,interfaces:= #[14,4],accessFlags:=1041}
def k21:Class:={plain "[Ljava/math/BigInteger;" (some 0) with kind:= .array 7 (.object "java/math/BigInteger"),interfaces:= #[14,4],accessFlags:=1041}
def heap:Heap:= #[{cls:=7,slots:= #[.long 0,.int 0,.int 0,.int 0,.int 0,.int 0,.int 0,.int 0,.int 0,.int 0,.int 0,.int 0,.null,.int 0,.int 0,.null,.int 0,.ref 1,.null,.null,.null,.double 0,.ref 18,.ref 2,.ref 3,.null,.ref 11,.null,.int 0,.null,.null,.null,.null,.null,.long 0,.null,.int 0],vm:= .statics 7},
 {cls:=21,slots:= #[.null,.ref 2,.ref 3,.ref 4,.ref 5,.ref 6,.ref 7,.ref 8,.ref 9,.ref 10,.ref 11,.ref 12,.ref 13,.ref 14,.ref 15,.ref 16,.ref 17],vm:= .none},
 {cls:=7,slots:= #[.int 1,.ref 19,.int 0,.int 0,.int 0,.int 0],vm:= .none},
 {cls:=7,slots:= #[.int 1,.ref 20,.int 0,.int 0,.int 0,.int 0],vm:= .none},
 {cls:=7,slots:= #[.int 1,.ref 21,.int 0,.int 0,.int 0,.int 0],vm:= .none},
 {cls:=7,slots:= #[.int 1,.ref 22,.int 0,.int 0,.int 0,.int 0],vm:= .none},
 {cls:=7,slots:= #[.int 1,.ref 23,.int 0,.int 0,.int 0,.int 0],vm:= .none},
 {cls:=7,slots:= #[.int 1,.ref 24,.int 0,.int 0,.int 0,.int 0],vm:= .none},
 {cls:=7,slots:= #[.int 1,.ref 25,.int 0,.int 0,.int 0,.int 0],vm:= .none},
 {cls:=7,slots:= #[.int 1,.ref 26,.int 0,.int 0,.int 0,.int 0],vm:= .none},
 {cls:=7,slots:= #[.int 1,.ref 27,.int 0,.int 0,.int 0,.int 0],vm:= .none},
 {cls:=7,slots:= #[.int 1,.ref 28,.int 0,.int 0,.int 0,.int 0],vm:= .none},
 {cls:=7,slots:= #[.int 1,.ref 29,.int 0,.int 0,.int 0,.int 0],vm:= .none},
 {cls:=7,slots:= #[.int 1,.ref 30,.int 0,.int 0,.int 0,.int 0],vm:= .none},
 {cls:=7,slots:= #[.int 1,.ref 31,.int 0,.int 0,.int 0,.int 0],vm:= .none},
 {cls:=7,slots:= #[.int 1,.ref 32,.int 0,.int 0,.int 0,.int 0],vm:= .none},
 {cls:=7,slots:= #[.int 1,.ref 33,.int 0,.int 0,.int 0,.int 0],vm:= .none},
 {cls:=7,slots:= #[.int 1,.ref 34,.int 0,.int 0,.int 0,.int 0],vm:= .none},
 {cls:=7,slots:= #[.int 0,.ref 35,.int 0,.int 0,.int 0,.int 0],vm:= .none},
 {cls:=20,slots:= #[.int 1],vm:= .none},
 {cls:=20,slots:= #[.int 2],vm:= .none},
 {cls:=20,slots:= #[.int 3],vm:= .none},
 {cls:=20,slots:= #[.int 4],vm:= .none},
 {cls:=20,slots:= #[.int 5],vm:= .none},
 {cls:=20,slots:= #[.int 6],vm:= .none},
 {cls:=20,slots:= #[.int 7],vm:= .none},
 {cls:=20,slots:= #[.int 8],vm:= .none},
 {cls:=20,slots:= #[.int 9],vm:= .none},
 {cls:=20,slots:= #[.int 10],vm:= .none},
 {cls:=20,slots:= #[.int 11],vm:= .none},
 {cls:=20,slots:= #[.int 12],vm:= .none},
 {cls:=20,slots:= #[.int 13],vm:= .none},
 {cls:=20,slots:= #[.int 14],vm:= .none},
 {cls:=20,slots:= #[.int 15],vm:= .none},
 {cls:=20,slots:= #[.int 16],vm:= .none},
 {cls:=20,slots:= #[],vm:= .none}]
def classes:Array Class:= #[k0,k1,k2,k3,k4,k5,k6,k7,k8,k9,k10,k11,k12,k13,k14,k15,k16,k17,k18,k19,k20,k21]
def interned:List (Array UInt16×Addr):= []
def slotsUsed:Nat:=172
def theMethod:MethodId:=⟨1,4⟩
def args0:Array Value:= #[.long 5,.long 3,.long 7,.int 0]
def aboutOver (below:List Frame):State where
 vm:={classes:=classes,interned:=interned.toArray}
 heap:=heap
 slotsUsed:=slotsUsed
 threads:= #[{frames:= .invoking theMethod args0::below}]
def below0:List Frame:= [.native {method:=⟨0,0⟩,args:= #[]}]
def about1:State:=aboutOver below0
def p0:Program:= .bare "" "" ""
def e0:Env:=launch0.env 0 0 0
theorem w_frames:about1.frames=Frame.invoking theMethod args0::below0:=rfl
set_option maxRecDepth 65536 in
theorem w_args:argsFit about1.vm theMethod args0=true:=by decide+kernel
set_option maxRecDepth 65536 in
theorem w_heap:heapFits about1=true:=by decide+kernel
set_option maxRecDepth 65536 in
theorem w_runnable:about1.curStatus? =some .runnable:=by decide+kernel
set_option maxRecDepth 65536 in
theorem w_alone:about1.alone=true:=by decide+kernel
set_option maxRecDepth 65536 in
theorem w_named:about1.methodNamed? x=some theMethod:=by decide+kernel
set_option maxRecDepth 65536 in
theorem w_hears:about1.hears theMethod below0=true:=by decide+kernel
set_option maxRecDepth 65536 in
theorem w_ripe:about1.ripe theMethod args0 below0=true:=by decide+kernel
theorem w_running:about1.status= .running:=rfl
set_option maxRecDepth 65536 in
theorem w_room:about1.hasRoom e0.platform room_1=true:=
 launch0.hasRoom_least _ room_1 (by decide+kernel) (by decide+kernel) (by decide+kernel) (by decide+kernel) (by decide+kernel) (by decide+kernel)
theorem allAtoms_all (ts:List Jvm.Cond)(a:Array Jvm.Value)(st:Jvm.State):(allAtoms ts).before a st=ts.all (fun c=>c.before a st):=by
 induction ts with
 |nil=>rfl
 |cons c t ih=>
  show (Jvm.Cond.and c (allAtoms t)).before a st=_
  rw[Jvm.Cond.before_and,ih,List.all_cons]
def words1:List Jvm.Cond:=Jvm.Cond.code x code maxLocals ret::tables_1
theorem code_word {y:MethodName}{bytes:ByteArray}{mx:Nat}{rt:Option FieldType}{a:Array Value}{s:State}{m:MethodId}{meth:Method}{c:Code}(h1:s.methodNamed? y=some m)(h2:s.vm.method? m=some meth)(h3:meth.code=some c)(h4:c.code=bytes)
  (h5:(c.maxLocals==mx&&c.exceptionTable.isEmpty&&decide (c.maxStack≤mostOperands)&&decide (meth.sig.returnType=rt)&& !meth.locks&&decide (parseMethodDescriptor y.desc=some meth.sig))=true):(Jvm.Cond.code y bytes mx rt).before a s=true:=by
 simp only[Bool.and_eq_true,beq_iff_eq,Bool.not_eq_true',decide_eq_true_eq] at h5
 obtain ⟨⟨⟨⟨⟨g1,g2⟩,g3⟩,g4⟩,g5⟩,g6⟩:=h5
 simp[Cond.before,Cond.holds,Cond.value,h1,h2,h3,h4,g1,g2,g3,g4,g5,g6]
def isCode:Jvm.Cond→Bool
 | .code _ _ _ _=>true
 |_=>false
theorem all_split {L:List Jvm.Cond}{P:Jvm.Cond→Bool}(h1:L.all (fun c=>isCode c||P c)=true)(h2: ∀c∈L.filter isCode,P c=true):L.all P=true:=by
 refine List.all_eq_true.mpr fun c hc=> ?_
 have h:=List.all_eq_true.mp h1 c hc
 rcases Bool.eq_false_or_eq_true (isCode c) with hi|hi
 ·exact h2 c (List.mem_filter.mpr ⟨hc,hi⟩)
 ·simpa [hi] using h
set_option maxRecDepth 65536 in
theorem w_c0:(Jvm.Cond.code x code maxLocals ret).before args0 about1=true:=code_word (m:=⟨1,4⟩) (meth:=k1m4) (c:=k1c4) (by decide+kernel) rfl rfl rfl (by decide+kernel)
set_option maxRecDepth 65536 in
theorem w_c1:(Jvm.Cond.code ({cls:="java/lang/Math",name:="max",desc:="(JJ)J"}:Jvm.MethodName) jdk_29_method_66_code (4:Nat) (Option.some Jvm.ClassFile.FieldType.long)).before args0 about1=true:=code_word (m:=⟨2,1⟩) (meth:=k2m1) (c:=k2c1) (by decide+kernel) rfl rfl rfl (by decide+kernel)
set_option maxRecDepth 65536 in
theorem w_c2:(Jvm.Cond.code ({cls:="com/example/nuthatch/nuthatch/ArgumentsRequireFillMillisPinLaw",name:="cmp",desc:="(JJJJ)I"}:Jvm.MethodName) method_4_code (16:Nat) (Option.some Jvm.ClassFile.FieldType.int)).before args0 about1=true:=code_word (m:=⟨1,3⟩) (meth:=k1m3) (c:=k1c3) (by decide+kernel) rfl rfl rfl (by decide+kernel)
set_option maxRecDepth 65536 in
theorem w_c3:(Jvm.Cond.code ({cls:="com/example/nuthatch/nuthatch/ArgumentsRequireFillMillisPinLaw",name:="high",desc:="(JJ)J"}:Jvm.MethodName) method_2_code (20:Nat) (Option.some Jvm.ClassFile.FieldType.long)).before args0 about1=true:=code_word (m:=⟨1,1⟩) (meth:=k1m1) (c:=k1c1) (by decide+kernel) rfl rfl rfl (by decide+kernel)
set_option maxRecDepth 65536 in
theorem w_c4:(Jvm.Cond.code ({cls:="com/example/nuthatch/nuthatch/ArgumentsRequireFillMillisPinLaw",name:="low",desc:="(JJ)J"}:Jvm.MethodName) method_3_code (18:Nat) (Option.some Jvm.ClassFile.FieldType.long)).before args0 about1=true:=code_word (m:=⟨1,2⟩) (meth:=k1m2) (c:=k1c2) (by decide+kernel) rfl rfl rfl (by decide+kernel)
set_option maxRecDepth 65536 in
theorem w_c5:(Jvm.Cond.code ({cls:="com/example/nuthatch/nuthatch/Arguments",name:="requireFillMillis",desc:="(JJJ)J"}:Jvm.MethodName) prog_1_method_4_code (8:Nat) (Option.some Jvm.ClassFile.FieldType.long)).before args0 about1=true:=code_word (m:=⟨3,1⟩) (meth:=k3m1) (c:=k3c1) (by decide+kernel) rfl rfl rfl (by decide+kernel)
set_option maxRecDepth 65536 in
theorem w_c6:(Jvm.Cond.code ({cls:="java/math/BigInteger",name:="valueOf",desc:="(J)Ljava/math/BigInteger;"}:Jvm.MethodName) jdk_2097_method_29_code (2:Nat) (Option.some (Jvm.ClassFile.FieldType.object "java/math/BigInteger"))).before args0 about1=true:=code_word (m:=⟨7,1⟩) (meth:=k7m1) (c:=k7c1) (by decide+kernel) rfl rfl rfl (by decide+kernel)
set_option maxRecDepth 65536 in
theorem w_c7:(Jvm.Cond.code ({cls:="java/math/BigInteger",name:="multiply",desc:="(Ljava/math/BigInteger;)Ljava/math/BigInteger;"}:Jvm.MethodName) jdk_2097_method_40_code (2:Nat) (Option.some (Jvm.ClassFile.FieldType.object "java/math/BigInteger"))).before args0 about1=true:=code_word (m:=⟨7,5⟩) (meth:=k7m5) (c:=k7c5) (by decide+kernel) rfl rfl rfl (by decide+kernel)
set_option maxRecDepth 65536 in
theorem w_c8:(Jvm.Cond.code ({cls:="java/math/BigInteger",name:="multiply",desc:="(Ljava/math/BigInteger;ZZI)Ljava/math/BigInteger;"}:Jvm.MethodName) jdk_2097_method_42_code (9:Nat) (Option.some (Jvm.ClassFile.FieldType.object "java/math/BigInteger"))).before args0 about1=true:=code_word (m:=⟨7,6⟩) (meth:=k7m6) (c:=k7c6) (by decide+kernel) rfl rfl rfl (by decide+kernel)
set_option maxRecDepth 65536 in
theorem w_c9:(Jvm.Cond.code ({cls:="java/math/BigInteger",name:="multiplyByInt",desc:="([III)Ljava/math/BigInteger;"}:Jvm.MethodName) jdk_2097_method_43_code (13:Nat) (Option.some (Jvm.ClassFile.FieldType.object "java/math/BigInteger"))).before args0 about1=true:=code_word (m:=⟨7,7⟩) (meth:=k7m7) (c:=k7c7) (by decide+kernel) rfl rfl rfl (by decide+kernel)
set_option maxRecDepth 65536 in
theorem w_c10:(Jvm.Cond.code ({cls:="java/lang/Integer",name:="bitCount",desc:="(I)I"}:Jvm.MethodName) jdk_33_method_49_code (1:Nat) (Option.some Jvm.ClassFile.FieldType.int)).before args0 about1=true:=code_word (m:=⟨10,2⟩) (meth:=k10m2) (c:=k10c2) (by decide+kernel) rfl rfl rfl (by decide+kernel)
set_option maxRecDepth 65536 in
theorem w_c11:(Jvm.Cond.code ({cls:="java/util/Arrays",name:="copyOfRange",desc:="([III)[I"}:Jvm.MethodName) jdk_65_method_136_code (3:Nat) (Option.some (Jvm.ClassFile.FieldType.array Jvm.ClassFile.FieldType.int))).before args0 about1=true:=code_word (m:=⟨11,3⟩) (meth:=k11m3) (c:=k11c3) (by decide+kernel) rfl rfl rfl (by decide+kernel)
set_option maxRecDepth 65536 in
theorem w_c12:(Jvm.Cond.code ({cls:="java/util/Arrays",name:="copyOfRangeInt",desc:="([III)[I"}:Jvm.MethodName) jdk_65_method_137_code (5:Nat) (Option.some (Jvm.ClassFile.FieldType.array Jvm.ClassFile.FieldType.int))).before args0 about1=true:=code_word (m:=⟨11,4⟩) (meth:=k11m4) (c:=k11c4) (by decide+kernel) rfl rfl rfl (by decide+kernel)
set_option maxRecDepth 65536 in
theorem w_c13:(Jvm.Cond.code ({cls:="java/util/Arrays",name:="checkLength",desc:="(II)V"}:Jvm.MethodName) jdk_65_method_131_code (2:Nat) (Option.none:Option Jvm.ClassFile.FieldType)).before args0 about1=true:=code_word (m:=⟨11,2⟩) (meth:=k11m2) (c:=k11c2) (by decide+kernel) rfl rfl rfl (by decide+kernel)
set_option maxRecDepth 65536 in
theorem w_c14:(Jvm.Cond.code ({cls:="java/lang/Math",name:="min",desc:="(II)I"}:Jvm.MethodName) jdk_29_method_69_code (2:Nat) (Option.some Jvm.ClassFile.FieldType.int)).before args0 about1=true:=code_word (m:=⟨2,2⟩) (meth:=k2m2) (c:=k2c2) (by decide+kernel) rfl rfl rfl (by decide+kernel)
set_option maxRecDepth 65536 in
theorem w_c15:(Jvm.Cond.code ({cls:="java/math/BigInteger",name:="<init>",desc:="([II)V"}:Jvm.MethodName) jdk_2097_method_25_code (3:Nat) (Option.none:Option Jvm.ClassFile.FieldType)).before args0 about1=true:=code_word (m:=⟨7,0⟩) (meth:=k7m0) (c:=k7c0) (by decide+kernel) rfl rfl rfl (by decide+kernel)
set_option maxRecDepth 65536 in
theorem w_c16:(Jvm.Cond.code ({cls:="java/lang/Number",name:="<init>",desc:="()V"}:Jvm.MethodName) jdk_18_method_1_code (1:Nat) (Option.none:Option Jvm.ClassFile.FieldType)).before args0 about1=true:=code_word (m:=⟨5,0⟩) (meth:=k5m0) (c:=k5c0) (by decide+kernel) rfl rfl rfl (by decide+kernel)
set_option maxRecDepth 65536 in
theorem w_c17:(Jvm.Cond.code ({cls:="java/lang/Object",name:="<init>",desc:="()V"}:Jvm.MethodName) object_method_1_code (1:Nat) (Option.none:Option Jvm.ClassFile.FieldType)).before args0 about1=true:=code_word (m:=⟨0,0⟩) (meth:=k0m0) (c:=k0c0) (by decide+kernel) rfl rfl rfl (by decide+kernel)
set_option maxRecDepth 65536 in
theorem w_c18:(Jvm.Cond.code ({cls:="java/math/BigInteger",name:="<init>",desc:="(J)V"}:Jvm.MethodName) jdk_2097_method_30_code (4:Nat) (Option.none:Option Jvm.ClassFile.FieldType)).before args0 about1=true:=code_word (m:=⟨7,2⟩) (meth:=k7m2) (c:=k7c2) (by decide+kernel) rfl rfl rfl (by decide+kernel)
set_option maxRecDepth 65536 in
theorem w_c19:(Jvm.Cond.code ({cls:="java/math/BigInteger",name:="divideAndRemainder",desc:="(Ljava/math/BigInteger;)[Ljava/math/BigInteger;"}:Jvm.MethodName) jdk_2097_method_63_code (2:Nat) (Option.some (Jvm.ClassFile.FieldType.array (Jvm.ClassFile.FieldType.object "java/math/BigInteger")))).before args0 about1=true:=code_word (m:=⟨7,11⟩) (meth:=k7m11) (c:=k7c11) (by decide+kernel) rfl rfl rfl (by decide+kernel)
set_option maxRecDepth 65536 in
theorem w_c20:(Jvm.Cond.code ({cls:="java/math/BigInteger",name:="divideAndRemainderKnuth",desc:="(Ljava/math/BigInteger;)[Ljava/math/BigInteger;"}:Jvm.MethodName) jdk_2097_method_64_code (7:Nat) (Option.some (Jvm.ClassFile.FieldType.array (Jvm.ClassFile.FieldType.object "java/math/BigInteger")))).before args0 about1=true:=code_word (m:=⟨7,12⟩) (meth:=k7m12) (c:=k7c12) (by decide+kernel) rfl rfl rfl (by decide+kernel)
set_option maxRecDepth 65536 in
theorem w_c21:(Jvm.Cond.code ({cls:="java/math/MutableBigInteger",name:="<init>",desc:="()V"}:Jvm.MethodName) jdk_2101_method_1_code (1:Nat) (Option.none:Option Jvm.ClassFile.FieldType)).before args0 about1=true:=code_word (m:=⟨13,0⟩) (meth:=k13m0) (c:=k13c0) (by decide+kernel) rfl rfl rfl (by decide+kernel)
set_option maxRecDepth 65536 in
theorem w_c22:(Jvm.Cond.code ({cls:="java/math/MutableBigInteger",name:="<init>",desc:="([I)V"}:Jvm.MethodName) jdk_2101_method_3_code (2:Nat) (Option.none:Option Jvm.ClassFile.FieldType)).before args0 about1=true:=code_word (m:=⟨13,2⟩) (meth:=k13m2) (c:=k13c2) (by decide+kernel) rfl rfl rfl (by decide+kernel)
set_option maxRecDepth 65536 in
theorem w_c23:(Jvm.Cond.code ({cls:="java/math/MutableBigInteger",name:="divideKnuth",desc:="(Ljava/math/MutableBigInteger;Ljava/math/MutableBigInteger;)Ljava/math/MutableBigInteger;"}:Jvm.MethodName) jdk_2101_method_56_code (3:Nat) (Option.some (Jvm.ClassFile.FieldType.object "java/math/MutableBigInteger"))).before args0 about1=true:=code_word (m:=⟨13,13⟩) (meth:=k13m13) (c:=k13c13) (by decide+kernel) rfl rfl rfl (by decide+kernel)
set_option maxRecDepth 65536 in
theorem w_c24:(Jvm.Cond.code ({cls:="java/math/MutableBigInteger",name:="divideKnuth",desc:="(Ljava/math/MutableBigInteger;Ljava/math/MutableBigInteger;Z)Ljava/math/MutableBigInteger;"}:Jvm.MethodName) jdk_2101_method_57_code (8:Nat) (Option.some (Jvm.ClassFile.FieldType.object "java/math/MutableBigInteger"))).before args0 about1=true:=code_word (m:=⟨13,14⟩) (meth:=k13m14) (c:=k13c14) (by decide+kernel) rfl rfl rfl (by decide+kernel)
set_option maxRecDepth 65536 in
theorem w_c25:(Jvm.Cond.code ({cls:="java/math/MutableBigInteger",name:="compare",desc:="(Ljava/math/MutableBigInteger;)I"}:Jvm.MethodName) jdk_2101_method_15_code (8:Nat) (Option.some Jvm.ClassFile.FieldType.int)).before args0 about1=true:=code_word (m:=⟨13,7⟩) (meth:=k13m7) (c:=k13c7) (by decide+kernel) rfl rfl rfl (by decide+kernel)
set_option maxRecDepth 65536 in
theorem w_c26:(Jvm.Cond.code ({cls:="java/math/MutableBigInteger",name:="<init>",desc:="(Ljava/math/MutableBigInteger;)V"}:Jvm.MethodName) jdk_2101_method_5_code (2:Nat) (Option.none:Option Jvm.ClassFile.FieldType)).before args0 about1=true:=code_word (m:=⟨13,3⟩) (meth:=k13m3) (c:=k13c3) (by decide+kernel) rfl rfl rfl (by decide+kernel)
set_option maxRecDepth 65536 in
theorem w_c27:(Jvm.Cond.code ({cls:="java/math/MutableBigInteger",name:="toBigInteger",desc:="(I)Ljava/math/BigInteger;"}:Jvm.MethodName) jdk_2101_method_9_code (2:Nat) (Option.some (Jvm.ClassFile.FieldType.object "java/math/BigInteger"))).before args0 about1=true:=code_word (m:=⟨13,5⟩) (meth:=k13m5) (c:=k13c5) (by decide+kernel) rfl rfl rfl (by decide+kernel)
set_option maxRecDepth 65536 in
theorem w_c28:(Jvm.Cond.code ({cls:="java/math/MutableBigInteger",name:="getMagnitudeArray",desc:="()[I"}:Jvm.MethodName) jdk_2101_method_7_code (2:Nat) (Option.some (Jvm.ClassFile.FieldType.array Jvm.ClassFile.FieldType.int))).before args0 about1=true:=code_word (m:=⟨13,4⟩) (meth:=k13m4) (c:=k13c4) (by decide+kernel) rfl rfl rfl (by decide+kernel)
set_option maxRecDepth 65536 in
theorem w_c29:(Jvm.Cond.code ({cls:="java/math/BigInteger",name:="signum",desc:="()I"}:Jvm.MethodName) jdk_2097_method_81_code (1:Nat) (Option.some Jvm.ClassFile.FieldType.int)).before args0 about1=true:=code_word (m:=⟨7,14⟩) (meth:=k7m14) (c:=k7c14) (by decide+kernel) rfl rfl rfl (by decide+kernel)
set_option maxRecDepth 65536 in
theorem w_c30:(Jvm.Cond.code ({cls:="java/math/BigInteger",name:="add",desc:="(Ljava/math/BigInteger;)Ljava/math/BigInteger;"}:Jvm.MethodName) jdk_2097_method_32_code (4:Nat) (Option.some (Jvm.ClassFile.FieldType.object "java/math/BigInteger"))).before args0 about1=true:=code_word (m:=⟨7,3⟩) (meth:=k7m3) (c:=k7c3) (by decide+kernel) rfl rfl rfl (by decide+kernel)
set_option maxRecDepth 65536 in
theorem w_c31:(Jvm.Cond.code ({cls:="java/math/BigInteger",name:="compareTo",desc:="(Ljava/math/BigInteger;)I"}:Jvm.MethodName) jdk_2097_method_121_code (2:Nat) (Option.some Jvm.ClassFile.FieldType.int)).before args0 about1=true:=code_word (m:=⟨7,17⟩) (meth:=k7m17) (c:=k7c17) (by decide+kernel) rfl rfl rfl (by decide+kernel)
set_option maxRecDepth 65536 in
theorem w_c32:(Jvm.Cond.code ({cls:="java/math/BigInteger",name:="compareMagnitude",desc:="(Ljava/math/BigInteger;)I"}:Jvm.MethodName) jdk_2097_method_122_code (9:Nat) (Option.some Jvm.ClassFile.FieldType.int)).before args0 about1=true:=code_word (m:=⟨7,18⟩) (meth:=k7m18) (c:=k7c18) (by decide+kernel) rfl rfl rfl (by decide+kernel)
set_option maxRecDepth 65536 in
theorem w_c33:(Jvm.Cond.code ({cls:="java/math/BigInteger",name:="longValue",desc:="()J"}:Jvm.MethodName) jdk_2097_method_136_code (4:Nat) (Option.some Jvm.ClassFile.FieldType.long)).before args0 about1=true:=code_word (m:=⟨7,19⟩) (meth:=k7m19) (c:=k7c19) (by decide+kernel) rfl rfl rfl (by decide+kernel)
set_option maxRecDepth 65536 in
theorem w_c34:(Jvm.Cond.code ({cls:="java/math/BigInteger",name:="getInt",desc:="(I)I"}:Jvm.MethodName) jdk_2097_method_148_code (3:Nat) (Option.some Jvm.ClassFile.FieldType.int)).before args0 about1=true:=code_word (m:=⟨7,22⟩) (meth:=k7m22) (c:=k7c22) (by decide+kernel) rfl rfl rfl (by decide+kernel)
set_option maxRecDepth 65536 in
theorem w_c35:(Jvm.Cond.code ({cls:="java/math/BigInteger",name:="signInt",desc:="()I"}:Jvm.MethodName) jdk_2097_method_147_code (1:Nat) (Option.some Jvm.ClassFile.FieldType.int)).before args0 about1=true:=code_word (m:=⟨7,21⟩) (meth:=k7m21) (c:=k7c21) (by decide+kernel) rfl rfl rfl (by decide+kernel)
set_option maxRecDepth 65536 in
theorem w_c36:(Jvm.Cond.code ({cls:="java/lang/Integer",name:="numberOfTrailingZeros",desc:="(I)I"}:Jvm.MethodName) jdk_33_method_48_code (2:Nat) (Option.some Jvm.ClassFile.FieldType.int)).before args0 about1=true:=code_word (m:=⟨10,1⟩) (meth:=k10m1) (c:=k10c1) (by decide+kernel) rfl rfl rfl (by decide+kernel)
set_option maxRecDepth 65536 in
theorem w_c37:(Jvm.Cond.code ({cls:="java/math/BigInteger",name:="shiftLeft",desc:="([II)[I"}:Jvm.MethodName) jdk_2097_method_102_code (10:Nat) (Option.some (Jvm.ClassFile.FieldType.array Jvm.ClassFile.FieldType.int))).before args0 about1=true:=code_word (m:=⟨7,15⟩) (meth:=k7m15) (c:=k7c15) (by decide+kernel) rfl rfl rfl (by decide+kernel)
set_option maxRecDepth 65536 in
theorem w_c38:(Jvm.Cond.code ({cls:="java/math/MutableBigInteger",name:="clear",desc:="()V"}:Jvm.MethodName) jdk_2101_method_13_code (3:Nat) (Option.none:Option Jvm.ClassFile.FieldType)).before args0 about1=true:=code_word (m:=⟨13,6⟩) (meth:=k13m6) (c:=k13c6) (by decide+kernel) rfl rfl rfl (by decide+kernel)
set_option maxRecDepth 65536 in
theorem w_c39:(Jvm.Cond.code ({cls:="java/math/MutableBigInteger",name:="divideOneWord",desc:="(ILjava/math/MutableBigInteger;)I"}:Jvm.MethodName) jdk_2101_method_53_code (15:Nat) (Option.some Jvm.ClassFile.FieldType.int)).before args0 about1=true:=code_word (m:=⟨13,12⟩) (meth:=k13m12) (c:=k13c12) (by decide+kernel) rfl rfl rfl (by decide+kernel)
set_option maxRecDepth 65536 in
theorem w_c40:(Jvm.Cond.code ({cls:="java/lang/Integer",name:="numberOfLeadingZeros",desc:="(I)I"}:Jvm.MethodName) jdk_33_method_47_code (2:Nat) (Option.some Jvm.ClassFile.FieldType.int)).before args0 about1=true:=code_word (m:=⟨10,0⟩) (meth:=k10m0) (c:=k10c0) (by decide+kernel) rfl rfl rfl (by decide+kernel)
set_option maxRecDepth 65536 in
theorem w_c41:(Jvm.Cond.code ({cls:="java/math/MutableBigInteger",name:="normalize",desc:="()V"}:Jvm.MethodName) jdk_2101_method_21_code (4:Nat) (Option.none:Option Jvm.ClassFile.FieldType)).before args0 about1=true:=code_word (m:=⟨13,8⟩) (meth:=k13m8) (c:=k13c8) (by decide+kernel) rfl rfl rfl (by decide+kernel)
set_option maxRecDepth 65536 in
theorem w_c42:(Jvm.Cond.code ({cls:="java/math/MutableBigInteger",name:="<init>",desc:="(I)V"}:Jvm.MethodName) jdk_2101_method_2_code (2:Nat) (Option.none:Option Jvm.ClassFile.FieldType)).before args0 about1=true:=code_word (m:=⟨13,1⟩) (meth:=k13m1) (c:=k13c1) (by decide+kernel) rfl rfl rfl (by decide+kernel)
set_option maxRecDepth 65536 in
theorem w_c43:(Jvm.Cond.code ({cls:="java/math/BigInteger",name:="add",desc:="([I[I)[I"}:Jvm.MethodName) jdk_2097_method_35_code (9:Nat) (Option.some (Jvm.ClassFile.FieldType.array Jvm.ClassFile.FieldType.int))).before args0 about1=true:=code_word (m:=⟨7,4⟩) (meth:=k7m4) (c:=k7c4) (by decide+kernel) rfl rfl rfl (by decide+kernel)
set_option maxRecDepth 65536 in
theorem w_c44:(Jvm.Cond.code ({cls:="java/util/Objects",name:="checkFromToIndex",desc:="(III)I"}:Jvm.MethodName) jdk_31_method_18_code (3:Nat) (Option.some Jvm.ClassFile.FieldType.int)).before args0 about1=true:=code_word (m:=⟨15,2⟩) (meth:=k15m2) (c:=k15c2) (by decide+kernel) rfl rfl rfl (by decide+kernel)
set_option maxRecDepth 65536 in
theorem w_c45:(Jvm.Cond.code ({cls:="jdk/internal/util/Preconditions",name:="checkFromToIndex",desc:="(IIILjava/util/function/BiFunction;)I"}:Jvm.MethodName) jdk_41_method_12_code (4:Nat) (Option.some Jvm.ClassFile.FieldType.int)).before args0 about1=true:=code_word (m:=⟨16,1⟩) (meth:=k16m1) (c:=k16c1) (by decide+kernel) rfl rfl rfl (by decide+kernel)
set_option maxRecDepth 65536 in
theorem w_c46:(Jvm.Cond.code ({cls:="java/math/BigInteger",name:="shiftLeftImplWorker",desc:="([I[IIII)V"}:Jvm.MethodName) jdk_2097_method_103_code (7:Nat) (Option.none:Option Jvm.ClassFile.FieldType)).before args0 about1=true:=code_word (m:=⟨7,16⟩) (meth:=k7m16) (c:=k7c16) (by decide+kernel) rfl rfl rfl (by decide+kernel)
set_option maxRecDepth 65536 in
theorem w_c47:(Jvm.Cond.code ({cls:="java/util/Arrays",name:="fill",desc:="([II)V"}:Jvm.MethodName) jdk_65_method_103_code (4:Nat) (Option.none:Option Jvm.ClassFile.FieldType)).before args0 about1=true:=code_word (m:=⟨11,1⟩) (meth:=k11m1) (c:=k11c1) (by decide+kernel) rfl rfl rfl (by decide+kernel)
set_option maxRecDepth 65536 in
theorem w_c48:(Jvm.Cond.code ({cls:="java/math/BigInteger",name:="multiplyToLen",desc:="([II[II[I)[I"}:Jvm.MethodName) jdk_2097_method_45_code (5:Nat) (Option.some (Jvm.ClassFile.FieldType.array Jvm.ClassFile.FieldType.int))).before args0 about1=true:=code_word (m:=⟨7,8⟩) (meth:=k7m8) (c:=k7c8) (by decide+kernel) rfl rfl rfl (by decide+kernel)
set_option maxRecDepth 65536 in
theorem w_c49:(Jvm.Cond.code ({cls:="java/math/BigInteger",name:="multiplyToLenCheck",desc:="([II)V"}:Jvm.MethodName) jdk_2097_method_47_code (2:Nat) (Option.none:Option Jvm.ClassFile.FieldType)).before args0 about1=true:=code_word (m:=⟨7,10⟩) (meth:=k7m10) (c:=k7c10) (by decide+kernel) rfl rfl rfl (by decide+kernel)
set_option maxRecDepth 65536 in
theorem w_c50:(Jvm.Cond.code ({cls:="java/util/Objects",name:="requireNonNull",desc:="(Ljava/lang/Object;)Ljava/lang/Object;"}:Jvm.MethodName) jdk_31_method_10_code (1:Nat) (Option.some (Jvm.ClassFile.FieldType.object "java/lang/Object"))).before args0 about1=true:=code_word (m:=⟨15,1⟩) (meth:=k15m1) (c:=k15c1) (by decide+kernel) rfl rfl rfl (by decide+kernel)
set_option maxRecDepth 65536 in
theorem w_c51:(Jvm.Cond.code ({cls:="java/math/BigInteger",name:="implMultiplyToLen",desc:="([II[II[I)[I"}:Jvm.MethodName) jdk_2097_method_46_code (14:Nat) (Option.some (Jvm.ClassFile.FieldType.array Jvm.ClassFile.FieldType.int))).before args0 about1=true:=code_word (m:=⟨7,9⟩) (meth:=k7m9) (c:=k7c9) (by decide+kernel) rfl rfl rfl (by decide+kernel)
set_option maxRecDepth 65536 in
theorem w_c52:(Jvm.Cond.code ({cls:="java/math/BigInteger",name:="trustedStripLeadingZeroInts",desc:="([I)[I"}:Jvm.MethodName) jdk_2097_method_140_code (3:Nat) (Option.some (Jvm.ClassFile.FieldType.array Jvm.ClassFile.FieldType.int))).before args0 about1=true:=code_word (m:=⟨7,20⟩) (meth:=k7m20) (c:=k7c20) (by decide+kernel) rfl rfl rfl (by decide+kernel)
set_option maxRecDepth 65536 in
theorem w_c53:(Jvm.Cond.code ({cls:="java/math/MutableBigInteger",name:="divideMagnitude",desc:="(Ljava/math/MutableBigInteger;Ljava/math/MutableBigInteger;Z)Ljava/math/MutableBigInteger;"}:Jvm.MethodName) jdk_2101_method_65_code (28:Nat) (Option.some (Jvm.ClassFile.FieldType.object "java/math/MutableBigInteger"))).before args0 about1=true:=code_word (m:=⟨13,16⟩) (meth:=k13m16) (c:=k13c16) (by decide+kernel) rfl rfl rfl (by decide+kernel)
set_option maxRecDepth 65536 in
theorem w_c54:(Jvm.Cond.code ({cls:="java/math/MutableBigInteger",name:="copyAndShift",desc:="([III[III)V"}:Jvm.MethodName) jdk_2101_method_64_code (10:Nat) (Option.none:Option Jvm.ClassFile.FieldType)).before args0 about1=true:=code_word (m:=⟨13,15⟩) (meth:=k13m15) (c:=k13c15) (by decide+kernel) rfl rfl rfl (by decide+kernel)
set_option maxRecDepth 65536 in
theorem w_c55:(Jvm.Cond.code ({cls:="java/math/MutableBigInteger",name:="unsignedLongCompare",desc:="(JJ)Z"}:Jvm.MethodName) jdk_2101_method_69_code (5:Nat) (Option.some Jvm.ClassFile.FieldType.boolean)).before args0 about1=true:=code_word (m:=⟨13,17⟩) (meth:=k13m17) (c:=k13c17) (by decide+kernel) rfl rfl rfl (by decide+kernel)
set_option maxRecDepth 65536 in
theorem w_c56:(Jvm.Cond.code ({cls:="java/math/MutableBigInteger",name:="mulsub",desc:="([I[IIII)I"}:Jvm.MethodName) jdk_2101_method_39_code (15:Nat) (Option.some Jvm.ClassFile.FieldType.int)).before args0 about1=true:=code_word (m:=⟨13,10⟩) (meth:=k13m10) (c:=k13c10) (by decide+kernel) rfl rfl rfl (by decide+kernel)
set_option maxRecDepth 65536 in
theorem w_c57:(Jvm.Cond.code ({cls:="java/math/MutableBigInteger",name:="rightShift",desc:="(I)V"}:Jvm.MethodName) jdk_2101_method_35_code (5:Nat) (Option.none:Option Jvm.ClassFile.FieldType)).before args0 about1=true:=code_word (m:=⟨13,9⟩) (meth:=k13m9) (c:=k13c9) (by decide+kernel) rfl rfl rfl (by decide+kernel)
set_option maxRecDepth 65536 in
theorem w_c58:(Jvm.Cond.code ({cls:="java/math/BigInteger",name:="bitLengthForInt",desc:="(I)I"}:Jvm.MethodName) jdk_2097_method_74_code (1:Nat) (Option.some Jvm.ClassFile.FieldType.int)).before args0 about1=true:=code_word (m:=⟨7,13⟩) (meth:=k7m13) (c:=k7c13) (by decide+kernel) rfl rfl rfl (by decide+kernel)
set_option maxRecDepth 65536 in
theorem w_c59:(Jvm.Cond.code ({cls:="java/math/MutableBigInteger",name:="primitiveLeftShift",desc:="(I)V"}:Jvm.MethodName) jdk_2101_method_42_code (8:Nat) (Option.none:Option Jvm.ClassFile.FieldType)).before args0 about1=true:=code_word (m:=⟨13,11⟩) (meth:=k13m11) (c:=k13c11) (by decide+kernel) rfl rfl rfl (by decide+kernel)
set_option maxRecDepth 65536 in
theorem w_c60:(Jvm.Cond.code ({cls:="java/math/MutableBigInteger",name:="divWord",desc:="(JI)J"}:Jvm.MethodName) jdk_2101_method_70_code (9:Nat) (Option.some Jvm.ClassFile.FieldType.long)).before args0 about1=true:=code_word (m:=⟨13,18⟩) (meth:=k13m18) (c:=k13c18) (by decide+kernel) rfl rfl rfl (by decide+kernel)
def codes1:List Jvm.Cond:= [Jvm.Cond.code x code maxLocals ret,Jvm.Cond.code ({cls:="java/lang/Math",name:="max",desc:="(JJ)J"}:Jvm.MethodName) jdk_29_method_66_code (4:Nat) (Option.some Jvm.ClassFile.FieldType.long),Jvm.Cond.code ({cls:="com/example/nuthatch/nuthatch/ArgumentsRequireFillMillisPinLaw",name:="cmp",desc:="(JJJJ)I"}:Jvm.MethodName) method_4_code (16:Nat) (Option.some Jvm.ClassFile.FieldType.int),Jvm.Cond.code ({cls:="com/example/nuthatch/nuthatch/ArgumentsRequireFillMillisPinLaw",name:="high",desc:="(JJ)J"}:Jvm.MethodName) method_2_code (20:Nat) (Option.some Jvm.ClassFile.FieldType.long),Jvm.Cond.code ({cls:="com/example/nuthatch/nuthatch/ArgumentsRequireFillMillisPinLaw",name:="low",desc:="(JJ)J"}:Jvm.MethodName) method_3_code (18:Nat) (Option.some Jvm.ClassFile.FieldType.long),Jvm.Cond.code ({cls:="com/example/nuthatch/nuthatch/Arguments",name:="requireFillMillis",desc:="(JJJ)J"}:Jvm.MethodName) prog_1_method_4_code (8:Nat) (Option.some Jvm.ClassFile.FieldType.long),Jvm.Cond.code ({cls:="java/math/BigInteger",name:="valueOf",desc:="(J)Ljava/math/BigInteger;"}:Jvm.MethodName) jdk_2097_method_29_code (2:Nat) (Option.some (Jvm.ClassFile.FieldType.object "java/math/BigInteger")),Jvm.Cond.code ({cls:="java/math/BigInteger",name:="multiply",desc:="(Ljava/math/BigInteger;)Ljava/math/BigInteger;"}:Jvm.MethodName) jdk_2097_method_40_code (2:Nat) (Option.some (Jvm.ClassFile.FieldType.object "java/math/BigInteger")),Jvm.Cond.code ({cls:="java/math/BigInteger",name:="multiply",desc:="(Ljava/math/BigInteger;ZZI)Ljava/math/BigInteger;"}:Jvm.MethodName) jdk_2097_method_42_code (9:Nat) (Option.some (Jvm.ClassFile.FieldType.object "java/math/BigInteger")),Jvm.Cond.code ({cls:="java/math/BigInteger",name:="multiplyByInt",desc:="([III)Ljava/math/BigInteger;"}:Jvm.MethodName) jdk_2097_method_43_code (13:Nat) (Option.some (Jvm.ClassFile.FieldType.object "java/math/BigInteger")),Jvm.Cond.code ({cls:="java/lang/Integer",name:="bitCount",desc:="(I)I"}:Jvm.MethodName) jdk_33_method_49_code (1:Nat) (Option.some Jvm.ClassFile.FieldType.int),Jvm.Cond.code ({cls:="java/util/Arrays",name:="copyOfRange",desc:="([III)[I"}:Jvm.MethodName) jdk_65_method_136_code (3:Nat) (Option.some (Jvm.ClassFile.FieldType.array Jvm.ClassFile.FieldType.int)),Jvm.Cond.code ({cls:="java/util/Arrays",name:="copyOfRangeInt",desc:="([III)[I"}:Jvm.MethodName) jdk_65_method_137_code (5:Nat) (Option.some (Jvm.ClassFile.FieldType.array Jvm.ClassFile.FieldType.int)),Jvm.Cond.code ({cls:="java/util/Arrays",name:="checkLength",desc:="(II)V"}:Jvm.MethodName) jdk_65_method_131_code (2:Nat) (Option.none:Option Jvm.ClassFile.FieldType),Jvm.Cond.code ({cls:="java/lang/Math",name:="min",desc:="(II)I"}:Jvm.MethodName) jdk_29_method_69_code (2:Nat) (Option.some Jvm.ClassFile.FieldType.int),Jvm.Cond.code ({cls:="java/math/BigInteger",name:="<init>",desc:="([II)V"}:Jvm.MethodName) jdk_2097_method_25_code (3:Nat) (Option.none:Option Jvm.ClassFile.FieldType),Jvm.Cond.code ({cls:="java/lang/Number",name:="<init>",desc:="()V"}:Jvm.MethodName) jdk_18_method_1_code (1:Nat) (Option.none:Option Jvm.ClassFile.FieldType),Jvm.Cond.code ({cls:="java/lang/Object",name:="<init>",desc:="()V"}:Jvm.MethodName) object_method_1_code (1:Nat) (Option.none:Option Jvm.ClassFile.FieldType),Jvm.Cond.code ({cls:="java/math/BigInteger",name:="<init>",desc:="(J)V"}:Jvm.MethodName) jdk_2097_method_30_code (4:Nat) (Option.none:Option Jvm.ClassFile.FieldType),Jvm.Cond.code ({cls:="java/math/BigInteger",name:="divideAndRemainder",desc:="(Ljava/math/BigInteger;)[Ljava/math/BigInteger;"}:Jvm.MethodName) jdk_2097_method_63_code (2:Nat) (Option.some (Jvm.ClassFile.FieldType.array (Jvm.ClassFile.FieldType.object "java/math/BigInteger"))),Jvm.Cond.code ({cls:="java/math/BigInteger",name:="divideAndRemainderKnuth",desc:="(Ljava/math/BigInteger;)[Ljava/math/BigInteger;"}:Jvm.MethodName) jdk_2097_method_64_code (7:Nat) (Option.some (Jvm.ClassFile.FieldType.array (Jvm.ClassFile.FieldType.object "java/math/BigInteger"))),Jvm.Cond.code ({cls:="java/math/MutableBigInteger",name:="<init>",desc:="()V"}:Jvm.MethodName) jdk_2101_method_1_code (1:Nat) (Option.none:Option Jvm.ClassFile.FieldType),Jvm.Cond.code ({cls:="java/math/MutableBigInteger",name:="<init>",desc:="([I)V"}:Jvm.MethodName) jdk_2101_method_3_code (2:Nat) (Option.none:Option Jvm.ClassFile.FieldType),Jvm.Cond.code ({cls:="java/math/MutableBigInteger",name:="divideKnuth",desc:="(Ljava/math/MutableBigInteger;Ljava/math/MutableBigInteger;)Ljava/math/MutableBigInteger;"}:Jvm.MethodName) jdk_2101_method_56_code (3:Nat) (Option.some (Jvm.ClassFile.FieldType.object "java/math/MutableBigInteger")),Jvm.Cond.code ({cls:="java/math/MutableBigInteger",name:="divideKnuth",desc:="(Ljava/math/MutableBigInteger;Ljava/math/MutableBigInteger;Z)Ljava/math/MutableBigInteger;"}:Jvm.MethodName) jdk_2101_method_57_code (8:Nat) (Option.some (Jvm.ClassFile.FieldType.object "java/math/MutableBigInteger")),Jvm.Cond.code ({cls:="java/math/MutableBigInteger",name:="compare",desc:="(Ljava/math/MutableBigInteger;)I"}:Jvm.MethodName) jdk_2101_method_15_code (8:Nat) (Option.some Jvm.ClassFile.FieldType.int),Jvm.Cond.code ({cls:="java/math/MutableBigInteger",name:="<init>",desc:="(Ljava/math/MutableBigInteger;)V"}:Jvm.MethodName) jdk_2101_method_5_code (2:Nat) (Option.none:Option Jvm.ClassFile.FieldType),Jvm.Cond.code ({cls:="java/math/MutableBigInteger",name:="toBigInteger",desc:="(I)Ljava/math/BigInteger;"}:Jvm.MethodName) jdk_2101_method_9_code (2:Nat) (Option.some (Jvm.ClassFile.FieldType.object "java/math/BigInteger")),Jvm.Cond.code ({cls:="java/math/MutableBigInteger",name:="getMagnitudeArray",desc:="()[I"}:Jvm.MethodName) jdk_2101_method_7_code (2:Nat) (Option.some (Jvm.ClassFile.FieldType.array Jvm.ClassFile.FieldType.int)),Jvm.Cond.code ({cls:="java/math/BigInteger",name:="signum",desc:="()I"}:Jvm.MethodName) jdk_2097_method_81_code (1:Nat) (Option.some Jvm.ClassFile.FieldType.int),Jvm.Cond.code ({cls:="java/math/BigInteger",name:="add",desc:="(Ljava/math/BigInteger;)Ljava/math/BigInteger;"}:Jvm.MethodName) jdk_2097_method_32_code (4:Nat) (Option.some (Jvm.ClassFile.FieldType.object "java/math/BigInteger")),Jvm.Cond.code ({cls:="java/math/BigInteger",name:="compareTo",desc:="(Ljava/math/BigInteger;)I"}:Jvm.MethodName) jdk_2097_method_121_code (2:Nat) (Option.some Jvm.ClassFile.FieldType.int),Jvm.Cond.code ({cls:="java/math/BigInteger",name:="compareMagnitude",desc:="(Ljava/math/BigInteger;)I"}:Jvm.MethodName) jdk_2097_method_122_code (9:Nat) (Option.some Jvm.ClassFile.FieldType.int),Jvm.Cond.code ({cls:="java/math/BigInteger",name:="longValue",desc:="()J"}:Jvm.MethodName) jdk_2097_method_136_code (4:Nat) (Option.some Jvm.ClassFile.FieldType.long),Jvm.Cond.code ({cls:="java/math/BigInteger",name:="getInt",desc:="(I)I"}:Jvm.MethodName) jdk_2097_method_148_code (3:Nat) (Option.some Jvm.ClassFile.FieldType.int),Jvm.Cond.code ({cls:="java/math/BigInteger",name:="signInt",desc:="()I"}:Jvm.MethodName) jdk_2097_method_147_code (1:Nat) (Option.some Jvm.ClassFile.FieldType.int),Jvm.Cond.code ({cls:="java/lang/Integer",name:="numberOfTrailingZeros",desc:="(I)I"}:Jvm.MethodName) jdk_33_method_48_code (2:Nat) (Option.some Jvm.ClassFile.FieldType.int),Jvm.Cond.code ({cls:="java/math/BigInteger",name:="shiftLeft",desc:="([II)[I"}:Jvm.MethodName) jdk_2097_method_102_code (10:Nat) (Option.some (Jvm.ClassFile.FieldType.array Jvm.ClassFile.FieldType.int)),Jvm.Cond.code ({cls:="java/math/MutableBigInteger",name:="clear",desc:="()V"}:Jvm.MethodName) jdk_2101_method_13_code (3:Nat) (Option.none:Option Jvm.ClassFile.FieldType),Jvm.Cond.code ({cls:="java/math/MutableBigInteger",name:="divideOneWord",desc:="(ILjava/math/MutableBigInteger;)I"}:Jvm.MethodName) jdk_2101_method_53_code (15:Nat) (Option.some Jvm.ClassFile.FieldType.int),Jvm.Cond.code ({cls:="java/lang/Integer",name:="numberOfLeadingZeros",desc:="(I)I"}:Jvm.MethodName) jdk_33_method_47_code (2:Nat) (Option.some Jvm.ClassFile.FieldType.int),Jvm.Cond.code ({cls:="java/math/MutableBigInteger",name:="normalize",desc:="()V"}:Jvm.MethodName) jdk_2101_method_21_code (4:Nat) (Option.none:Option Jvm.ClassFile.FieldType),Jvm.Cond.code ({cls:="java/math/MutableBigInteger",name:="<init>",desc:="(I)V"}:Jvm.MethodName) jdk_2101_method_2_code (2:Nat) (Option.none:Option Jvm.ClassFile.FieldType),Jvm.Cond.code ({cls:="java/math/BigInteger",name:="add",desc:="([I[I)[I"}:Jvm.MethodName) jdk_2097_method_35_code (9:Nat) (Option.some (Jvm.ClassFile.FieldType.array Jvm.ClassFile.FieldType.int)),Jvm.Cond.code ({cls:="java/util/Objects",name:="checkFromToIndex",desc:="(III)I"}:Jvm.MethodName) jdk_31_method_18_code (3:Nat) (Option.some Jvm.ClassFile.FieldType.int),Jvm.Cond.code ({cls:="jdk/internal/util/Preconditions",name:="checkFromToIndex",desc:="(IIILjava/util/function/BiFunction;)I"}:Jvm.MethodName) jdk_41_method_12_code (4:Nat) (Option.some Jvm.ClassFile.FieldType.int),Jvm.Cond.code ({cls:="java/math/BigInteger",name:="shiftLeftImplWorker",desc:="([I[IIII)V"}:Jvm.MethodName) jdk_2097_method_103_code (7:Nat) (Option.none:Option Jvm.ClassFile.FieldType),Jvm.Cond.code ({cls:="java/util/Arrays",name:="fill",desc:="([II)V"}:Jvm.MethodName) jdk_65_method_103_code (4:Nat) (Option.none:Option Jvm.ClassFile.FieldType),Jvm.Cond.code ({cls:="java/math/BigInteger",name:="multiplyToLen",desc:="([II[II[I)[I"}:Jvm.MethodName) jdk_2097_method_45_code (5:Nat) (Option.some (Jvm.ClassFile.FieldType.array Jvm.ClassFile.FieldType.int)),Jvm.Cond.code ({cls:="java/math/BigInteger",name:="multiplyToLenCheck",desc:="([II)V"}:Jvm.MethodName) jdk_2097_method_47_code (2:Nat) (Option.none:Option Jvm.ClassFile.FieldType),Jvm.Cond.code ({cls:="java/util/Objects",name:="requireNonNull",desc:="(Ljava/lang/Object;)Ljava/lang/Object;"}:Jvm.MethodName) jdk_31_method_10_code (1:Nat) (Option.some (Jvm.ClassFile.FieldType.object "java/lang/Object")),Jvm.Cond.code ({cls:="java/math/BigInteger",name:="implMultiplyToLen",desc:="([II[II[I)[I"}:Jvm.MethodName) jdk_2097_method_46_code (14:Nat) (Option.some (Jvm.ClassFile.FieldType.array Jvm.ClassFile.FieldType.int)),Jvm.Cond.code ({cls:="java/math/BigInteger",name:="trustedStripLeadingZeroInts",desc:="([I)[I"}:Jvm.MethodName) jdk_2097_method_140_code (3:Nat) (Option.some (Jvm.ClassFile.FieldType.array Jvm.ClassFile.FieldType.int)),Jvm.Cond.code ({cls:="java/math/MutableBigInteger",name:="divideMagnitude",desc:="(Ljava/math/MutableBigInteger;Ljava/math/MutableBigInteger;Z)Ljava/math/MutableBigInteger;"}:Jvm.MethodName) jdk_2101_method_65_code (28:Nat) (Option.some (Jvm.ClassFile.FieldType.object "java/math/MutableBigInteger")),Jvm.Cond.code ({cls:="java/math/MutableBigInteger",name:="copyAndShift",desc:="([III[III)V"}:Jvm.MethodName) jdk_2101_method_64_code (10:Nat) (Option.none:Option Jvm.ClassFile.FieldType),Jvm.Cond.code ({cls:="java/math/MutableBigInteger",name:="unsignedLongCompare",desc:="(JJ)Z"}:Jvm.MethodName) jdk_2101_method_69_code (5:Nat) (Option.some Jvm.ClassFile.FieldType.boolean),Jvm.Cond.code ({cls:="java/math/MutableBigInteger",name:="mulsub",desc:="([I[IIII)I"}:Jvm.MethodName) jdk_2101_method_39_code (15:Nat) (Option.some Jvm.ClassFile.FieldType.int),Jvm.Cond.code ({cls:="java/math/MutableBigInteger",name:="rightShift",desc:="(I)V"}:Jvm.MethodName) jdk_2101_method_35_code (5:Nat) (Option.none:Option Jvm.ClassFile.FieldType),Jvm.Cond.code ({cls:="java/math/BigInteger",name:="bitLengthForInt",desc:="(I)I"}:Jvm.MethodName) jdk_2097_method_74_code (1:Nat) (Option.some Jvm.ClassFile.FieldType.int),Jvm.Cond.code ({cls:="java/math/MutableBigInteger",name:="primitiveLeftShift",desc:="(I)V"}:Jvm.MethodName) jdk_2101_method_42_code (8:Nat) (Option.none:Option Jvm.ClassFile.FieldType),Jvm.Cond.code ({cls:="java/math/MutableBigInteger",name:="divWord",desc:="(JI)J"}:Jvm.MethodName) jdk_2101_method_70_code (9:Nat) (Option.some Jvm.ClassFile.FieldType.long)]
set_option maxRecDepth 65536 in
theorem codes_eq:words1.filter isCode=codes1:=rfl
theorem w_codes: ∀c∈words1.filter isCode,c.before args0 about1=true:=by
 rw[codes_eq]
 intro c hc
 simp only[codes1,List.mem_cons,List.not_mem_nil,or_false] at hc
 rcases hc with rfl|rfl|rfl|rfl|rfl|rfl|rfl|rfl|rfl|rfl|rfl|rfl|rfl|rfl|rfl|rfl|rfl|rfl|rfl|rfl|rfl|rfl|rfl|rfl|rfl|rfl|rfl|rfl|rfl|rfl|rfl|rfl|rfl|rfl|rfl|rfl|rfl|rfl|rfl|rfl|rfl|rfl|rfl|rfl|rfl|rfl|rfl|rfl|rfl|rfl|rfl|rfl|rfl|rfl|rfl|rfl|rfl|rfl|rfl|rfl|rfl
 ·exact w_c0
 ·exact w_c1
 ·exact w_c2
 ·exact w_c3
 ·exact w_c4
 ·exact w_c5
 ·exact w_c6
 ·exact w_c7
 ·exact w_c8
 ·exact w_c9
 ·exact w_c10
 ·exact w_c11
 ·exact w_c12
 ·exact w_c13
 ·exact w_c14
 ·exact w_c15
 ·exact w_c16
 ·exact w_c17
 ·exact w_c18
 ·exact w_c19
 ·exact w_c20
 ·exact w_c21
 ·exact w_c22
 ·exact w_c23
 ·exact w_c24
 ·exact w_c25
 ·exact w_c26
 ·exact w_c27
 ·exact w_c28
 ·exact w_c29
 ·exact w_c30
 ·exact w_c31
 ·exact w_c32
 ·exact w_c33
 ·exact w_c34
 ·exact w_c35
 ·exact w_c36
 ·exact w_c37
 ·exact w_c38
 ·exact w_c39
 ·exact w_c40
 ·exact w_c41
 ·exact w_c42
 ·exact w_c43
 ·exact w_c44
 ·exact w_c45
 ·exact w_c46
 ·exact w_c47
 ·exact w_c48
 ·exact w_c49
 ·exact w_c50
 ·exact w_c51
 ·exact w_c52
 ·exact w_c53
 ·exact w_c54
 ·exact w_c55
 ·exact w_c56
 ·exact w_c57
 ·exact w_c58
 ·exact w_c59
 ·exact w_c60
set_option maxRecDepth 65536 in
theorem w_t1:(words1.take 24).all (fun c=>isCode c||c.before args0 about1)=true:=by decide+kernel
set_option maxRecDepth 65536 in
theorem w_t2:((words1.drop 24).take 24).all (fun c=>isCode c||c.before args0 about1)=true:=by decide+kernel
set_option maxRecDepth 65536 in
theorem w_t3:(((words1.drop 24).drop 24).take 24).all (fun c=>isCode c||c.before args0 about1)=true:=by decide+kernel
set_option maxRecDepth 65536 in
theorem w_t4:((((words1.drop 24).drop 24).drop 24).take 24).all (fun c=>isCode c||c.before args0 about1)=true:=by decide+kernel
set_option maxRecDepth 65536 in
theorem w_t5:(((((words1.drop 24).drop 24).drop 24).drop 24).take 24).all (fun c=>isCode c||c.before args0 about1)=true:=by decide+kernel
set_option maxRecDepth 65536 in
theorem w_t6:((((((words1.drop 24).drop 24).drop 24).drop 24).drop 24).take 24).all (fun c=>isCode c||c.before args0 about1)=true:=by decide+kernel
set_option maxRecDepth 65536 in
theorem w_t7:(((((((words1.drop 24).drop 24).drop 24).drop 24).drop 24).drop 24).take 24).all (fun c=>isCode c||c.before args0 about1)=true:=by decide+kernel
set_option maxRecDepth 65536 in
theorem w_t8:((((((((words1.drop 24).drop 24).drop 24).drop 24).drop 24).drop 24).drop 24).take 24).all (fun c=>isCode c||c.before args0 about1)=true:=by decide+kernel
set_option maxRecDepth 65536 in
theorem w_t9:(((((((((words1.drop 24).drop 24).drop 24).drop 24).drop 24).drop 24).drop 24).drop 24).take 24).all (fun c=>isCode c||c.before args0 about1)=true:=by decide+kernel
set_option maxRecDepth 65536 in
theorem w_t10:((((((((((words1.drop 24).drop 24).drop 24).drop 24).drop 24).drop 24).drop 24).drop 24).drop 24).take 24).all (fun c=>isCode c||c.before args0 about1)=true:=by decide+kernel
set_option maxRecDepth 65536 in
theorem w_t11:(((((((((((words1.drop 24).drop 24).drop 24).drop 24).drop 24).drop 24).drop 24).drop 24).drop 24).drop 24).take 24).all (fun c=>isCode c||c.before args0 about1)=true:=by decide+kernel
set_option maxRecDepth 65536 in
theorem w_t12:((((((((((((words1.drop 24).drop 24).drop 24).drop 24).drop 24).drop 24).drop 24).drop 24).drop 24).drop 24).drop 24).take 24).all (fun c=>isCode c||c.before args0 about1)=true:=by decide+kernel
set_option maxRecDepth 65536 in
theorem w_t13:((((((((((((words1.drop 24).drop 24).drop 24).drop 24).drop 24).drop 24).drop 24).drop 24).drop 24).drop 24).drop 24).drop 24).all (fun c=>isCode c||c.before args0 about1)=true:=by decide+kernel
theorem w_tables:(allAtoms (Jvm.Cond.code x code maxLocals ret::tables_1)).before args0 about1=true:=by
 rw[allAtoms_all]
 show words1.all (fun c=>c.before args0 about1)=true
 refine all_split ?_ w_codes
 rw[←List.take_append_drop 24 words1,List.all_append,w_t1,←List.take_append_drop 24 (words1.drop 24),List.all_append,w_t2,←List.take_append_drop 24 ((words1.drop 24).drop 24),List.all_append,w_t3,←List.take_append_drop 24 (((words1.drop 24).drop 24).drop 24),List.all_append,w_t4,←List.take_append_drop 24 ((((words1.drop 24).drop 24).drop 24).drop 24),List.all_append,w_t5,←List.take_append_drop 24 (((((words1.drop 24).drop 24).drop 24).drop 24).drop 24),List.all_append,w_t6,←List.take_append_drop 24 ((((((words1.drop 24).drop 24).drop 24).drop 24).drop 24).drop 24),List.all_append,w_t7,←List.take_append_drop 24 (((((((words1.drop 24).drop 24).drop 24).drop 24).drop 24).drop 24).drop 24),List.all_append,w_t8,←List.take_append_drop 24 ((((((((words1.drop 24).drop 24).drop 24).drop 24).drop 24).drop 24).drop 24).drop 24),List.all_append,w_t9,←List.take_append_drop 24 (((((((((words1.drop 24).drop 24).drop 24).drop 24).drop 24).drop 24).drop 24).drop 24).drop 24),List.all_append,w_t10,←List.take_append_drop 24 ((((((((((words1.drop 24).drop 24).drop 24).drop 24).drop 24).drop 24).drop 24).drop 24).drop 24).drop 24),List.all_append,w_t11,←List.take_append_drop 24 (((((((((((words1.drop 24).drop 24).drop 24).drop 24).drop 24).drop 24).drop 24).drop 24).drop 24).drop 24).drop 24),List.all_append,w_t12,w_t13]
 rfl
set_option maxRecDepth 65536 in
theorem w_rest:rest_1_c.before args0 about1=true:=by decide+kernel
set_option maxRecDepth 65536 in
theorem w_case:(Jvm.Cond.and given_1 narrow_1).before args0 about1=true:=by decide+kernel
theorem w_applies:(headSpec (Jvm.Cond.code x code maxLocals ret::tables_1) room_1).applies x e0.platform about1=true:=
 (Spec.applies_iff w_frames).mpr ⟨w_running,w_runnable,w_alone,w_named,w_hears,w_ripe,w_room,w_tables⟩
theorem atStart:AtStart classFile x code maxLocals ret World_1 tables_1 room_1 Calls_1 rest_1 Pre_1 launch0 p0 e0 about1 theMethod args0 below0:=
 ⟨lists_1,trivial,launch0.admits_env _ _ _,launch0.least_env,fairChoices_fair.cas,fairChoices_fair.clock,w_frames,w_args,w_heap,w_applies,trivial,w_rest,w_case⟩
end start1
theorem witness_1:WitnessClaimed_1:=⟨start1.p0,start1.e0,start1.about1,start1.theMethod,start1.args0,start1.below0,start1.atStart⟩
end Jvm.Pilot.@@N@@
