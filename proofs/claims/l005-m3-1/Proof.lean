import JvmDerived
import JvmDerived.Pilot.@@N@@Statement
import JvmDerived.Pilot.@@N@@Code
set_option linter.unusedVariables false
set_option linter.unusedSimpArgs false
set_option maxRecDepth 65536
set_option maxHeartbeats 40000000
namespace Jvm.Pilot.@@N@@
open Jvm Jvm.ClassFile Sem Op Lib Jvm.Free Jvm.Stand Jvm.LawKit Jvm.RoadKit Bundle Jvm.Pilot.@@N@@.Jvm.D
section OwnHead
variable {p:Program}{l:Launch}{e:Env}{R:Room}{s:State}{m:MethodId}{args:Array Value}{below:List Frame}{meth:Method}{c:Code}{T T':State}{locs:List Loc}{cells slots:Nat}{Q:Option Value→Heap→List Loc→Prop}{k n:Nat}{g:JFrame}
def ay (p:Program)(e:Env)(below:List Frame)(Fin:Outcome→State→Prop)(T:State)(g:JFrame):Prop:=
 ∃s₂ o,Steps p.tables e below (T.setTop g) s₂∧s₂.status= .running∧Ended s₂ below o∧Fin o s₂
def gb (s:State)(Q:Option Value→Heap→List Loc→Prop)(k n:Nat)(o:Outcome)(t:State):Prop:= ∃v L,o= .returned v∧Q v t.heap L∧FrameEnd s o t L k n
theorem zI {Fin:Outcome→State→Prop}(h:ay p e below Fin T g): ∃s₂ o,Steps p.tables e below (T.setTop g) s₂∧s₂.status= .running∧Ended s₂ below o∧Fin o s₂:=h
theorem zJ {Fin:Outcome→State→Prop}(g':JFrame)(h: ∀{t},Steps p.tables e below (T.setTop g') t→Steps p.tables e below (T.setTop g) t)(w:ay p e below Fin T g'):ay p e below Fin T g:=by
 obtain ⟨s₂,o,h1,r⟩:=w;exact ⟨s₂,o,h h1,r⟩
theorem aG {Fin:Outcome→State→Prop}(g':JFrame)(h: ∀t,Steps p.tables e below (T'.setTop g') t→Steps p.tables e below (T.setTop g) t)(w:ay p e below Fin T' g'):ay p e below Fin T g:=by
 obtain ⟨s₂,o,h1,r⟩:=w;exact ⟨s₂,o,h _ h1,r⟩
theorem qL {Fin:Outcome→State→Prop}(g':JFrame)(h:Steps p.tables e below (T.setTop g) (T'.setTop g'))(w:ay p e below Fin T' g'):ay p e below Fin T g:=by
 obtain ⟨s₂,o,h1,r⟩:=w;exact ⟨s₂,o,h.trans h1,r⟩
theorem rW {v:Option Value}{pc:Nat}{Ls:Array Slot}{st:List Value}(X:Stand p l e R s m args below meth c T locs cells slots)(hv:meth.sig.returnType=none→v=none)(w:meth.locks=false)(hk:cells≤k)(hn:slots≤n)(hQ:Q v T.heap locs)
  (hs: ∀fs,(∀(f:JFrame) (acts:List Action),f.method=m→f.locked=none→f.entered= []→(doReturn e (T.setTop f) acts v).1=T.setFrames fs)→Steps p.tables e below (T.setTop (mkF m pc Ls st)) (T.setFrames fs)):ay p e below (gb s Q k n) T (mkF m pc Ls st):=by
 obtain ⟨fs,hr,hrun,hended,hW,hsame⟩:=X.leave (v:=v) hv w
 exact ⟨_,_,hs fs hr,hrun,hended,_,_,rfl,hQ,⟨_,rfl⟩,hW,hsame.mono hk hn⟩
theorem uE (X:Stand p l e R s m args below meth c T locs cells slots)(hx:p.tables.exec=Jvm.exec){pc:Nat}{Ls:Array Slot}{z:Int32}{t:FieldType}{rest:List Value}(w:meth.sig.returnType=some t)(ht:t= .boolean∨t= .byte∨t= .char∨t= .short)(B:meth.locks=false)
  (hd:decode c.code pc= .ok (.ireturn,1)) (hk:cells≤k) (hn:slots≤n) (hQ:Q (some (.int (nar t z))) T.heap locs):ay p e below (gb s Q k n) T (mkF m pc Ls (.int z::rest)):=
 rW X (fun h=>by rw[w] at h;cases h) B hk hn hQ fun _ hr=>retN X hx w ht hd hr
theorem Fo (X:Stand p l e R s m args below meth c T locs cells slots)(hx:p.tables.exec=Jvm.exec){pc:Nat}{Ls:Array Slot}{z:Int32}{rest:List Value}(w:meth.sig.returnType=some .int)(B:meth.locks=false)
  (hd:decode c.code pc= .ok (.ireturn,1)) (hk:cells≤k) (hn:slots≤n) (hQ:Q (some (.int z)) T.heap locs):ay p e below (gb s Q k n) T (mkF m pc Ls (.int z::rest)):=
 rW X (fun h=>by rw[w] at h;cases h) B hk hn hQ fun _ hr=>retOut X hx w rfl (Or.inl ⟨rfl,Or.inl rfl,_,rfl⟩) hd hr
theorem Fp (X:Stand p l e R s m args below meth c T locs cells slots)(hx:p.tables.exec=Jvm.exec){pc:Nat}{Ls:Array Slot}{z:Int64}{rest:List Value}(w:meth.sig.returnType=some .long)(B:meth.locks=false)
  (hd:decode c.code pc= .ok (.lreturn,1)) (hk:cells≤k) (hn:slots≤n) (hQ:Q (some (.long z)) T.heap locs):ay p e below (gb s Q k n) T (mkF m pc Ls (.long z::rest)):=
 rW X (fun h=>by rw[w] at h;cases h) B hk hn hQ fun _ hr=>retOut X hx w rfl (Or.inr (Or.inl ⟨rfl,rfl,_,rfl⟩)) hd hr
theorem zK (X:Stand p l e R s m args below meth c T locs cells slots)(hx:p.tables.exec=Jvm.exec){pc:Nat}{Ls:Array Slot}{w:Value}{t:FieldType}{rest:List Value}(B:meth.sig.returnType=some t)(ht:t.isReference=true)(F:meth.locks=false)
  (hd:decode c.code pc= .ok (.areturn,1)) (hw:w.isRef=true) (hk:cells≤k) (hn:slots≤n) (hQ:Q (some w) T.heap locs):ay p e below (gb s Q k n) T (mkF m pc Ls (w::rest)):=
 rW X (fun h=>by rw[B] at h;cases h) F hk hn hQ fun _ hr=>retOut X hx B (by cases t<;>first|rfl|cases ht) (Or.inr (Or.inr (Or.inr (Or.inr ⟨rfl,ht,hw⟩)))) hd hr
theorem Fq (X:Stand p l e R s m args below meth c T locs cells slots)(hx:p.tables.exec=Jvm.exec){pc:Nat}{Ls:Array Slot}(w:meth.sig.returnType=none)(B:meth.locks=false)
  (hd:decode c.code pc= .ok (.return_,1)) (hk:cells≤k) (hn:slots≤n) (hQ:Q none T.heap locs):ay p e below (gb s Q k n) T (mkF m pc Ls []):=
 rW X (fun _=>rfl) B hk hn hQ fun _ hr=>X.returnOut hx w hd hr
theorem zL (x:Int32): ¬x<x:=Int32.lt_irrefl
end OwnHead
section OwnWords
variable {args:Array Value}{s:State}{t:Term}{C n d:String}{a:Addr}
theorem zM {k:Int32}(ht:t.eval args s none [] s=some (.ref a))(h:(Jvm.Cond.eq (Term.field t C n d) (Term.int k)).value args s none s []=some true):Fld s s.heap a C n d (.int k):=by
 obtain ⟨x,y,e1,e2,-,k2⟩:=cmp_v (Or.inl h)
 have q:y= .int k:=Option.some.inj (e2.symm.trans (Term.int_eval k))
 subst q
 obtain ⟨z,rfl⟩:=k2
 have q:=gotT (Cond.eq_ints e1 (Term.int_eval k)) h
 subst q
 exact Fld.start ((fld_at ht).symm.trans e1)
end OwnWords
section OwnWide
variable {p:Program}{l:Launch}{e:Env}{R:Room}{s:State}{m:MethodId}{args:Array Value}{below:List Frame}{meth:Method}{c:Code}{T T':State}{locs:List Loc}{cells slots:Nat}{Q:Option Value→Heap→List Loc→Prop}{k n:Nat}{g:JFrame}{vm₁:Vm}{k1:Nat}
end OwnWide
section OwnCalls
variable {p:Program}{l:Launch}{e:Env}{R:Room}{s:State}{m:MethodId}{args:Array Value}{below:List Frame}{meth:Method}{c:Code}{T:State}{locs:List Loc}{cells slots:Nat}
theorem qg (X:Stand p l e R s m args below meth c T locs cells slots)(hexec:p.tables.exec=Jvm.exec){own:String}{index:Nat}{y:MethodName}{bytes:ByteArray}{maxL:Nat}{ret:Option FieldType}
  (w:s.vm.findClass own=some m.cls) (hlink:(Jvm.Cond.methodLink own index y).before args s=true) (hstat:(Jvm.Cond.static y).before args s=true) (hinit:(Jvm.Cond.initialized y.cls).before args s=true)
  (hcode:(Jvm.Cond.code y bytes maxL ret).before args s=true) (hy:y.cls≠"java/lang/invoke/MethodHandle"∧y.cls≠"java/lang/invoke/VarHandle")
  {W:Nat} {as':Array Value} {h:Heap} {rc rs:Nat} {Q:Option Value→Heap→List Loc→Prop} (hK:Back l R p e below s args y 3 W (fun A a=>a=as'∧A.U.heap=h∧A.cells+rc≤R.cells∧A.slots+rs≤R.slots) (fun A _ v B=> ∃L,Q v B.U.heap L∧B.locs=A.locs++L∧B.cells=A.cells+rc∧B.slots=A.slots+rs))
  {g:JFrame} (hg:g.method=m) (hsize:g.locals.size=c.maxLocals) {argsL rest:List Value} (hlen: ∀sig,parseMethodDescriptor y.desc=some sig→argsL.length=sig.parameters.length)
  (hstack:g.stack=argsL.reverse++rest) (hW:2*g.monitorRoom+(rest.map fun v=>v.category).sum≤W) (hdg:decode c.code g.pc= .ok (.invokestatic index,3))
  (ha:argsL.toArray=as') (eT:T.heap=h) {kc ks:Nat} (hkc:cells+rc=kc) (hks:slots+rs=ks) (hc:kc≤R.cells) (hs:ks≤R.slots):
  ∃(v:Option Value) (T':State) (Lc:List Loc),Stand p l e R s m args below meth c T' (locs++Lc) kc ks∧Q v T'.heap Lc∧ ∀target,Steps p.tables e below (T'.setTop {g with pc:=g.pc+3,stack:=v.toList++rest}) target→Steps p.tables e below (T.setTop g) target:=by
 subst hkc hks
 obtain ⟨v,vm₁,⟨T',L',k',n'⟩,-,X',⟨Lc,hQ,l',y',z'⟩,st⟩:=Jvm.LawKit.callS X hexec w hlink hstat hinit hcode hy hK hg hsize hlen hstack hW hdg (fun _ _=>⟨ha,eT,hc,hs⟩)
 dsimp only[Pt.U,Pt.locs,Pt.cells,Pt.slots] at X' l' y' z' st hQ
 subst l' y' z'
 exact ⟨v,T',Lc,X',hQ,st⟩
theorem Ft (X:Stand p l e R s m args below meth c T locs cells slots)(hexec:p.tables.exec=Jvm.exec){own:String}{index:Nat}{y:MethodName}(hy1:y.name="<init>")
  (w:s.vm.findClass own=some m.cls) (hlink:(Jvm.Cond.methodLink own index y).before args s=true) (hinst:(Jvm.Cond.instanceMethod y).before args s=true)
  {bytes:ByteArray} {maxL:Nat} (hcode:(Jvm.Cond.code y bytes maxL none).before args s=true) (hy:y.cls≠"java/lang/invoke/MethodHandle"∧y.cls≠"java/lang/invoke/VarHandle")
  {W:Nat} {as':Array Value} {h:Heap} {rc rs:Nat} {Q:Option Value→Heap→List Loc→Prop} (hK:Back l R p e below s args y 3 W (fun A a=>a=as'∧A.U.heap=h∧A.cells+rc≤R.cells∧A.slots+rs≤R.slots) (fun A _ v B=> ∃L,Q v B.U.heap L∧B.locs=A.locs++L∧B.cells=A.cells+rc∧B.slots=A.slots+rs))
  {g:JFrame} (hg:g.method=m) (hsize:g.locals.size=c.maxLocals) {a:Addr} {argsL rest:List Value}
  (hlen: ∀sig,parseMethodDescriptor y.desc=some sig→argsL.length=sig.parameters.length) (hstack:g.stack=argsL.reverse++ .ref a::rest) (hW:2*g.monitorRoom+(rest.map fun v=>v.category).sum≤W)
  (hdg:decode c.code g.pc= .ok (.invokespecial index,3)) (ha:(Value.ref a::argsL).toArray=as') (eT:T.heap=h) {kc ks:Nat} (hkc:cells+rc=kc) (hks:slots+rs=ks) (hc:kc≤R.cells) (hs:ks≤R.slots):
  ∃(v:Option Value) (T':State) (Lc:List Loc),Stand p l e R s m args below meth c T' (locs++Lc) kc ks∧Q v T'.heap Lc∧Steps p.tables e below (T.setTop g) (T'.setTop {g with pc:=g.pc+3,stack:=v.toList++rest}):=by
 subst hkc hks
 obtain ⟨v,vm₁,⟨T',L',k',n'⟩,-,X',⟨Lc,hQ,l',y',z'⟩,st⟩:=X.specialBack hexec hy1 w hlink hinst hcode hy hK hg hsize (Steps.refl _) hlen hstack hW hdg (fun _ _=>⟨ha,eT,hc,hs⟩)
 dsimp only[Pt.U,Pt.locs,Pt.cells,Pt.slots] at X' l' y' z' st hQ
 subst l' y' z'
 exact ⟨v,T',Lc,X',hQ,st⟩
theorem rX (X:Stand p l e R s m args below meth c T locs cells slots)(hexec:p.tables.exec=Jvm.exec){own C:String}{index:Nat}{y z:MethodName}
  (w:s.vm.findClass own=some m.cls) (hlink:(Jvm.Cond.methodLink own index y).before args s=true) (hdecl:(Jvm.Cond.declares y).before args s=true) (hnf:NotFace s y)
  (hsel:(Jvm.Cond.selects C y z).before args s=true) (hinst:(Jvm.Cond.instanceMethod z).before args s=true) (hy:y.cls≠"java/lang/invoke/MethodHandle"∧y.cls≠"java/lang/invoke/VarHandle")
  {W:Nat} {as':Array Value} {h:Heap} {rc rs:Nat} {Q:Option Value→Heap→List Loc→Prop} (hK:Back l R p e below s args z 3 W (fun A a=>a=as'∧A.U.heap=h∧A.cells+rc≤R.cells∧A.slots+rs≤R.slots) (fun A _ v B=> ∃L,Q v B.U.heap L∧B.locs=A.locs++L∧B.cells=A.cells+rc∧B.slots=A.slots+rs))
  {b:Addr} {cB:ClassId} (hcB:s.vm.findClass C=some cB) (hrecv:IsOf cB T b)
  {g:JFrame} (hg:g.method=m) (hsize:g.locals.size=c.maxLocals) {argsL rest:List Value}
  (hlen: ∀sig,parseMethodDescriptor y.desc=some sig→argsL.length=sig.parameters.length) (hstack:g.stack=argsL.reverse++ .ref b::rest) (hW:2*g.monitorRoom+(rest.map fun v=>v.category).sum≤W)
  (hdg:decode c.code g.pc= .ok (.invokevirtual index,3)) (ha:(Value.ref b::argsL).toArray=as') (eT:T.heap=h) {kc ks:Nat} (hkc:cells+rc=kc) (hks:slots+rs=ks) (hc:kc≤R.cells) (hs:ks≤R.slots):
  ∃(v:Option Value) (T':State) (Lc:List Loc),Stand p l e R s m args below meth c T' (locs++Lc) kc ks∧Q v T'.heap Lc∧Steps p.tables e below (T.setTop g) (T'.setTop {g with pc:=g.pc+3,stack:=v.toList++rest}):=by
 subst hkc hks
 obtain ⟨v,vm₁,⟨T',L',k',n'⟩,-,X',⟨Lc,hQ,l',y',z'⟩,st⟩:=X.virtualBack hexec w hlink hdecl hnf hsel hinst hy hK hcB hrecv hg hsize (Steps.refl _) hlen hstack hW hdg (fun _ _=>⟨ha,eT,hc,hs⟩)
 dsimp only[Pt.U,Pt.locs,Pt.cells,Pt.slots] at X' l' y' z' st hQ
 subst l' y' z'
 exact ⟨v,T',Lc,X',hQ,st⟩
end OwnCalls
abbrev bp (l:Launch)(y:MethodName)(cs:List Jvm.Cond)(R:Room)(A:Array Value)(Z:State)(h0:Heap)(Q:Option Value→Heap→List Loc→Prop):Prop:=
 MetFree l y (head1 cs R) (fun w U=>w=A∧Z.Warmed39 U.vm∧U.heap=h0) (fun _ _ _ _ _=>True) (fun _ U o U'=> ∃v L,o= .returned v∧Q v U'.heap L∧FrameEnd U o U' L R.cells R.slots)
theorem fj {c:Code}{b:ByteArray}{xs:List (Nat×Jvm.ClassFile.Instr×Nat)}(w:c.code=b)(H: ∀x∈xs,decode b x.1= .ok (x.2.1,x.2.2))(k:Nat){pc:Nat}{i:Jvm.ClassFile.Instr}{n:Nat}(h:xs[k]? =some (pc,i,n)):decode c.code pc= .ok (i,n):=by
 rw[w];exact H (pc,i,n) (List.mem_of_getElem? h)
theorem bI {l:Launch}{y:MethodName}{bytes:ByteArray}{maxL:Nat}{ret:Option FieldType}{ws:List Jvm.Cond}{R:Room}{A:Array Value}{Z:State}{h0:Heap}{Q:Option Value→Heap→List Loc→Prop}{L0:Array Slot}(hp:plainFor y=true)(hef: ∀m,entryFrame m A maxL=mkF m 0 L0 [])
  (body: ∀(p:Program) (e:Env) (s:State) (m:MethodId) (below:List Frame) (meth:Method) (c:Code) (s₁:State),p.tables.exec=Jvm.exec→c.code=bytes→meth.locks=false→c.maxLocals=maxL→s.vm.findClass y.cls=some m.cls→meth.name=y.name→meth.sig.returnType=ret→Stand p l e R s m A below meth c s₁ [] 0 0→Z.Warmed39 s.vm→s₁.heap=h0→ay p e below (gb s Q R.cells R.slots) s₁ (mkF m 0 L0 [])):bp l y (Jvm.Cond.code y bytes maxL ret::ws) R A Z h0 Q:=by
 refine MetFree.of_bodySF hp hisR ?_
 intro p e s m args below meth c s₁ Bd hml0 hP hK
 obtain ⟨rfl,hZ,hh⟩:=hP
 have b:=body p e s m below meth c s₁ Bd.exec Bd.bytes (BodyLoose.notSynchronized Bd) hml0 (findClass_of_methodNamed Bd.named) (name_of_methodNamed Bd.named Bd.method).1 Bd.returns (Stand.of_body Bd) hZ (by rw[←hh,Bd.state];rfl)
 exact zI (zJ (mkF m 0 L0 []) (castTop (hef m)) b)
section OwnStep
variable {p:Program}{l:Launch}{e:Env}{R:Room}{s:State}{m:MethodId}{args:Array Value}{below:List Frame}{meth:Method}{c:Code}{T:State}{locs:List Loc}{cells slots:Nat}{Fn:Outcome→State→Prop}{pc:Nat}{L:Array Slot}{st:List Value}{k:Nat}{kn:Fin 4}{x y z:Int32}{xl yl zl:Int64}{k2:Fin 2}{a:Value}{i o:Int}{cd:ClassFile.Cond}
theorem aj {Z:State}{a0:Array Value}{d:Jvm.Cond}(hw: ∀d∈tables_1,d.before a0 Z=true)(i:Nat)(h:tables_1[i]? =some d):d.before a0 Z=true:=hw _ (List.mem_of_getElem? h)
theorem xV (q:Nat)(X:Stand p l e R s m args below meth c T locs cells slots)(hx:p.tables.exec=Jvm.exec)(hd:decode c.code pc= .ok (.iload k,2))(hl:L[k]? =some (.val (.int x)))(hq:pc+2=q)(w:ay p e below Fn T (mkF m q L (.int x::st))):ay p e below Fn T (mkF m pc L st):=by
 subst hq;exact aG (T':=T) (mkF m (pc+2) L (.int x::st)) (fun _ j=>XS.iload X.here hx rfl hd hl j) w
theorem zO (q:Nat)(z:Int32)(X:Stand p l e R s m args below meth c T locs cells slots)(hx:p.tables.exec=Jvm.exec)(hd:decode c.code pc= .ok (.iconst i,1))(hz:Int32.ofInt i=z)(hq:pc+1=q)(w:ay p e below Fn T (mkF m q L (.int z::st))):ay p e below Fn T (mkF m pc L st):=by
 subst hq;subst hz;exact aG (T':=T) (mkF m (pc+1) L (.int (Int32.ofInt i)::st)) (fun _ j=>XS.iconst X.here hx rfl hd j) w
theorem rY (q:Nat)(z:Int32)(X:Stand p l e R s m args below meth c T locs cells slots)(hx:p.tables.exec=Jvm.exec)(hd:decode c.code pc= .ok (.bipush i,2))(hz:(Int8.ofInt i).toInt32=z)(hq:pc+2=q)(w:ay p e below Fn T (mkF m q L (.int z::st))):ay p e below Fn T (mkF m pc L st):=by
 subst hq;subst hz;exact aG (T':=T) (mkF m (pc+2) L (.int ((Int8.ofInt i).toInt32)::st)) (fun _ j=>XS.bipush X.here hx rfl hd j) w
theorem xW (q:Nat)(X:Stand p l e R s m args below meth c T locs cells slots)(hx:p.tables.exec=Jvm.exec)(hd:decode c.code pc= .ok (.iand,1))(hz:x&&&y=z)(hq:pc+1=q)(w:ay p e below Fn T (mkF m q L (.int z::st))):ay p e below Fn T (mkF m pc L (.int y:: .int x::st)):=by
 subst hq;subst hz;exact aG (T':=T) (mkF m (pc+1) L (.int (x&&&y)::st)) (fun _ j=>XS.iand X.here hx rfl hd rfl j) w
theorem zP (q:Nat)(X:Stand p l e R s m args below meth c T locs cells slots)(hx:p.tables.exec=Jvm.exec)(hd:decode c.code pc= .ok (.iushr,1))(hz:(x.toUInt32>>>(y&&&31).toUInt32).toInt32=z)(hq:pc+1=q)(w:ay p e below Fn T (mkF m q L (.int z::st))):ay p e below Fn T (mkF m pc L (.int y:: .int x::st)):=by
 subst hq;subst hz;exact aG (T':=T) (mkF m (pc+1) L (.int ((x.toUInt32>>>(y&&&31).toUInt32).toInt32)::st)) (fun _ j=>XS.iushr X.here hx rfl hd rfl j) w
theorem xX (q:Nat)(L':Array Slot)(X:Stand p l e R s m args below meth c T locs cells slots)(hx:p.tables.exec=Jvm.exec)(hd:decode c.code pc= .ok (.istore k,2))(hl:storeLocals L k (.int x)=some L')(hq:pc+2=q)(w:ay p e below Fn T (mkF m q L' st)):ay p e below Fn T (mkF m pc L (.int x::st)):=by
 subst hq;exact aG (T':=T) (mkF m (pc+2) L' st) (fun _ j=>XS.istore X.here hx rfl hd rfl hl j) w
theorem Fu (q:Nat)(L':Array Slot)(X:Stand p l e R s m args below meth c T locs cells slots)(hx:p.tables.exec=Jvm.exec)(hd:decode c.code pc= .ok (.astore k,2))(hv:a.isRef=true)(hl:storeLocals L k a=some L')(hq:pc+2=q)(w:ay p e below Fn T (mkF m q L' st)):ay p e below Fn T (mkF m pc L (a::st)):=by
 subst hq;exact aG (T':=T) (mkF m (pc+2) L' st) (fun _ j=>XS.astore X.here hx rfl hd rfl hv hl j) w
theorem uF (q:Nat)(X:Stand p l e R s m args below meth c T locs cells slots)(hx:p.tables.exec=Jvm.exec)(hd:decode c.code pc= .ok (.ifCond cd o,3))(hc:ifCond.holds cd x=false)(hq:pc+3=q)(w:ay p e below Fn T (mkF m q L st)):ay p e below Fn T (mkF m pc L (.int x::st)):=by
 subst hq;exact aG (T':=T) (mkF m (pc+3) L st) (fun _ j=>XS.ifNo X.here hx rfl hd rfl hc j) w
theorem kg (q:Nat)(X:Stand p l e R s m args below meth c T locs cells slots)(hx:p.tables.exec=Jvm.exec)(hd:decode c.code pc= .ok (.lload k,2))(hl:L[k]? =some (.val (.long xl)))(hq:pc+2=q)(w:ay p e below Fn T (mkF m q L (.long xl::st))):ay p e below Fn T (mkF m pc L st):=by
 subst hq;exact aG (T':=T) (mkF m (pc+2) L (.long xl::st)) (fun _ j=>XS.lload X.here hx rfl hd hl j) w
theorem zQ (q:Nat)(X:Stand p l e R s m args below meth c T locs cells slots)(hx:p.tables.exec=Jvm.exec)(hd:decode c.code pc= .ok (.lload_n kn,1))(hl:L[kn.val]? =some (.val (.long xl)))(hq:pc+1=q)(w:ay p e below Fn T (mkF m q L (.long xl::st))):ay p e below Fn T (mkF m pc L st):=by
 subst hq;exact aG (T':=T) (mkF m (pc+1) L (.long xl::st)) (fun _ j=>XS.lloadN X.here hx rfl hd hl j) w
theorem mY (q:Nat)(L':Array Slot)(X:Stand p l e R s m args below meth c T locs cells slots)(hx:p.tables.exec=Jvm.exec)(hd:decode c.code pc= .ok (.lstore k,2))(hl:storeLocals L k (.long xl)=some L')(hq:pc+2=q)(w:ay p e below Fn T (mkF m q L' st)):ay p e below Fn T (mkF m pc L (.long xl::st)):=by
 subst hq;exact aG (T':=T) (mkF m (pc+2) L' st) (fun _ j=>XS.lstore X.here hx rfl hd rfl hl j) w
theorem r_ (q:Nat)(zl:Int64)(X:Stand p l e R s m args below meth c T locs cells slots)(hx:p.tables.exec=Jvm.exec)(hd:decode c.code pc= .ok (.lconst k2,1))(hz:Int64.ofNat k2=zl)(hq:pc+1=q)(w:ay p e below Fn T (mkF m q L (.long zl::st))):ay p e below Fn T (mkF m pc L st):=by
 subst hq;subst hz;exact aG (T':=T) (mkF m (pc+1) L (.long (Int64.ofNat k2)::st)) (fun _ j=>XS.lconst X.here hx rfl hd j) w
theorem Fv (q:Nat)(X:Stand p l e R s m args below meth c T locs cells slots)(hx:p.tables.exec=Jvm.exec)(hd:decode c.code pc= .ok (.lsub,1))(hz:xl-yl=zl)(hq:pc+1=q)(w:ay p e below Fn T (mkF m q L (.long zl::st))):ay p e below Fn T (mkF m pc L (.long yl:: .long xl::st)):=by
 subst hq;subst hz;exact aG (T':=T) (mkF m (pc+1) L (.long (xl-yl)::st)) (fun _ j=>XS.lsub X.here hx rfl hd rfl j) w
theorem xY (q:Nat)(X:Stand p l e R s m args below meth c T locs cells slots)(hx:p.tables.exec=Jvm.exec)(hd:decode c.code pc= .ok (.land,1))(hz:xl&&&yl=zl)(hq:pc+1=q)(w:ay p e below Fn T (mkF m q L (.long zl::st))):ay p e below Fn T (mkF m pc L (.long yl:: .long xl::st)):=by
 subst hq;subst hz;exact aG (T':=T) (mkF m (pc+1) L (.long (xl&&&yl)::st)) (fun _ j=>XS.land X.here hx rfl hd rfl j) w
theorem xZ (q:Nat)(X:Stand p l e R s m args below meth c T locs cells slots)(hx:p.tables.exec=Jvm.exec)(hd:decode c.code pc= .ok (.lushr,1))(hz:(xl.toUInt64>>>(y&&&0x3f).toInt64.toUInt64).toInt64=zl)(hq:pc+1=q)(w:ay p e below Fn T (mkF m q L (.long zl::st))):ay p e below Fn T (mkF m pc L (.int y:: .long xl::st)):=by
 subst hq;subst hz;exact aG (T':=T) (mkF m (pc+1) L (.long ((xl.toUInt64>>>(y&&&0x3f).toInt64.toUInt64).toInt64)::st)) (fun _ j=>XS.lushr X.here hx rfl hd rfl j) w
theorem zR (q:Nat)(X:Stand p l e R s m args below meth c T locs cells slots)(hx:p.tables.exec=Jvm.exec)(hd:decode c.code pc= .ok (.lcmp,1))(hq:pc+1=q)(w:ay p e below Fn T (mkF m q L (.int (lcmpW xl yl)::st))):ay p e below Fn T (mkF m pc L (.long yl:: .long xl::st)):=by
 subst hq;exact aG (T':=T) (mkF m (pc+1) L (.int (lcmpW xl yl)::st)) (fun _ j=>XS.lcmp X.here hx rfl hd rfl j) w
theorem sj (q:Nat)(X:Stand p l e R s m args below meth c T locs cells slots)(hx:p.tables.exec=Jvm.exec){own:String}{v:Int64}(B:s.vm.findClass own=some m.cls)(hc:(Jvm.Cond.constantLong own k v).before args s=true)(hd:decode c.code pc= .ok (.ldc2_w k,3))(hq:pc+3=q)(w:ay p e below Fn T (mkF m q L (.long v::st))):ay p e below Fn T (mkF m pc L st):=by
 subst hq;exact aG (T':=T) (mkF m (pc+3) L (.long v::st)) (X.ldc2Long hx B hc (g:=mkF m pc L st) rfl hd) w
theorem Fx (q:Nat)(X:Stand p l e R s m args below meth c T locs cells slots)(hx:p.tables.exec=Jvm.exec)(hd:decode c.code pc= .ok (.goto o,3))(ho:0≤(pc:Int)+o)(hq:((pc:Int)+o).toNat=q)(w:ay p e below Fn T (mkF m q L st)):ay p e below Fn T (mkF m pc L st):=
 aG (T':=T) (mkF m q L st) (fun _ j=>XS.goto X.here hx rfl (pc0:=pc) rfl hd ho hq j) w
theorem zS (q:Nat)(X:Stand p l e R s m args below meth c T locs cells slots)(hx:p.tables.exec=Jvm.exec)(hd:decode c.code pc= .ok (.ifCond cd o,3))(hc:ifCond.holds cd x=true)(ho:0≤(pc:Int)+o)(hq:((pc:Int)+o).toNat=q)(w:ay p e below Fn T (mkF m q L st)):ay p e below Fn T (mkF m pc L (.int x::st)):=
 aG (T':=T) (mkF m q L st) (fun _ j=>XS.ifYes X.here hx rfl (pc0:=pc) rfl hd rfl hc ho hq j) w
end OwnStep
section OwnHeap
variable {p:Program}{l:Launch}{e:Env}{R:Room}{s:State}{m:MethodId}{args:Array Value}{below:List Frame}{meth:Method}{c:Code}{T:State}{locs:List Loc}{cells slots:Nat}{Fn:Outcome→State→Prop}{pc:Nat}{L:Array Slot}{st:List Value}{Z:State}{a0:Array Value}{h:Heap}{own O nf d C:String}{index kk:Nat}{a:Addr}{v old dv:Value}{ty:FieldType}{k:ClassId}{z j x:Int32}{vs:List Value}
theorem Fy (q:Nat)(X:Stand p l e R s m args below meth c T locs cells slots)(hx:p.tables.exec=Jvm.exec)(hZ:Z.Warmed39 s.vm)(B:s.vm.findClass own=some m.cls)(wl:(Jvm.Cond.fieldLink own index O nf d).before a0 Z=true)(eT:T.heap=h)(F:Fld Z h a O nf d v)(hd:decode c.code pc= .ok (.getfield index,3))(hq:pc+3=q)
  (w: ∀T':State,Stand p l e R s m args below meth c T' locs cells slots→T'.heap=h→ay p e below Fn T' (mkF m q L (v::st))):ay p e below Fn T (mkF m pc L (.ref a::st)):=by
 obtain ⟨T',X',e',st'⟩:=getF X hx hZ B (host:="") (Or.inl wl) Via.refl eT F (g:=mkF m pc L (.ref a::st)) rfl rfl hd
 subst hq;exact aG (T':=T') (mkF m (pc+3) L (v::st)) st' (w T' X' e')
theorem FL (q:Nat)(X:Stand p l e R s m args below meth c T locs cells slots)(hx:p.tables.exec=Jvm.exec)(hZ:Z.Warmed39 s.vm)(B:s.vm.findClass own=some m.cls)(wl:(Jvm.Cond.fieldLink own index O nf d).before a0 Z=true)(eT:T.heap=h)(F:Fld Z h a O nf d old)(E:Exa Z h a C)
  (lw:(Jvm.Cond.lays C O nf d).before a0 Z=true∨((Jvm.Cond.laysFinal C O nf d).before a0 Z=true∧own=O∧meth.name="<init>")) (wi:(Jvm.Cond.instantiable C kk).before a0 Z=true) (hty:parseFieldDescriptor d=some ty) (hn:narrow ty v=v) (hf:fits ty v=true) (hd:decode c.code pc= .ok (.putfield index,3)) (hq:pc+3=q)
  (w: ∀(T':State) (h':Heap),Stand p l e R s m args below meth c T' (locs++ [⟨a,Jvm.RoadKit.slotOf Z O nf d⟩]) cells slots→T'.heap=h'→Wr h h' a (Jvm.RoadKit.slotOf Z O nf d) v→ay p e below Fn T' (mkF m q L st)):ay p e below Fn T (mkF m pc L (v:: .ref a::st)):=by
 obtain ⟨T',h',X',e',W',st'⟩:=putF X hx hZ B (host:="") (Or.inl wl) Via.refl eT F E lw wi hty hn hf (g:=mkF m pc L (v:: .ref a::st)) rfl rfl hd
 subst hq;exact aG (T':=T') (mkF m (pc+3) L st) st' (w T' h' X' e' W')
theorem FN (q:Nat)(X:Stand p l e R s m args below meth c T locs cells slots)(hx:p.tables.exec=Jvm.exec)(hZ:Z.Warmed39 s.vm)(eT:T.heap=h)(F:Arv Z h a k ty z vs dv)(hd:decode c.code pc= .ok (.arraylength,1))(hq:pc+1=q)(w:ay p e below Fn T (mkF m q L (.int z::st))):ay p e below Fn T (mkF m pc L (.ref a::st)):=by
 obtain ⟨cl,Ar,-,S,M,-,-⟩:=F
 subst hq
 have q:=X.arraylength hx (by rw[eT];exact Ar.1) (State.isArrayOf_alike hZ.alike Ar.2.1) (g:=mkF m pc L (.ref a::st)) rfl rfl hd
 rw[len_of S M] at q
 exact aG (T':=T) (mkF m (pc+1) L (.int z::st)) q w
theorem zT (q:Nat)(X:Stand p l e R s m args below meth c T locs cells slots)(hx:p.tables.exec=Jvm.exec)(hZ:Z.Warmed39 s.vm)(eT:T.heap=h)(F:Arv Z h a k .int z vs dv)(ib: ¬j<0∧j<z)(u:vs.getD j.toNatClampNeg dv= .int x)(hd:decode c.code pc= .ok (.iaload,1))(hq:pc+1=q)(w:ay p e below Fn T (mkF m q L (.int x::st))):ay p e below Fn T (mkF m pc L (.int j:: .ref a::st)):=by
 obtain ⟨cl,Ar,-,S,-,H,-⟩:=F
 subst hq
 exact aG (T':=T) (mkF m (pc+1) L (.int x::st)) (X.iaload hx (j:=j) (v:= .int x) (by rw[eT];exact Ar.1) (State.isArrayOf_alike hZ.alike Ar.2.1) Ar.2.2 (inb_of S ib) (H.at (inb_of S ib) u) (g:=mkF m pc L (.int j:: .ref a::st)) rfl rfl hd) w
theorem zU (q i:Nat)(X:Stand p l e R s m args below meth c T locs cells slots)(hx:p.tables.exec=Jvm.exec)(hZ:Z.Warmed39 s.vm)(eT:T.heap=h)(F:Arv Z h a k .int z vs dv)(ib: ¬j<0∧j<z)(hj:j.toNatClampNeg=i)(hi:i<vs.length)(hd:decode c.code pc= .ok (.iastore,1))(hq:pc+1=q)
  (w: ∀(T':State) (h':Heap),Stand p l e R s m args below meth c T' (locs++ [⟨a,(j).toNatClampNeg⟩]) cells slots→T'.heap=h'→Wr h h' a j.toNatClampNeg (.int x)→Arv Z h' a k .int z (vs.set i (.int x)) dv→ay p e below Fn T' (mkF m q L st)):ay p e below Fn T (mkF m pc L (.int x:: .int j:: .ref a::st)):=by
 obtain ⟨cl,Ar,q1,S,M,H,G⟩:=F
 obtain ⟨T',h',X',e',W',st'⟩:=stI X hx hZ eT Ar (j:=j) (inb_of S ib) (g:=mkF m pc L (.int x:: .int j:: .ref a::st)) rfl rfl hd
 subst hq
 exact aG (T':=T') (mkF m (pc+1) L st) st' (w T' h' X' e' W' (Arv.set Ar q1 S M H G rfl W' i hj hi))
end OwnHeap
section OwnSb
variable {p:Program}{l:Launch}{e:Env}{R:Room}{s:State}{m:MethodId}{args:Array Value}{below:List Frame}{meth:Method}{c:Code}{T:State}{locs:List Loc}{cells slots:Nat}{Z:State}{a0:Array Value}
theorem FT (X:Stand p l e R s m args below meth c T locs cells slots)(hexec:p.tables.exec=Jvm.exec){own C:String}{index:Nat}{y:MethodName}{bytes:ByteArray}{maxL:Nat}{ret:Option FieldType}
  (w:s.vm.findClass own=some m.cls) (hlink:(Jvm.Cond.methodLink own index y).before args s=true) (hinst:(Jvm.Cond.instanceMethod y).before args s=true) (hsel:(Jvm.Cond.selects C y y).before args s=true) (hpriv:(Jvm.Cond.privateMethod y).before args s=true)
  (hcode:(Jvm.Cond.code y bytes maxL ret).before args s=true) (hy:y.cls≠"java/lang/invoke/MethodHandle"∧y.cls≠"java/lang/invoke/VarHandle")
  {W:Nat} {as':Array Value} {h:Heap} {rc rs:Nat} {Q:Option Value→Heap→List Loc→Prop} (hK:Back l R p e below s args y 3 W (fun A a=>a=as'∧A.U.heap=h∧A.cells+rc≤R.cells∧A.slots+rs≤R.slots) (fun A _ v B=> ∃L,Q v B.U.heap L∧B.locs=A.locs++L∧B.cells=A.cells+rc∧B.slots=A.slots+rs))
  {b:Addr} (hcl: ∃k:Cell,h[b]? =some k∧ ∀q,k.vm≠ .statics q)
  {g:JFrame} (hg:g.method=m) (hsize:g.locals.size=c.maxLocals) {argsL rest:List Value}
  (hlen: ∀sig,parseMethodDescriptor y.desc=some sig→argsL.length=sig.parameters.length) (hstack:g.stack=argsL.reverse++ .ref b::rest) (hW:2*g.monitorRoom+(rest.map fun v=>v.category).sum≤W)
  (hdg:decode c.code g.pc= .ok (.invokevirtual index,3)) (ha:(Value.ref b::argsL).toArray=as') (eT:T.heap=h) {kc ks:Nat} (hkc:cells+rc=kc) (hks:slots+rs=ks) (hc:kc≤R.cells) (hs:ks≤R.slots):
  ∃(v:Option Value) (T':State) (Lc:List Loc),Stand p l e R s m args below meth c T' (locs++Lc) kc ks∧Q v T'.heap Lc∧Steps p.tables e below (T.setTop g) (T'.setTop {g with pc:=g.pc+3,stack:=v.toList++rest}):=by
 subst hkc hks
 have hp:=Cond.privateMethod_at hpriv
 obtain ⟨c1,r1,m1,-,-,q3,-,kP,hkP,hkPi⟩:=Cond.selects_spec hsel
 have hsel':=selects_self_of_private (findClass_of_methodNamed q3) hkP hkPi hp hinst hy
 obtain ⟨k0,hcell,hobj⟩:=hcl
 obtain ⟨v,vm₁,⟨T',L',k',n'⟩,-,X',⟨Lc,hQ,l',y',z'⟩,st⟩:=X.privateBack hexec w hlink hinst hsel' hp hcode hy hK hg hsize (Steps.refl _) (a:=b) (cell:=k0) (by rw[eT];exact hcell) hobj hlen hstack hW hdg (fun _ _=>⟨ha,eT,hc,hs⟩)
 dsimp only[Pt.U,Pt.locs,Pt.cells,Pt.slots] at X' l' y' z' st hQ
 subst l' y' z'
 exact ⟨v,T',Lc,X',hQ,st⟩
end OwnSb
theorem qM {x y X Y:Int}(hx:0≤x)(hx':x≤X)(hy:0≤y)(hy':y≤Y):0≤x*y∧x*y≤X*Y:=⟨Int.mul_nonneg hx hy,Int.mul_le_mul hx' hy' hy (Int.le_trans hx hx')⟩
theorem FU {A B A1 A0 B1 w:Int}(hA:A=A1*67108864+A0)(hB:B=B1*67108864+w):A*B=(A1*B1)*4503599627370496+(A1*w+A0*B1)*67108864+A0*w:=by
 subst hA hB;grind
theorem zV {a b a1 a0 b1 b0 mid lo lo2:Int64}(ra:0≤a.toInt∧a.toInt<9007199254740992)(rb:0≤b.toInt∧b.toInt<9007199254740992)
  (h1:((a.toUInt64>>>((26:Int32)&&&0x3f).toInt64.toUInt64).toInt64)=a1) (h2:(a&&&(67108863:Int64))=a0) (h3:((b.toUInt64>>>((26:Int32)&&&0x3f).toInt64.toUInt64).toInt64)=b1) (h4:(b&&&(67108863:Int64))=b0)
  (h5:((a1*b0)+(a0*b1))=mid) (h6:(a0*b0)=lo) (h7:(lo+((mid&&&(67108863:Int64))<<<((26:Int32)&&&0x3f).toInt64))=lo2):
  0≤a1.toInt∧a1.toInt<134217728∧0≤b1.toInt∧b1.toInt<134217728∧0≤mid.toInt∧mid.toInt<18014398509481984∧0≤lo2.toInt∧lo2.toInt<9007199254740992∧a.toInt*b.toInt=(a1.toInt*b1.toInt+mid.toInt/67108864)*4503599627370496+lo2.toInt:=by
 have e1:=c_lushr a 26 26 (by decide) (by decide);rw[h1] at e1
 have e2:=c_maskL a 67108863 26 (by decide) (by decide);rw[h2] at e2
 have e3:=c_lushr b 26 26 (by decide) (by decide);rw[h3] at e3
 have e4:=c_maskL b 67108863 26 (by decide) (by decide);rw[h4] at e4
 have n1:((2^26:Nat):Int)=67108864:=rfl
 rw[n1] at e1 e2 e3 e4
 have A1:0≤a1.toInt∧a1.toInt≤134217727:=by omega
 have A0:0≤a0.toInt∧a0.toInt≤67108863:=by omega
 have B1:0≤b1.toInt∧b1.toInt≤134217727:=by omega
 have B:0≤b0.toInt∧b0.toInt≤67108863:=by omega
 have hA:a.toInt=a1.toInt*67108864+a0.toInt:=by omega
 have hB:b.toInt=b1.toInt*67108864+b0.toInt:=by omega
 have E:=FU hA hB
 have p10:=qM A1.1 A1.2 B.1 B.2
 have K:=qM A0.1 A0.2 B1.1 B1.2
 have M:=qM A0.1 A0.2 B.1 B.2
 have m10:=c_lmul a1 b0
 have S:=c_lmul a0 b1
 have I:=c_lmul a0 b0
 rw[h6] at I
 have s:=c_ladd (a1*b0) (a0*b1);rw[h5] at s
 have r1:=rng64 (a1*b0);have r2:=rng64 (a0*b1);have r3:=rng64 lo;have r4:=rng64 mid
 generalize (a1*b0).toInt=v10 at*
 generalize (a0*b1).toInt=J at*
 generalize a1.toInt*b0.toInt=F at*
 generalize a0.toInt*b1.toInt=G at*
 generalize a0.toInt*b0.toInt=H at*
 generalize a1.toInt*b1.toInt=P11 at*
 have x10:v10=F:=by omega
 have x01:J=G:=by omega
 have x00:lo.toInt=H:=by omega
 have xm:mid.toInt=F+G:=by omega
 have k1:=c_maskL mid 67108863 26 (by decide) (by decide);rw[n1] at k1
 have k2:=c_lshl (mid&&&(67108863:Int64)) 26 26 (by decide);rw[n1,k1] at k2
 have k3:=c_ladd lo ((mid&&&(67108863:Int64))<<<((26:Int32)&&&0x3f).toInt64);rw[h7] at k3
 have r5:=rng64 ((mid&&&(67108863:Int64))<<<((26:Int32)&&&0x3f).toInt64);have r6:=rng64 lo2
 generalize ((mid&&&(67108863:Int64))<<<((26:Int32)&&&0x3f).toInt64).toInt=w at*
 have W:w=mid.toInt%67108864*67108864:=by omega
 have xl:lo2.toInt=H+mid.toInt%67108864*67108864:=by omega
 refine ⟨A1.1,by omega,B1.1,by omega,by omega,by omega,by omega,by omega,?_⟩
 omega
def uG (a b r:Int64):Prop:=(r=a∧b.toInt≤a.toInt)∨(r=b∧a.toInt≤b.toInt)
theorem q_ {a b:Int64}:(a.toInt<b.toInt∧(lcmpW a b)= -1)∨(a.toInt=b.toInt∧(lcmpW a b)=0)∨(b.toInt<a.toInt∧(lcmpW a b)=1):=by
 have q:=c_lcmp a b
 have e1:(-1:Int32).toInt= -1:=rfl
 have e2:(0:Int32).toInt=0:=rfl
 have e3:(1:Int32).toInt=1:=rfl
 rw[←Int32.toInt_inj,←Int32.toInt_inj,←Int32.toInt_inj,e1,e2,e3]
 rcases Int.lt_trichotomy a.toInt b.toInt with h|h|h
 ·exact Or.inl ⟨h,q.1 h⟩
 ·exact Or.inr (Or.inl ⟨h,q.2.1 h⟩)
 ·exact Or.inr (Or.inr ⟨h,q.2.2 h⟩)
theorem mJ {a b:Int64}(h:lcmpW a b<0):a.toInt<b.toInt:=by
 rcases q_ (a:=a) (b:=b) with ⟨q,e⟩|⟨q,e⟩|⟨q,e⟩
 ·exact q
 ·rw[e] at h;exact absurd h (by decide)
 ·rw[e] at h;exact absurd h (by decide)
theorem oX {a b:Int64}(h: ¬lcmpW a b<0):b.toInt≤a.toInt:=by
 rcases q_ (a:=a) (b:=b) with ⟨q,e⟩|⟨q,e⟩|⟨q,e⟩
 ·rw[e] at h;exact absurd (by decide) h
 ·omega
 ·omega
theorem yc {a b:Int64}(h:0<lcmpW a b):b.toInt<a.toInt:=by
 rcases q_ (a:=a) (b:=b) with ⟨q,e⟩|⟨q,e⟩|⟨q,e⟩
 ·rw[e] at h;exact absurd h (by decide)
 ·rw[e] at h;exact absurd h (by decide)
 ·exact q
theorem uI {a b:Int64}(h: ¬0<lcmpW a b):a.toInt≤b.toInt:=by
 rcases q_ (a:=a) (b:=b) with ⟨q,e⟩|⟨q,e⟩|⟨q,e⟩
 ·omega
 ·omega
 ·rw[e] at h;exact absurd (by decide) h
theorem qj {a b:Int64}(h:lcmpW a b=0):a.toInt=b.toInt:=by
 rcases q_ (a:=a) (b:=b) with ⟨q,e⟩|⟨q,e⟩|⟨q,e⟩
 ·rw[e] at h;exact absurd h (by decide)
 ·exact q
 ·rw[e] at h;exact absurd h (by decide)
theorem uJ {a b:Int64}(h: ¬lcmpW a b=0): ¬a.toInt=b.toInt:=by
 rcases q_ (a:=a) (b:=b) with ⟨q,e⟩|⟨q,e⟩|⟨q,e⟩
 ·omega
 ·exact absurd e h
 ·omega
theorem FW {a b:Int64}(h: ¬lcmpW a b<0):uG a b a:=Or.inl ⟨rfl,oX h⟩
theorem FY {a b:Int64}(h:lcmpW a b<0):uG a b b:=Or.inr ⟨rfl,Int.le_of_lt (mJ h)⟩
def uL (a b x y:Int64)(r:Int32):Prop:=(r= -1∧a.toInt*b.toInt<x.toInt*y.toInt)∨(r=0∧a.toInt*b.toInt=x.toInt*y.toInt)∨(r=1∧x.toInt*y.toInt<a.toInt*b.toInt)
theorem F8 {a1 b1 mid lo2 hi:Int64}{P:Int}(H:0≤a1.toInt∧a1.toInt<134217728∧0≤b1.toInt∧b1.toInt<134217728∧0≤mid.toInt∧mid.toInt<18014398509481984∧0≤lo2.toInt∧lo2.toInt<9007199254740992∧P=(a1.toInt*b1.toInt+mid.toInt/67108864)*4503599627370496+lo2.toInt)(h:a1*b1=hi):
  ((hi+((mid.toUInt64>>>((26:Int32)&&&0x3f).toInt64.toUInt64).toInt64))+((lo2.toUInt64>>>((52:Int32)&&&0x3f).toInt64.toUInt64).toInt64)).toInt=P/4503599627370496:=by
 obtain ⟨x1,x2,x3,x4,x5,x6,x7,x8,x9⟩:=H
 have p:=qM x1 (show a1.toInt≤134217727 by omega) x3 (show b1.toInt≤134217727 by omega)
 have m:=c_lmul a1 b1;rw[h] at m
 have r:=rng64 hi
 have e1:=c_lushr mid 26 26 (by decide) (by decide)
 have e2:=c_lushr lo2 52 52 (by decide) (by decide)
 have n1:((2^26:Nat):Int)=67108864:=rfl
 have n2:((2^52:Nat):Int)=4503599627370496:=rfl
 rw[n1] at e1;rw[n2] at e2
 generalize ((mid.toUInt64>>>((26:Int32)&&&0x3f).toInt64.toUInt64).toInt64)=u at*
 generalize ((lo2.toUInt64>>>((52:Int32)&&&0x3f).toInt64.toUInt64).toInt64)=v at*
 have s1:=c_ladd hi u
 have s2:=c_ladd (hi+u) v
 have r1:=rng64 (hi+u);have r2:=rng64 (hi+u+v)
 generalize a1.toInt*b1.toInt=P11 at*
 omega
theorem Ga {a1 b1 mid lo2:Int64}{P:Int}(H:0≤a1.toInt∧a1.toInt<134217728∧0≤b1.toInt∧b1.toInt<134217728∧0≤mid.toInt∧mid.toInt<18014398509481984∧0≤lo2.toInt∧lo2.toInt<9007199254740992∧P=(a1.toInt*b1.toInt+mid.toInt/67108864)*4503599627370496+lo2.toInt):
  (lo2&&&(4503599627370495:Int64)).toInt=P%4503599627370496:=by
 obtain ⟨x1,x2,x3,x4,x5,x6,x7,x8,x9⟩:=H
 have e2:=c_maskL lo2 4503599627370495 52 (by decide) (by decide)
 have n2:((2^52:Nat):Int)=4503599627370496:=rfl
 rw[n2] at e2
 generalize a1.toInt*b1.toInt=P11 at*
 omega
section OwnCmp
variable {h1 h2 l1 l2:Int64}{P Q:Int}
theorem Gb (h:lcmpW h1 h2<0)(e1:h1.toInt=P/4503599627370496)(e2:h2.toInt=Q/4503599627370496):P<Q:=by have:=mJ h;omega
theorem Gc (k: ¬lcmpW h1 h2=0)(h: ¬lcmpW h1 h2<0)(e1:h1.toInt=P/4503599627370496)(e2:h2.toInt=Q/4503599627370496):Q<P:=by have:=oX h;have:=uJ k;omega
theorem Gf (k:lcmpW h1 h2=0)(h:lcmpW l1 l2<0)(e1:h1.toInt=P/4503599627370496)(e2:h2.toInt=Q/4503599627370496)(f1:l1.toInt=P%4503599627370496)(f2:l2.toInt=Q%4503599627370496):P<Q:=by have:=mJ h;have:=qj k;omega
theorem Gg (k:lcmpW h1 h2=0)(g: ¬lcmpW l1 l2=0)(h: ¬lcmpW l1 l2<0)(e1:h1.toInt=P/4503599627370496)(e2:h2.toInt=Q/4503599627370496)(f1:l1.toInt=P%4503599627370496)(f2:l2.toInt=Q%4503599627370496):Q<P:=by have:=oX h;have:=qj k;have:=uJ g;omega
theorem Gh (k:lcmpW h1 h2=0)(g:lcmpW l1 l2=0)(e1:h1.toInt=P/4503599627370496)(e2:h2.toInt=Q/4503599627370496)(f1:l1.toInt=P%4503599627370496)(f2:l2.toInt=Q%4503599627370496):P=Q:=by have:=qj k;have:=qj g;omega
end OwnCmp
def ah (x:Int32):Int:=x.toInt%4294967296
theorem aW (x:Int32):0≤ah x∧ah x<4294967296:=by unfold ah;omega
theorem oY {x:Int32}(h: ¬x=0):0<ah x:=by
 have q:=aW x;have r:=rng32 x
 rw[←Int32.toInt_inj] at h
 have e:(0:Int32).toInt=0:=rfl
 unfold ah at*;omega
theorem qO {x:Int32}(h:x=0):ah x=0:=by subst h;rfl
theorem ij (x:Int32):(x.toInt64&&&(4294967295:Int64)).toInt=ah x:=by
 have e:=c_maskL x.toInt64 4294967295 32 (by decide) (by decide)
 rw[c_i2l] at e;exact e
theorem uM (x:Int64):(x&&&(4294967295:Int64)).toInt=x.toInt%4294967296:=c_maskL x 4294967295 32 (by decide) (by decide)
theorem ju (x:Int64):ah x.toInt32=x.toInt%4294967296:=by have q:=c_l2i x;unfold ah;omega
theorem pN (x:Int64):((x.toUInt64>>>((32:Int32)&&&0x3f).toInt64.toUInt64).toInt64).toInt=x.toInt%18446744073709551616/4294967296:=c_lushr x 32 32 (by decide) (by decide)
section OwnBI
variable {Z:State}{h h':Heap}{x a b:Addr}{k:ClassId}{ws:List Int32}{slt:Nat}{v:Value}{us:List Addr}
def fY (Z:State)(h:Heap)(x a:Addr)(k:ClassId)(ws:List Int32):Prop:=
 Exa Z h x "java/math/BigInteger"∧Fld Z h x "java/math/BigInteger" "signum" "I" (.int (1:Int32))∧Fld Z h x "java/math/BigInteger" "mag" "[I" (.ref a)∧Arv Z h a k .int (Int32.ofNat ws.length) (ws.map Value.int) (.int (0:Int32))∧Exa Z h a "[I"
theorem fY.lt (S:fY Z h x a k ws):x<h.size:=S.1.lt
theorem fY.ltT (S:fY Z h x a k ws):a<h.size:=S.2.2.2.1.lt
theorem fY.ext (S:fY Z h x a k ws)(E:Ext h h'):fY Z h' x a k ws:=⟨S.1.ext E,S.2.1.ext E,S.2.2.1.ext E,S.2.2.2.1.ext E,S.2.2.2.2.ext E⟩
theorem fY.wr (S:fY Z h x a k ws)(W:Wr h h' b slt v)(n1:x≠b)(n2:a≠b):fY Z h' x a k ws:=⟨S.1.wr W,S.2.1.other W (Or.inl n1),S.2.2.1.other W (Or.inl n1),S.2.2.2.1.other W n2,S.2.2.2.2.wr W⟩
theorem fY.keep (S:fY Z h x a k ws)(K:Keep h h' us)(n1:x∉us)(n2:a∉us):fY Z h' x a k ws:=⟨S.1.keep K,S.2.1.keep K n1,S.2.2.1.keep K n1,S.2.2.2.1.keep K n2,S.2.2.2.2.keep K⟩
def jZ (Z:State)(h:Heap)(x a:Addr)(k:ClassId)(n:Int):Prop:=(∃w0,fY Z h x a k [w0]∧ ¬w0=0∧n=ah w0)∨(∃w0 w1,fY Z h x a k [w0,w1]∧ ¬w0=0∧n=ah w0*4294967296+ah w1)
def uO (Z:State)(pc:Addr)(kp:ClassId)(vs:List Value)(dv:Value):Prop:=Arv Z Z.heap pc kp (.object "java/math/BigInteger") (17:Int32) vs dv∧ ∀i:Int32,1≤i.toInt→i.toInt≤16→ ∃x a k,vs.getD i.toNatClampNeg dv= .ref x∧fY Z Z.heap x a k [i]
end OwnBI
theorem Gi {v:Int64}(h: ¬(v.toUInt64>>>((32:Int32)&&&0x3f).toInt64.toUInt64).toInt64.toInt32=0)(r:0≤v.toInt∧v.toInt<9007199254740992):v.toInt=ah ((v.toUInt64>>>((32:Int32)&&&0x3f).toInt64.toUInt64).toInt64.toInt32)*4294967296+ah v.toInt32:=by
 rw[ju,ju,pN];omega
theorem zW {v:Int64}(h:(v.toUInt64>>>((32:Int32)&&&0x3f).toInt64.toUInt64).toInt64.toInt32=0)(r:0≤v.toInt∧v.toInt<9007199254740992):v.toInt=ah v.toInt32:=by
 have q:=qO h
 rw[ju,pN] at q;rw[ju];omega
theorem Gj {v:Int64}(h:v.toInt=ah v.toInt32)(r:0<v.toInt): ¬v.toInt32=0:=fun q=>by rw[qO q] at h;omega
theorem Gk {v:Int64}(r:0<v.toInt)(h: ¬0<lcmpW v (16:Int64)):1≤v.toInt32.toInt∧v.toInt32.toInt≤16∧v.toInt=ah v.toInt32∧ ¬v.toInt32<0∧v.toInt32<17∧ ¬v.toInt32=0:=by
 have q:=uI h
 have e:(16:Int64).toInt=16:=rfl
 rw[e] at q
 have c:=c_l2i v;have g:=rng32 v.toInt32
 have e0:(0:Int32).toInt=0:=rfl
 have e17:(17:Int32).toInt=17:=rfl
 have z:v.toInt32.toInt=v.toInt:=by omega
 rw[Int32.lt_iff_toInt_lt,Int32.lt_iff_toInt_lt,←Int32.toInt_inj,e0,e17]
 unfold ah;omega
theorem zX {v:Int64}(r:0≤v.toInt∧v.toInt<9007199254740992): ¬lcmpW v (0:Int64)<0:=fun q=>by
 have:=mJ q
 have e:(0:Int64).toInt=0:=rfl
 omega
theorem Gl {v:Int64}(r:0<v.toInt): ¬lcmpW v (0:Int64)=0:=fun q=>by
 have:=qj q
 have e:(0:Int64).toInt=0:=rfl
 omega
theorem Gn {v:Int64}(r:0<v.toInt):0<lcmpW v (0:Int64):=Classical.byContradiction fun q=>by
 have:=uI q
 have e:(0:Int64).toInt=0:=rfl
 omega
theorem yd {q:Int32}{s:Nat}(h:q.toInt=s)(hs:s<32):q.toBitVec.toNat%32=s:=by
 have e:q.toInt=if 2*q.toBitVec.toNat<2^32 then (q.toBitVec.toNat:Int) else q.toBitVec.toNat-(2^32:Nat):=BitVec.toInt_eq_toNat_cond q.toBitVec
 have b:=q.toBitVec.isLt
 split at e<;>omega
theorem jO {s:Nat}(hs:s≤31):1≤(2:Int)^s∧(2:Int)^s≤2147483648:=by
 have h1:1≤2^s:=Nat.one_le_two_pow
 have h2:2^s≤2^31:=Nat.pow_le_pow_right (by decide) hs
 have e:((2^s:Nat):Int)=(2:Int)^s:=by simp
 omega
theorem yg {s:Nat}(hs:s≤32):(2:Int)^(32-s)*(2:Int)^s=4294967296:=by
 rw[←Int.pow_add,Nat.sub_add_cancel hs];rfl
theorem m_ (s:Nat):((2^s:Nat):Int)=(2:Int)^s:=by simp
theorem o_ {x q:Int32}{s:Nat}(h:q.toInt=s)(hs:s≤31):ah (x<<<(q&&&31))=ah x*2^s%4294967296:=by
 have c:=c_ishl x q s (yd h (by omega))
 rw[m_] at c
 have e:ah x*2^s=x.toInt*2^s-4294967296*(x.toInt/4294967296*2^s):=by
  have q:=Int.emod_add_mul_ediv x.toInt 4294967296
  have z:ah x=x.toInt-4294967296*(x.toInt/4294967296):=by unfold ah;omega
  rw[z];grind
 rw[e];unfold ah
 generalize x.toInt/4294967296*2^s=t at*
 generalize x.toInt*2^s=y at*
 omega
theorem uP {x q:Int32}{s:Nat}(h:q.toInt=s)(h1:1≤s)(hs:s≤31):((x.toUInt32>>>(((32:Int32)-q)&&&31).toUInt32).toInt32).toInt=ah x*2^s/4294967296:=by
 have c:=c_isub 32 q
 have e32:(32:Int32).toInt=32:=rfl
 have r:=rng32 (32-q)
 have k:((32:Int32)-q).toInt=((32-s:Nat):Int):=by omega
 have d:=c_iushr x (32-q) (32-s) (yd k (by omega)) (by omega)
 rw[m_] at d
 rw[d]
 have p:=yg (s:=s) (by omega)
 have g:=(jO hs).1
 show ah x/2^(32-s)=_
 rw[←p,Int.mul_ediv_mul_of_pos_left _ _ (by omega)]
theorem uQ {x:Int32}{s:Nat}(hs:s≤31):0≤ah x*2^s/4294967296∧ah x*2^s/4294967296<2^s:=by
 have g:=jO hs
 have r:0≤ah x∧ah x<4294967296:=by unfold ah;omega
 refine ⟨Int.ediv_nonneg (Int.mul_nonneg r.1 (by omega)) (by decide),Int.ediv_lt_of_lt_mul (by decide) ?_⟩
 rw[Int.mul_comm];exact Int.mul_lt_mul_of_pos_left r.2 (by omega)
theorem oh {x y q:Int32}{s:Nat}(h:q.toInt=s)(h1:1≤s)(hs:s≤31):ah ((x<<<(q&&&31))|||((y.toUInt32>>>(((32:Int32)-q)&&&31).toUInt32).toInt32))=ah x*2^s%4294967296+ah y*2^s/4294967296:=by
 have a:=o_ (x:=x) h hs
 have b:=uP (x:=y) h h1 hs
 have bb:=uQ (x:=y) hs
 have c:=c_ishl x q s (yd h (by omega));rw[m_] at c
 have g:=jO hs
 have p:=yg (s:=s) (by omega)
 generalize (y.toUInt32>>>(((32:Int32)-q)&&&31).toUInt32).toInt32=w at*
 generalize x<<<(q&&&31)=v at*
 have dv:v.toInt%2^s=0:=by
  have e:v.toInt=x.toInt*2^s+4294967296*((v.toInt-x.toInt*2^s)/4294967296):=by omega
  rw[e,←p,Int.mul_assoc,Int.mul_comm (2^s) _,←Int.mul_assoc,←Int.add_mul]
  exact Int.mul_emod_left _ _
 have o:=c_or v w s (by omega) (2^s) (m_ s).symm dv (by omega) (by omega)
 have du:ah v%2^s=0:=by
  have e:ah v=v.toInt-2^(32-s)*2^s*(v.toInt/4294967296):=by rw[p];unfold ah;omega
  rw[e,Int.mul_assoc,Int.mul_comm (2^s) _,←Int.mul_assoc,Int.sub_emod,dv,Int.mul_emod_left];rfl
 have vb:ah v+2^s≤4294967296:=by
  have r:ah v<4294967296:=by unfold ah;omega
  have e:=Int.emod_add_mul_ediv (ah v) (2^s)
  rw[du] at e
  generalize hq:ah v/2^s=t at*
  have lt:t<2^(32-s):=by
   refine Int.lt_of_mul_lt_mul_left (a:=2^s) ?_ (by omega)
   rw[Int.mul_comm (2^s) (2^(32-s)),p];omega
  have le:2^s*(t+1)≤2^s*2^(32-s):=Int.mul_le_mul_of_nonneg_left (by omega) (by omega)
  rw[Int.mul_comm (2^s) (2^(32-s)),p,Int.mul_add] at le
  omega
 rw[←a,←b]
 have vr:0≤ah v:=by unfold ah;omega
 have sum:ah v+w.toInt<4294967296:=by omega
 unfold ah at*
 omega
theorem uR {a b c d:Nat}(hb:b<256)(hd:d<256):(a*256+b)&&&(c*256+d)=(a&&&c)*256+(b&&&d):=by
 have hbd:b&&&d<2^8:=Nat.lt_of_le_of_lt Nat.and_le_left hb
 have e: ∀x y:Nat,x*256+y=2^8*x+y:=fun x y=>by rw[Nat.mul_comm,show (256:Nat)=2^8 from rfl]
 apply Nat.eq_of_testBit_eq;intro i
 rw[e,e,e,Nat.testBit_and,Nat.testBit_two_pow_mul_add _ hb,Nat.testBit_two_pow_mul_add _ hd,Nat.testBit_two_pow_mul_add _ hbd]
 by_cases h:i<8
 ·simp[h,Nat.testBit_and]
 ·simp[h,Nat.testBit_and]
def je (v:Nat):Nat:=v-((v/2)&&&0x55)
def lx (v:Nat):Nat:=(v&&&0x33)+((v/4)&&&0x33)
def zY (v:Nat):Nat:=(v+v/16)&&&0x0f
def jR (v:Nat):Nat:=zY (lx (je v))
theorem Gp: ∀b<256,∀c<2,(c*128+b/2)&&&0x55=(b/2)&&&0x55:=by decide+kernel
theorem zZ: ∀b<256,(b/2)&&&0x55≤b:=by decide+kernel
theorem Gu: ∀b<256,∀c<4,(c*64+b/4)&&&0x33=(b/4)&&&0x33:=by decide+kernel
theorem Gv: ∀b<80,∀c<5,(b+c*16+b/16)&&&0x0f=(b+b/16)&&&0x0f:=by decide+kernel
theorem uS: ∀b<256,lx (je b)%16≤4∧lx (je b)/16≤4∧lx (je b)<80:=by decide+kernel
theorem ql: ∀b<256,jR b≤8∧(jR b=0→b=0)∧(jR b=1→b=2^Nat.log2 b∧Nat.log2 b<8):=by decide+kernel
theorem yh {Y b M:Nat}(hb:b<256)(hM:(Y/2)&&&M≤Y):(Y*256+b)-(((Y*256+b)/2)&&&(M*256+0x55))=(Y-((Y/2)&&&M))*256+je b∧(((Y*256+b)/2)&&&(M*256+0x55))≤Y*256+b:=by
 have e:(Y*256+b)/2=(Y/2)*256+((Y%2)*128+b/2):=by omega
 rw[e,uR (by omega) (by decide),Gp b hb _ (by omega)]
 have q:=zZ b hb
 unfold je;omega
theorem yj {Y b M:Nat}(hb:b<256):((Y*256+b)&&&(M*256+0x33))+(((Y*256+b)/4)&&&(M*256+0x33))=((Y&&&M)+((Y/4)&&&M))*256+lx b:=by
 have e:(Y*256+b)/4=(Y/4)*256+((Y%4)*64+b/4):=by omega
 rw[e,uR hb (by decide),uR (by omega) (by decide),Gu b hb _ (by omega)]
 unfold lx;omega
theorem yp {Y b M:Nat}(hb:b<80)(hY:Y%16<5):((Y*256+b)+(Y*256+b)/16)&&&(M*256+0x0f)=((Y+Y/16)&&&M)*256+zY b:=by
 have e:(Y*256+b)+(Y*256+b)/16=(Y+Y/16)*256+(b+(Y%16)*16+b/16):=by omega
 rw[e,uR (by omega) (by decide),Gv b hb _ hY]
 rfl
theorem Gw {n x1 x2 x3:Nat}(hn:n<4294967296)(h1:x1=n-((n/2)&&&1431655765))(h2:x2=(x1&&&858993459)+((x1/4)&&&858993459))(h3:x3=(x2+x2/16)&&&252645135):
  ((n/2)&&&1431655765)≤n∧x2<4294967296/2∧x2+x2/16<4294967296∧x3=((jR (n/16777216)*256+jR (n/65536%256))*256+jR (n/256%256))*256+jR (n%256):=by
 obtain ⟨b3,e3⟩: ∃b,b=n/16777216:=⟨_,rfl⟩
 obtain ⟨b2,e2⟩: ∃b,b=n/65536%256:=⟨_,rfl⟩
 obtain ⟨b1,e1⟩: ∃b,b=n/256%256:=⟨_,rfl⟩
 obtain ⟨b0,e0⟩: ∃b,b=n%256:=⟨_,rfl⟩
 have en:n=((b3*256+b2)*256+b1)*256+b0:=by omega
 have k3:b3<256:=by omega
 have k2:b2<256:=by omega
 have k1:b1<256:=by omega
 have k0:b0<256:=by omega
 rw[←e3,←e2,←e1,←e0]
 have m1:1431655765=((0x55*256+0x55)*256+0x55)*256+0x55:=rfl
 have m2:858993459=((0x33*256+0x33)*256+0x33)*256+0x33:=rfl
 have m3:252645135=((0x0f*256+0x0f)*256+0x0f)*256+0x0f:=rfl
 have q3:=zZ b3 k3
 have a2:=yh (Y:=b3) (M:=0x55) k2 q3
 have a1:=yh (Y:=b3*256+b2) (M:=0x55*256+0x55) k1 a2.2
 have a0:=yh (Y:=(b3*256+b2)*256+b1) (M:=(0x55*256+0x55)*256+0x55) k0 a1.2
 rw[←m1,←en] at a0
 have E1:x1=((je b3*256+je b2)*256+je b1)*256+je b0:=by rw[h1,a0.1,a1.1,a2.1];rfl
 have w: ∀b,b<256→je b<256:=fun b hb=>by unfold je;omega
 have c2:=yj (Y:=je b3) (M:=0x33) (w _ k2)
 have c1:=yj (Y:=je b3*256+je b2) (M:=0x33*256+0x33) (w _ k1)
 have c0:=yj (Y:=(je b3*256+je b2)*256+je b1) (M:=(0x33*256+0x33)*256+0x33) (w _ k0)
 rw[←m2,←E1] at c0
 have E2:x2=((lx (je b3)*256+lx (je b2))*256+lx (je b1))*256+lx (je b0):=by rw[h2,c0,c1,c2];rfl
 have t3:=uS b3 k3
 have t2:=uS b2 k2
 have t1:=uS b1 k1
 have t0:=uS b0 k0
 have d2:=yp (Y:=lx (je b3)) (M:=0x0f) t2.2.2 (by omega)
 have d1:=yp (Y:=lx (je b3)*256+lx (je b2)) (M:=0x0f*256+0x0f) t1.2.2 (by omega)
 have d0:=yp (Y:=(lx (je b3)*256+lx (je b2))*256+lx (je b1)) (M:=(0x0f*256+0x0f)*256+0x0f) t0.2.2 (by omega)
 rw[←m3,←E2] at d0
 refine ⟨a0.2,?_,?_,?_⟩
 ·omega
 ·omega
 ·rw[h3,d0,d1,d2];rfl
theorem Gx {n x3 x4 x5:Nat}(hn:n<4294967296)(e:x3=((jR (n/16777216)*256+jR (n/65536%256))*256+jR (n/256%256))*256+jR (n%256))(h4:x4=x3+x3/256)(h5:x5=x4+x4/65536)(h6:x5%64=1):x4<4294967296∧x5<4294967296∧ ∃k,k<32∧n=2^k:=by
 have p3:=ql (n/16777216) (by omega)
 have p2:=ql (n/65536%256) (by omega)
 have p1:=ql (n/256%256) (by omega)
 have p0:=ql (n%256) (by omega)
 generalize jR (n/16777216)=f3 at*
 generalize jR (n/65536%256)=f2 at*
 generalize jR (n/256%256)=f1 at*
 generalize jR (n%256)=f0 at*
 have l3:=p3.1;have l2:=p2.1;have l1:=p1.1;have l0:=p0.1
 have d1:x3/256=(f3*256+f2)*256+f1:=by omega
 have d2:x4=f3*16777216+(f3+f2)*65536+(f2+f1)*256+(f1+f0):=by omega
 have d3:x4/65536=f3*256+(f3+f2):=by omega
 have tot:f3+f2+f1+f0=1:=by
  rw[h5,d3,d2] at h6
  clear p3 p2 p1 p0 e h4 h5 d1 d2 d3 hn
  omega
 refine ⟨by omega,by omega,?_⟩
 have w8:(2:Nat)^8=256:=rfl
 have w16:(2:Nat)^16=65536:=rfl
 have w:(2:Nat)^24=16777216:=rfl
 by_cases g3:f3=1
 ·have z2:=p2.2.1 (by omega);have z1:=p1.2.1 (by omega);have z0:=p0.2.1 (by omega);have q:=p3.2.2 g3
  refine ⟨Nat.log2 (n/16777216)+24,by omega,?_⟩
  rw[Nat.pow_add,←q.1,w];omega
 ·by_cases g2:f2=1
  ·have z3:=p3.2.1 (by omega);have z1:=p1.2.1 (by omega);have z0:=p0.2.1 (by omega);have q:=p2.2.2 g2
   refine ⟨Nat.log2 (n/65536%256)+16,by omega,?_⟩
   rw[Nat.pow_add,←q.1,w16];omega
  ·by_cases g1:f1=1
   ·have z3:=p3.2.1 (by omega);have z2:=p2.2.1 (by omega);have z0:=p0.2.1 (by omega);have q:=p1.2.2 g1
    refine ⟨Nat.log2 (n/256%256)+8,by omega,?_⟩
    rw[Nat.pow_add,←q.1,w8];omega
   ·have z3:=p3.2.1 (by omega);have z2:=p2.2.1 (by omega);have z1:=p1.2.1 (by omega);have q:=p0.2.2 (by omega)
    refine ⟨Nat.log2 (n%256),by omega,?_⟩
    rw[←q.1];omega
theorem pQ (x:Int32):ah x=(x.toBitVec.toNat:Int):=by
 have e:x.toInt=if 2*x.toBitVec.toNat<2^32 then (x.toBitVec.toNat:Int) else x.toBitVec.toNat-(2^32:Nat):=BitVec.toInt_eq_toNat_cond x.toBitVec
 have b:=x.toBitVec.isLt
 unfold ah
 split at e<;>omega
theorem su {x q:Int32}{k:Nat}(hk:q.toBitVec.toNat%32=k)(h0:0<k):((x.toUInt32>>>(q&&&31).toUInt32).toInt32).toBitVec.toNat=x.toBitVec.toNat/2^k:=by
 have c:=c_iushr x q k hk h0
 have a:=pQ x
 have b:=pQ ((x.toUInt32>>>(q&&&31).toUInt32).toInt32)
 have g:(x.toInt%4294967296)=(x.toBitVec.toNat:Int):=a
 rw[g] at c
 have r:0≤(x.toBitVec.toNat:Int)/((2^k:Nat):Int):=Int.ediv_nonneg (Int.natCast_nonneg _) (Int.natCast_nonneg _)
 have s:=rng32 ((x.toUInt32>>>(q&&&31).toUInt32).toInt32)
 have e:(((x.toUInt32>>>(q&&&31).toUInt32).toInt32).toBitVec.toNat:Int)=(x.toBitVec.toNat:Int)/((2^k:Nat):Int):=by
  rw[←b];unfold ah;omega
 have e':(((x.toBitVec.toNat/2^k:Nat)):Int)=(x.toBitVec.toNat:Int)/((2^k:Nat):Int):=Int.natCast_ediv _ _
 omega
theorem uT (x y:Int32):(x&&&y).toBitVec.toNat=x.toBitVec.toNat&&&y.toBitVec.toNat:=BitVec.toNat_and ..
theorem sx (x y:Int32):(x+y).toBitVec.toNat=(x.toBitVec.toNat+y.toBitVec.toNat)%4294967296:=BitVec.toNat_add ..
theorem Gy (x y:Int32):(x-y).toBitVec.toNat=(4294967296-y.toBitVec.toNat+x.toBitVec.toNat)%4294967296:=BitVec.toNat_sub ..
theorem GA {y i1 i2 i3 i4 i5:Int32}(h1:(y-(((y.toUInt32>>>((1:Int32)&&&31).toUInt32).toInt32)&&&(1431655765:Int32)))=i1)(h2:((i1&&&(858993459:Int32))+(((i1.toUInt32>>>((2:Int32)&&&31).toUInt32).toInt32)&&&(858993459:Int32)))=i2)
  (h3:((i2+((i2.toUInt32>>>((4:Int32)&&&31).toUInt32).toInt32))&&&(252645135:Int32))=i3) (h4:(i3+((i3.toUInt32>>>((8:Int32)&&&31).toUInt32).toInt32))=i4) (h5:(i4+((i4.toUInt32>>>((16:Int32)&&&31).toUInt32).toInt32))=i5) (h6:(i5&&&(63:Int32))=1): ∃k,k<32∧y.toBitVec.toNat=2^k:=by
 have b0:=y.toBitVec.isLt
 have c1:=Gy y (((y.toUInt32>>>((1:Int32)&&&31).toUInt32).toInt32)&&&(1431655765:Int32))
 rw[h1,uT,su (k:=1) rfl (by decide)] at c1
 have c2:=sx (i1&&&(858993459:Int32)) (((i1.toUInt32>>>((2:Int32)&&&31).toUInt32).toInt32)&&&(858993459:Int32))
 rw[h2,uT,uT,su (k:=2) rfl (by decide)] at c2
 have c3:=uT (i2+((i2.toUInt32>>>((4:Int32)&&&31).toUInt32).toInt32)) (252645135:Int32)
 rw[h3,sx,su (k:=4) rfl (by decide)] at c3
 have c4:=sx i3 ((i3.toUInt32>>>((8:Int32)&&&31).toUInt32).toInt32)
 rw[h4,su (k:=8) rfl (by decide)] at c4
 have c5:=sx i4 ((i4.toUInt32>>>((16:Int32)&&&31).toUInt32).toInt32)
 rw[h5,su (k:=16) rfl (by decide)] at c5
 have c6:=c_mask i5 63 6 (by decide) (by decide)
 rw[h6] at c6
 have u5:=pQ i5
 have k1:(1431655765:Int32).toBitVec.toNat=1431655765:=rfl
 have k2:(858993459:Int32).toBitVec.toNat=858993459:=rfl
 have k3:(252645135:Int32).toBitVec.toNat=252645135:=rfl
 have k4:(1:Int32).toInt=1:=rfl
 rw[k1] at c1;rw[k2] at c2;rw[k3] at c3;rw[k4] at c6
 have w1:(2:Nat)^1=2:=rfl
 have w2:(2:Nat)^2=4:=rfl
 have w4:(2:Nat)^4=16:=rfl
 have w8:(2:Nat)^8=256:=rfl
 have w16:(2:Nat)^16=65536:=rfl
 have w6:((2^6:Nat):Int)=64:=rfl
 rw[w1] at c1;rw[w2] at c2;rw[w4] at c3;rw[w8] at c4;rw[w16] at c5;rw[w6] at c6
 generalize y.toBitVec.toNat=n at*
 generalize i1.toBitVec.toNat=x1 at*
 generalize i2.toBitVec.toNat=x2 at*
 generalize i3.toBitVec.toNat=x3 at*
 generalize i4.toBitVec.toNat=x4 at*
 have B:=Gw (n:=n) (by omega) rfl rfl rfl
 have e1:x1=n-((n/2)&&&1431655765):=by
  have:=B.1;generalize (n/2)&&&1431655765=t at*;omega
 rw[←e1] at B
 have e2:x2=(x1&&&858993459)+((x1/4)&&&858993459):=by
  have:=B.2.1;generalize (x1&&&858993459)+((x1/4)&&&858993459)=t at*;omega
 rw[←e2] at B
 have e3:x3=(x2+x2/16)&&&252645135:=by
  rw[c3,Nat.mod_eq_of_lt B.2.2.1]
 rw[←e3] at B
 have e3':=B.2.2.2
 have l3:=(ql (n/16777216) (by omega)).1
 have l2:=(ql (n/65536%256) (by omega)).1
 have l1:=(ql (n/256%256) (by omega)).1
 have l0:=(ql (n%256) (by omega)).1
 have x3b:x3≤134744072:=by
  generalize jR (n/16777216)=f3 at*
  generalize jR (n/65536%256)=f2 at*
  generalize jR (n/256%256)=f1 at*
  generalize jR (n%256)=f0 at*
  omega
 have e4:x4=x3+x3/256:=by omega
 have x4b:x4<2000000000:=by omega
 have e5:i5.toBitVec.toNat=x4+x4/65536:=by omega
 have h7:(x4+x4/65536)%64=1:=by
  rw[←e5];unfold ah at u5;omega
 exact (Gx (by omega) e3' e4 rfl h7).2.2
def mw (t q k:Int32)(p:Int32×Int32):Int32×Int32:=if t<p.1 then ((p.1.toUInt32>>>(q&&&31).toUInt32).toInt32,p.2+k) else p
def pR (y:Int32):Int32:=if 0<((y^^^(-1))&&&(y-1)) then ((mw 4 2 2 (mw 16 4 4 (mw 256 8 8 (mw 65536 16 16 ((y^^^(-1))&&&(y-1),1))))).2+(((mw 4 2 2 (mw 16 4 4 (mw 256 8 8 (mw 65536 16 16 ((y^^^(-1))&&&(y-1),1))))).1.toUInt32>>>((1:Int32)&&&31).toUInt32).toInt32)) else ((y^^^(-1))&&&(y-1))&&&32
theorem uU {t q k i n i' n':Int32}(h1:t<i→i'=((i.toUInt32>>>(q&&&31).toUInt32).toInt32))(h2: ¬t<i→i'=i)(m1:t<i→n'=n+k)(m2: ¬t<i→n'=n):mw t q k (i,n)=(i',n'):=by
 unfold mw
 by_cases c:t<i
 ·simp only[c,if_true];rw[h1 c,m1 c]
 ·simp only[c,if_false];rw[h2 c,m2 c]
theorem GH {y i0 i1 i2 i3 i4 n1 n2 n3 n4:Int32}(h0:((y^^^(-1))&&&(y-1))=i0)(hp:0<i0)(e1:mw 65536 16 16 (i0,1)=(i1,n1))(e2:mw 256 8 8 (i1,n1)=(i2,n2))(e3:mw 16 4 4 (i2,n2)=(i3,n3))(e4:mw 4 2 2 (i3,n3)=(i4,n4)):(n4+((i4.toUInt32>>>((1:Int32)&&&31).toUInt32).toInt32))=pR y:=by
 unfold pR;rw[h0,e1,e2,e3,e4];simp only[hp,if_true]
theorem GI {y i0:Int32}(h0:((y^^^(-1))&&&(y-1))=i0)(hp: ¬0<i0):(i0&&&(32:Int32))=pR y:=by
 unfold pR;rw[h0];simp only[hp,if_false]
theorem GJ: ∀k:Nat,k<32→(pR (Int32.ofNat (2^k))).toInt=(k:Int):=by decide+kernel
theorem z_ {y:Int32}(h: ∃k,k<32∧y.toBitVec.toNat=2^k): ∃k:Nat,k≤31∧ah y=2^k∧(pR y).toInt=k:=by
 obtain ⟨k,hk,e⟩:=h
 have b:=y.toBitVec.isLt
 have z:y=Int32.ofNat (2^k):=by
  apply Int32.toBitVec_inj.mp
  apply BitVec.eq_of_toNat_eq
  show _=(BitVec.ofNat 32 (2^k)).toNat
  rw[BitVec.toNat_ofNat,e,Nat.mod_eq_of_lt (by rw[←e];exact b)]
 refine ⟨k,by omega,by rw[pQ,e];simp,?_⟩
 rw[z];exact GJ k hk
def GK (y r:Int32):Prop:=r=1→ ∃k,k<32∧y.toBitVec.toNat=2^k
section OwnAB
variable (Z:State)(h:Heap)(x a:Addr)(k:ClassId)(n:Int)
def Ab:Prop:= ∃w0,Arv Z h a k .int (1:Int32) [.int w0] (.int (0:Int32))∧ ¬w0=0∧n=ah w0∧Exa Z h a "[I"
def yq:Prop:= ∃w0 w1,Arv Z h a k .int (2:Int32) [.int w0,.int w1] (.int (0:Int32))∧ ¬w0=0∧n=ah w0*4294967296+ah w1∧Exa Z h a "[I"
def GL:Prop:= ∃w0 w1 w2,Arv Z h a k .int (3:Int32) [.int w0,.int w1,.int w2] (.int (0:Int32))∧ ¬w0=0∧n=(ah w0*4294967296+ah w1)*4294967296+ah w2∧Exa Z h a "[I"
def rg:Prop:= ∃w0,fY Z h x a k [w0]∧ ¬w0=0∧n=ah w0
def oj:Prop:= ∃w0 w1,fY Z h x a k [w0,w1]∧ ¬w0=0∧n=ah w0*4294967296+ah w1
def qo:Prop:= ∃w0 w1 w2,fY Z h x a k [w0,w1,w2]∧ ¬w0=0∧n=(ah w0*4294967296+ah w1)*4294967296+ah w2
def yr:Prop:= ∃w0 w1 w2 w3,fY Z h x a k [w0,w1,w2,w3]∧ ¬w0=0∧n=((ah w0*4294967296+ah w1)*4294967296+ah w2)*4294967296+ah w3
end OwnAB
theorem yt {q:Int32}{s:Nat}(h:q.toInt=s)(hs:s≤31):((q.toUInt32>>>((5:Int32)&&&31).toUInt32).toInt32)=0:=by
 have c:=c_iushr q 5 5 (by decide) (by decide)
 rw[←Int32.toInt_inj,c,h]
 show _=0
 have e:((2^5:Nat):Int)=32:=rfl
 rw[e];omega
theorem yu {q:Int32}{s:Nat}(h:q.toInt=s)(hs:s≤31):(q&&&(31:Int32))=q:=by
 have c:=c_mask q 31 5 (by decide) (by decide)
 have e:((2^5:Nat):Int)=32:=rfl
 rw[←Int32.toInt_inj,c,h,e];omega
theorem Ac {q:Int32}{s:Nat}(h:q.toInt=s)(h0: ¬q=0):1≤s:=by
 rw[←Int32.toInt_inj] at h0
 have e:(0:Int32).toInt=0:=rfl
 omega
theorem uW {x:Int32}(h:ah x=0):x=0:=by
 rw[←Int32.toInt_inj]
 have e:(0:Int32).toInt=0:=rfl
 have r:=rng32 x
 unfold ah at h;omega
theorem nj {x:Int32}(h:0<ah x): ¬x=0:=fun q=>by rw[qO q] at h;omega
theorem Af {x:Int32}{n:Int}(h:x.toInt=n)(h0:0≤n):ah x=n:=by have r:=rng32 x;unfold ah;omega
theorem GN {a b:Int32}(h: ¬b<a)(k: ¬a<b):a=b:=by
 rw[←Int32.toInt_inj];rw[Int32.lt_iff_toInt_lt] at h k;omega
section OwnSl
variable {x0 x1 sh:Int32}{ks:Nat}
theorem GP (hs:sh.toInt=(ks:Int))(h0:sh=0):ah x0*2^ks=ah x0:=by
 subst h0
 have e:(0:Int32).toInt=0:=rfl
 have:ks=0:=by omega
 subst this;simp
theorem GQ (hs:sh.toInt=(ks:Int))(h0:sh=0):(ah x0*4294967296+ah x1)*2^ks=ah x0*4294967296+ah x1:=by
 subst h0
 have e:(0:Int32).toInt=0:=rfl
 have:ks=0:=by omega
 subst this;simp
theorem uY (hs:sh.toInt=(ks:Int))(h1:1≤ks)(hk:ks≤31)(h:((x0.toUInt32>>>(((32:Int32)-sh)&&&31).toUInt32).toInt32)=0):ah x0*2^ks/4294967296=0:=by
 rw[←uP hs h1 hk,h];rfl
theorem GR (hs:sh.toInt=(ks:Int))(h1:1≤ks)(hk:ks≤31)(h:((x0.toUInt32>>>(((32:Int32)-sh)&&&31).toUInt32).toInt32)=0)(hx: ¬x0=0): ¬(x0<<<(sh&&&31))=0:=by
 have e:=uY hs h1 hk h
 have s:=o_ (x:=x0) hs hk
 have p:=oY hx
 have g:=jO hk
 have m:=Int.mul_le_mul (Int.add_one_le_of_lt p) g.1 (by decide) (by omega)
 refine nj ?_
 rw[s];omega
theorem GS (hs:sh.toInt=(ks:Int))(h1:1≤ks)(hk:ks≤31):ah x0*2^ks=ah ((x0.toUInt32>>>(((32:Int32)-sh)&&&31).toUInt32).toInt32)*4294967296+ah (x0<<<(sh&&&31)):=by
 have b:=uQ (x:=x0) hk
 rw[Af (uP (x:=x0) hs h1 hk) b.1,o_ hs hk];omega
theorem GW (hs:sh.toInt=(ks:Int))(h1:1≤ks)(hk:ks≤31)(h:((x0.toUInt32>>>(((32:Int32)-sh)&&&31).toUInt32).toInt32)=0):ah x0*2^ks=ah (x0<<<(sh&&&31)):=by
 have e:=uY hs h1 hk h
 rw[o_ hs hk];omega
theorem Ag:(ah x0*4294967296+ah x1)*2^ks=ah x0*2^ks*4294967296+ah x1*2^ks:=by grind
theorem GY (hs:sh.toInt=(ks:Int))(h1:1≤ks)(hk:ks≤31):(ah x0*4294967296+ah x1)*2^ks=(ah ((x0.toUInt32>>>(((32:Int32)-sh)&&&31).toUInt32).toInt32)*4294967296+ah ((x0<<<(sh&&&31))|||((x1.toUInt32>>>(((32:Int32)-sh)&&&31).toUInt32).toInt32)))*4294967296+ah (x1<<<(sh&&&31)):=by
 have b:=uQ (x:=x0) hk
 rw[Ag,Af (uP (x:=x0) hs h1 hk) b.1,oh hs h1 hk,o_ hs hk]
 generalize ah x0*2^ks=p at*
 generalize ah x1*2^ks=q at*
 omega
theorem GZ (hs:sh.toInt=(ks:Int))(h1:1≤ks)(hk:ks≤31)(h:((x0.toUInt32>>>(((32:Int32)-sh)&&&31).toUInt32).toInt32)=0):(ah x0*4294967296+ah x1)*2^ks=ah ((x0<<<(sh&&&31))|||((x1.toUInt32>>>(((32:Int32)-sh)&&&31).toUInt32).toInt32))*4294967296+ah (x1<<<(sh&&&31)):=by
 have e:=uY hs h1 hk h
 rw[Ag,oh hs h1 hk,o_ hs hk]
 generalize ah x0*2^ks=p at*
 generalize ah x1*2^ks=q at*
 omega
theorem G_ (hs:sh.toInt=(ks:Int))(h1:1≤ks)(hk:ks≤31)(h:((x0.toUInt32>>>(((32:Int32)-sh)&&&31).toUInt32).toInt32)=0)(hx: ¬x0=0): ¬((x0<<<(sh&&&31))|||((x1.toUInt32>>>(((32:Int32)-sh)&&&31).toUInt32).toInt32))=0:=by
 have e:=uY hs h1 hk h
 have s:=oh (x:=x0) (y:=x1) hs h1 hk
 have b:=uQ (x:=x1) hk
 have p:=oY hx
 have g:=jO hk
 have m:=Int.mul_le_mul (Int.add_one_le_of_lt p) g.1 (by decide) (by omega)
 refine nj ?_
 rw[s]
 generalize ah x0*2^ks=p at*
 generalize ah x1*2^ks=q at*
 omega
end OwnSl
theorem sy {x y:Int32}{c pr cy:Int64}(hc:0≤c.toInt∧c.toInt<4294967296)(h:(((x.toInt64&&&(4294967295:Int64))*(y.toInt64&&&(4294967295:Int64)))+c)=pr)(h':((pr.toUInt64>>>((32:Int32)&&&0x3f).toInt64.toUInt64).toInt64)=cy):
  ah pr.toInt32=(ah x*ah y+c.toInt)%4294967296∧cy.toInt=(ah x*ah y+c.toInt)/4294967296∧0≤cy.toInt∧cy.toInt<4294967296∧ah cy.toInt32=cy.toInt:=by
 have m:=c_lmul (x.toInt64&&&(4294967295:Int64)) (y.toInt64&&&(4294967295:Int64))
 rw[ij,ij] at m
 have s:=c_ladd ((x.toInt64&&&(4294967295:Int64))*(y.toInt64&&&(4294967295:Int64))) c
 rw[h] at s
 have e:=pN pr;rw[h'] at e
 have l:=ju pr
 have l2:=ju cy
 have rx:=aW x;have ry:=aW y
 have b:=qM rx.1 (show ah x≤4294967295 by omega) ry.1 (show ah y≤4294967295 by omega)
 generalize ah x*ah y=P at*
 generalize ((x.toInt64&&&(4294967295:Int64))*(y.toInt64&&&(4294967295:Int64))).toInt=M at*
 omega
theorem sG:0≤(0:Int64).toInt∧(0:Int64).toInt<4294967296:=by decide
theorem yw {x y:Int32}(hx: ¬x=0)(hy: ¬y=0):1≤ah x*ah y:=by
 have a:=oY hx;have b:=oY hy
 have:=Int.mul_le_mul (show 1≤ah x by omega) (show 1≤ah y by omega) (by decide) (by omega)
 omega
theorem Ah {c:Int64}(h: ¬lcmpW c (0:Int64)=0)(e:ah c.toInt32=c.toInt): ¬c.toInt32=0:=fun q=>by
 have a:=uJ h
 have z:(0:Int64).toInt=0:=rfl
 rw[qO q] at e;omega
section OwnMb
variable {x0 x1 y:Int32}{pr0 cy0 pr1 cy1:Int64}
theorem He (h:(((x0.toInt64&&&(4294967295:Int64))*(y.toInt64&&&(4294967295:Int64)))+(0:Int64))=pr0)(h':((pr0.toUInt64>>>((32:Int32)&&&0x3f).toInt64.toUInt64).toInt64)=cy0):
  ah x0*ah y=ah cy0.toInt32*4294967296+ah pr0.toInt32∧ah cy0.toInt32=cy0.toInt:=by
 obtain ⟨a,b,c,d,e⟩:=sy sG h h'
 have z:(0:Int64).toInt=0:=rfl
 rw[z] at a b
 refine ⟨?_,e⟩
 omega
theorem Hf (h:(((x1.toInt64&&&(4294967295:Int64))*(y.toInt64&&&(4294967295:Int64)))+(0:Int64))=pr1)(h':((pr1.toUInt64>>>((32:Int32)&&&0x3f).toInt64.toUInt64).toInt64)=cy1)
  (k:(((x0.toInt64&&&(4294967295:Int64))*(y.toInt64&&&(4294967295:Int64)))+cy1)=pr0) (k':((pr0.toUInt64>>>((32:Int32)&&&0x3f).toInt64.toUInt64).toInt64)=cy0):
  (ah x0*4294967296+ah x1)*ah y=(ah cy0.toInt32*4294967296+ah pr0.toInt32)*4294967296+ah pr1.toInt32∧ah cy0.toInt32=cy0.toInt∧ah x0*ah y≤ah cy0.toInt32*4294967296+ah pr0.toInt32:=by
 obtain ⟨a,b,c,d,e⟩:=sy sG h h'
 have z:(0:Int64).toInt=0:=rfl
 rw[z] at a b
 obtain ⟨a2,b2,c2,d2,e2⟩:=sy ⟨c,d⟩ k k'
 have g:(ah x0*4294967296+ah x1)*ah y=(ah x0*ah y)*4294967296+ah x1*ah y:=by grind
 rw[g]
 generalize ah x0*ah y=P0 at*
 generalize ah x1*ah y=P1 at*
 refine ⟨?_,e2,?_⟩<;>omega
theorem Ai {c:Int64}(h:lcmpW c (0:Int64)=0)(e:ah c.toInt32=c.toInt):ah c.toInt32=0:=by
 have a:=qj h
 have z:(0:Int64).toInt=0:=rfl
 omega
end OwnMb
section OwnMb2
variable {x0 x1 y c p0 p1:Int32}{E V:Int}
theorem Hg (M:V=ah c*4294967296+ah p0∧ah c=E)(h:ah c=0):V=ah p0:=by have:=M.1;omega
theorem Hh (hx: ¬x0=0)(hy: ¬y=0)(M:ah x0*ah y=ah c*4294967296+ah p0∧ah c=E)(h:ah c=0): ¬p0=0:=nj (by have:=M.1;have:=yw hx hy;omega)
theorem Hj {A B:Int}(M:V=(ah c*4294967296+ah p0)*4294967296+ah p1∧ah c=E∧A≤B)(h:ah c=0):V=ah p0*4294967296+ah p1:=by have:=M.1;omega
theorem Hl (hx: ¬x0=0)(hy: ¬y=0)(M:V=(ah c*4294967296+ah p0)*4294967296+ah p1∧ah c=E∧ah x0*ah y≤ah c*4294967296+ah p0)(h:ah c=0): ¬p0=0:=nj (by have:=M.2.2;have:=yw hx hy;omega)
end OwnMb2
theorem Aj {x y zz:Int32}{c pr cy:Int64}(hc:0≤c.toInt∧c.toInt<4294967296)(h:((((x.toInt64&&&(4294967295:Int64))*(y.toInt64&&&(4294967295:Int64)))+(zz.toInt64&&&(4294967295:Int64)))+c)=pr)(h':((pr.toUInt64>>>((32:Int32)&&&0x3f).toInt64.toUInt64).toInt64)=cy):
  ah pr.toInt32=(ah x*ah y+ah zz+c.toInt)%4294967296∧cy.toInt=(ah x*ah y+ah zz+c.toInt)/4294967296∧0≤cy.toInt∧cy.toInt<4294967296∧ah cy.toInt32=cy.toInt:=by
 have m:=c_lmul (x.toInt64&&&(4294967295:Int64)) (y.toInt64&&&(4294967295:Int64))
 rw[ij,ij] at m
 have s0:=c_ladd ((x.toInt64&&&(4294967295:Int64))*(y.toInt64&&&(4294967295:Int64))) (zz.toInt64&&&(4294967295:Int64))
 rw[ij] at s0
 have s:=c_ladd (((x.toInt64&&&(4294967295:Int64))*(y.toInt64&&&(4294967295:Int64)))+(zz.toInt64&&&(4294967295:Int64))) c
 rw[h] at s
 have e:=pN pr;rw[h'] at e
 have l:=ju pr
 have l2:=ju cy
 have rx:=aW x;have ry:=aW y;have rz:=aW zz
 have b:=qM rx.1 (show ah x≤4294967295 by omega) ry.1 (show ah y≤4294967295 by omega)
 generalize ah x*ah y=P at*
 generalize ((x.toInt64&&&(4294967295:Int64))*(y.toInt64&&&(4294967295:Int64))+(zz.toInt64&&&(4294967295:Int64))).toInt=M0 at*
 generalize ((x.toInt64&&&(4294967295:Int64))*(y.toInt64&&&(4294967295:Int64))).toInt=M at*
 omega
theorem Ho {x0 x1 y0 y1:Int32}{B I F J G cb1 w H:Int64}
  (h1:(((y1.toInt64&&&(4294967295:Int64))*(x1.toInt64&&&(4294967295:Int64)))+(0:Int64))=B) (k1:((B.toUInt64>>>((32:Int32)&&&0x3f).toInt64.toUInt64).toInt64)=I)
  (h2:(((y0.toInt64&&&(4294967295:Int64))*(x1.toInt64&&&(4294967295:Int64)))+I)=F) (k2:((F.toUInt64>>>((32:Int32)&&&0x3f).toInt64.toUInt64).toInt64)=J)
  (h3:((((y1.toInt64&&&(4294967295:Int64))*(x0.toInt64&&&(4294967295:Int64)))+((F.toInt32).toInt64&&&(4294967295:Int64)))+(0:Int64))=G) (k3:((G.toUInt64>>>((32:Int32)&&&0x3f).toInt64.toUInt64).toInt64)=cb1)
  (h4:((((y0.toInt64&&&(4294967295:Int64))*(x0.toInt64&&&(4294967295:Int64)))+((J.toInt32).toInt64&&&(4294967295:Int64)))+cb1)=w) (k4:((w.toUInt64>>>((32:Int32)&&&0x3f).toInt64.toUInt64).toInt64)=H) (hx: ¬x0=0) (hy: ¬y0=0):
  (ah x0*4294967296+ah x1)*(ah y0*4294967296+ah y1)=((ah H.toInt32*4294967296+ah w.toInt32)*4294967296+ah G.toInt32)*4294967296+ah B.toInt32∧(H.toInt32=0→ ¬w.toInt32=0):=by
 have z:(0:Int64).toInt=0:=rfl
 obtain ⟨a1,b1,c1,d1,e1⟩:=sy sG h1 k1
 obtain ⟨a2,b2,c2,d2,e2⟩:=sy ⟨c1,d1⟩ h2 k2
 obtain ⟨a3,b3,c3,d3,e3⟩:=Aj sG h3 k3
 obtain ⟨a4,b4,c4,d4,e4⟩:=Aj ⟨c3,d3⟩ h4 k4
 rw[z] at a1 b1 a3 b3
 have p:=yw hy hx
 have g:(ah x0*4294967296+ah x1)*(ah y0*4294967296+ah y1)=(ah y0*ah x0)*18446744073709551616+(ah y0*ah x1+ah y1*ah x0)*4294967296+ah y1*ah x1:=by grind
 rw[g]
 generalize ah y0*ah x0=K at*
 generalize ah y0*ah x1=M at*
 generalize ah y1*ah x0=S at*
 generalize ah y1*ah x1=P11 at*
 refine ⟨?_,fun q=>nj ?_⟩
 ·omega
 ·have q:=qO q;omega
def lY (Z:State)(P:Heap→Addr→Addr→ClassId→Prop)(h0:Heap)(n0:Nat)(v:Option Value)(h:Heap)(L:List Loc):Prop:= ∃(x a:Addr) (k:ClassId),v=some (.ref x)∧Fr n0 L∧Keep h0 h []∧P h x a k
theorem Hp {z0 z1 z2 z3:Int32}{V:Int}(h:z0=0)(e:V=((ah z0*4294967296+ah z1)*4294967296+ah z2)*4294967296+ah z3):V=(ah z1*4294967296+ah z2)*4294967296+ah z3:=by rw[qO h] at e;omega
theorem sH {n0 n1 n2 dh dl q r:Int}(h:n0*4294967296+n1=q*dh+r):(n0*4294967296+n1)*4294967296+n2-q*(dh*4294967296+dl)=r*4294967296+n2-q*dl:=by rw[h];grind
theorem Hq {n q d:Int}:n-(q-1)*d=n-q*d+d:=by grind
theorem sJ {q dl:Int}(hq:0≤q)(hq':q≤4294967295)(hl:0≤dl)(hl':dl≤4294967295):0≤q*dl∧q*dl≤18446744065119617025:=by
 have:=qM hq hq' hl hl';omega
theorem Am {q r dl n2:Int}(hq:0≤q)(hq':q≤4294967295)(hl:0≤dl)(hl':dl≤4294967295)(hn:0≤n2)(hr:4294967296≤r):0≤r*4294967296+n2-q*dl:=by
 have:=sJ hq hq' hl hl';omega
theorem Hr {q r dh dl n2:Int}(hq:0≤q)(hq':q≤4294967295)(hl:0≤dl)(hl':dl≤4294967295)(hn:0≤n2)(hr:0≤r)(hd:2147483648≤dh):0≤r*4294967296+n2-q*dl+2*(dh*4294967296+dl):=by
 have:=sJ hq hq' hl hl';omega
theorem Ao {n0 n1 n2 dh dl:Int}(hn:n0*4294967296+n1<dh*4294967296+dl)(h2:n2<4294967296):(n0*4294967296+n1)*4294967296+n2-4294967295*(dh*4294967296+dl)<dh*4294967296+dl:=by omega
theorem Ht {q r dh dl n2:Int}(hq:0≤q)(hl:0≤dl)(h2:n2<4294967296)(hr:r<dh):r*4294967296+n2-q*dl<dh*4294967296+dl:=by
 have:=Int.mul_nonneg hq hl;omega
theorem Hu {Q p D c:Int}(hQ:0≤Q∧Q<4294967296)(hp:0≤p∧p≤18446744069414584320)(hD:D=(Q-p)%4294967296)(hc:c=p/4294967296+(if Q<p%4294967296 then 1 else 0)):Q-p=D-c*4294967296∧0≤c∧c<4294967296:=by
 split at hc<;>omega
theorem Hv {n1 n2 x dh dl D1 D2 c1 c2:Int}(h2:n2-x*dl=D2-c2*4294967296)(h1:n1-(x*dh+c2)=D1-c1*4294967296):n1*4294967296+n2-x*(dh*4294967296+dl)=D1*4294967296+D2-c1*18446744073709551616:=by grind
theorem Hw {n0 n1 n2 x d D1 D2 c:Int}(h:n1*4294967296+n2-x*d=D1*4294967296+D2-c*18446744073709551616)(h1:0≤D1∧D1<4294967296)(h2:0≤D2∧D2<4294967296)(hd:d<18446744073709551616)(lo:0≤(n0*4294967296+n1)*4294967296+n2-x*d)(hi:(n0*4294967296+n1)*4294967296+n2-x*d<d):c=n0∧D1*4294967296+D2=(n0*4294967296+n1)*4294967296+n2-x*d:=by
 generalize x*d=y at*
 omega
theorem Hx {N d q0:Int}(hN:0≤N)(hd:2147483648≤d)(hd':d<4294967296)(hNd:N<d*4294967296)(hq:q0=N/2/(d/2)):0≤q0∧ -3*d<N-q0*d∧N-q0*d<d:=by
 have e0:1073741824≤d/2:=by omega
 have a:=Int.emod_add_mul_ediv (N/2) (d/2)
 have b:=Int.emod_nonneg (N/2) (show d/2≠0 by omega)
 have c:=Int.emod_lt_of_pos (N/2) (show 0<d/2 by omega)
 rw[←hq] at a
 have w:0≤q0:=by rw[hq];exact Int.ediv_nonneg (by omega) (by omega)
 generalize hm:N/2%(d/2)=m at*
 generalize he:d/2=ee at*
 --q0 ee=N/2-m,N=2 (q0 ee+m)+N%2,d=2 ee+d%2
 have hN2:N=2*(ee*q0+m)+N%2:=by omega
 have hd2:d=2*ee+d%2:=by omega
 have s:N-q0*d=2*m+N%2-q0*(d%2):=by
  have z:q0*d=2*(ee*q0)+q0*(d%2):=by rw[hd2];grind
  omega
 have B:q0*(d%2)≤2*d:=by
  have:d%2=0∨d%2=1:=by omega
  rcases this with h|h<;>rw[h]
  ·omega
  ·--q0 ee≤N/2<d 2^31,so q0<d 2^31/ee≤ ..
   have k:ee*q0<d*2147483648:=by omega
   have k2:d*2147483648≤ee*(2*d):=by
    have:d*2147483648≤d*(2*ee):=Int.mul_le_mul_of_nonneg_left (by omega) (by omega)
    have z:d*(2*ee)=ee*(2*d):=by grind
    omega
   have k3:q0<2*d:=Int.lt_of_mul_lt_mul_left (Int.lt_of_lt_of_le k k2) (by omega)
   omega
 have F:0≤q0*(d%2):=Int.mul_nonneg w (by omega)
 refine ⟨w,?_,?_⟩
 ·rw[s];omega
 ·rw[s];omega
def qp (U:Int)(i n:Int32)(b:Int):Prop:= ∃s:Nat,s≤31∧n.toInt=31-s∧i.toInt=U/2^s∧0<i.toInt∧i.toInt<b
theorem uZ {U b T:Int}{i n i' n' t q kk:Int32}{k:Nat}(H:qp U i n b)(hk:k≤16)(h0:0<k)(hT:T=2^k)(ht:t.toInt=T)(hq:q.toBitVec.toNat%32=k)(hkk:kk.toInt= -(k:Int))(hb:b≤T*T)(hU:U<2147483648)
  (h1:i<t→i'=i) (h2: ¬i<t→i'=((i.toUInt32>>>(q&&&31).toUInt32).toInt32)) (m1:i<t→n'=n) (m2: ¬i<t→n'=n+kk):qp U i' n' T:=by
 obtain ⟨s,a1,a2,a3,a4,a5⟩:=H
 have r:=rng32 i
 by_cases c:i<t
 ·have c':=Int32.lt_iff_toInt_lt.mp c
  rw[h1 c,m1 c];exact ⟨s,a1,a2,a3,a4,by omega⟩
 ·have c': ¬i.toInt<t.toInt:=fun z=>c (Int32.lt_iff_toInt_lt.mpr z)
  have e:=c_iushr i q k hq h0
  have p:((2^k:Nat):Int)=2^k:=m_ k
  rw[p,←hT] at e
  have g:i.toInt%4294967296=i.toInt:=by omega
  rw[g] at e
  have w:0<T:=by have:=(jO (s:=k) (by omega)).1;omega
  have x:=c_iadd n kk
  have rn:=rng32 (n+kk)
  have sk:s+k≤31:=by
   have u:(2:Int)^s*T≤U:=by
    have z:T≤U/2^s:=by omega
    have zz:=Int.mul_le_mul_of_nonneg_left z (show (0:Int)≤2^s by have:=(jO a1).1;omega)
    exact Int.le_trans zz (Int.mul_ediv_self_le (by have:=(jO a1).1;omega))
   rw[hT,←Int.pow_add] at u
   refine Classical.byContradiction fun hh=> ?_
   have z:=Nat.pow_le_pow_right (n:=2) (by decide) (show 31≤s+k by omega)
   have e31:(2:Nat)^31=2147483648:=rfl
   have y:=m_ (s+k)
   omega
  rw[h2 c,m2 c]
  refine ⟨s+k,sk,by omega,?_,?_,?_⟩
  ·have nn: ¬((2:Int)^s<0):=by have:=(jO a1).1;omega
   rw[e,a3,Int.pow_add,←hT,Int.ediv_ediv];simp[nn]
  ·rw[e];exact Int.lt_of_lt_of_le (by decide:(0:Int)<1) (Int.le_ediv_of_mul_le w (by omega))
  ·rw[e];exact Int.ediv_lt_of_lt_mul w (by omega)
def nu (u:Int)(r:Int32):Prop:= ∃k:Nat,r.toInt=k∧((u=0∧k=32)∨(k≤31∧2147483648≤u*2^k∧u*2^k<4294967296))
theorem Hy {x i n:Int32}(hx:0<x.toInt)(H:qp x.toInt i n 4):nu (ah x) (n-((i.toUInt32>>>((1:Int32)&&&31).toUInt32).toInt32)):=by
 obtain ⟨s,a1,a2,a3,a4,a5⟩:=H
 have rx:=rng32 x
 have eu:ah x=x.toInt:=by unfold ah;omega
 have e:=c_iushr i 1 1 (by decide) (by decide)
 have p1:((2^1:Nat):Int)=2:=rfl
 rw[p1] at e
 have c:=c_isub n ((i.toUInt32>>>((1:Int32)&&&31).toUInt32).toInt32)
 have r:=rng32 (n-((i.toUInt32>>>((1:Int32)&&&31).toUInt32).toInt32))
 have ps:=jO a1
 have q:=Int.emod_add_mul_ediv x.toInt (2^s)
 have q1:=Int.emod_nonneg x.toInt (show (2:Int)^s≠0 by omega)
 have q2:=Int.emod_lt_of_pos x.toInt (show (0:Int)<2^s by omega)
 rw[←a3] at q
 rw[eu]
 have pc: ∀j:Nat,j≤31→(2:Int)^j*2^(31-j)=2147483648:=fun j hj=>by rw[←Int.pow_add,Nat.add_sub_cancel' hj];rfl
 by_cases h1:i.toInt=1
 ·refine ⟨31-s,by omega,Or.inr ⟨by omega,?_,?_⟩⟩
  ·have:=Int.mul_le_mul_of_nonneg_right (show (2:Int)^s≤x.toInt by rw[h1] at q;omega) (show (0:Int)≤2^(31-s) by have:=(jO (s:=31-s) (by omega)).1;omega)
   rw[pc s a1] at this;exact this
  ·have:=Int.mul_lt_mul_of_pos_right (show x.toInt<2*2^s by rw[h1] at q;omega) (show (0:Int)<2^(31-s) by have:=(jO (s:=31-s) (by omega)).1;omega)
   rw[Int.mul_assoc,pc s a1] at this;exact this
 ·have w:s≤30:=by
   refine Classical.byContradiction fun hh=> ?_
   have:s=31:=by omega
   subst this
   have e31:(2:Int)^31=2147483648:=rfl
   rw[e31] at a3;omega
  have pp:(2:Int)^(s+1)=2*2^s:=by rw[Int.pow_succ];omega
  refine ⟨31-(s+1),by omega,Or.inr ⟨by omega,?_,?_⟩⟩
  ·have lo:2*2^s≤x.toInt:=by
    have:=Int.mul_le_mul_of_nonneg_left (show 2≤i.toInt by omega) (show (0:Int)≤2^s by omega);omega
   have:=Int.mul_le_mul_of_nonneg_right (show (2:Int)^(s+1)≤x.toInt by omega) (show (0:Int)≤2^(31-(s+1)) by have:=(jO (s:=31-(s+1)) (by omega)).1;omega)
   rw[pc (s+1) (by omega)] at this;exact this
  ·have hi:x.toInt<2*2^(s+1):=by
    have:=Int.mul_le_mul_of_nonneg_left (show i.toInt≤3 by omega) (show (0:Int)≤2^s by omega);omega
   have:=Int.mul_lt_mul_of_pos_right hi (show (0:Int)<2^(31-(s+1)) by have:=(jO (s:=31-(s+1)) (by omega)).1;omega)
   rw[Int.mul_assoc,pc (s+1) (by omega)] at this;exact this
theorem Hz {x:Int32}(h:x=0):nu (ah x) 32:=⟨32,rfl,Or.inl ⟨by subst h;rfl,rfl⟩⟩
theorem HA {x:Int32}(h: ¬0<x)(h0: ¬x=0):nu (ah x) 0:=by
 rw[Int32.lt_iff_toInt_lt] at h;rw[←Int32.toInt_inj] at h0
 have e:(0:Int32).toInt=0:=rfl
 have r:=rng32 x
 refine ⟨0,rfl,Or.inr ⟨by omega,?_,?_⟩⟩<;>simp only[Int.pow_zero,Int.mul_one]<;>unfold ah<;>omega
theorem HB {x:Int32}(h:0<x):qp x.toInt x 31 4294967296:=by
 rw[Int32.lt_iff_toInt_lt] at h
 have e:(0:Int32).toInt=0:=rfl
 have r:=rng32 x
 exact ⟨0,by decide,rfl,by simp,by omega,by omega⟩
def bD (x:Int64):Int:=x.toInt%18446744073709551616
theorem sW (x:Int64):0≤bD x∧bD x<18446744073709551616:=by unfold bD;omega
theorem u_ (x:Int64):(x+(-9223372036854775808:Int64)).toInt=bD x-9223372036854775808:=by
 have c:=c_ladd x (-9223372036854775808)
 have e:(-9223372036854775808:Int64).toInt= -9223372036854775808:=rfl
 have r:=rng64 (x+(-9223372036854775808:Int64));have r2:=rng64 x
 unfold bD;omega
theorem HC {a b:Int64}(h:0<lcmpW (a+(-9223372036854775808:Int64)) (b+(-9223372036854775808:Int64))):bD b<bD a:=by
 have:=yc h;rw[u_,u_] at this;omega
theorem HD {a b:Int64}(h: ¬0<lcmpW (a+(-9223372036854775808:Int64)) (b+(-9223372036854775808:Int64))):bD a≤bD b:=by
 have:=uI h;rw[u_,u_] at this;omega
section OwnDw
variable {dd:Int32}{dl nn q0 r0 q r q' r':Int64}{j:Int}
theorem HE (e:dl.toInt=ah dd)(h:2147483648≤ah dd): ¬lcmpW dl (1:Int64)=0:=fun q=>by
 have:=qj q
 have o:(1:Int64).toInt=1:=rfl
 omega
theorem yA (x:Int64):((x.toUInt64>>>((1:Int32)&&&0x3f).toInt64.toUInt64).toInt64).toInt=bD x/2:=c_lushr x 1 1 (by decide) (by decide)
theorem HF (e:dl.toInt=ah dd)(h:2147483648≤ah dd):((dl.toUInt64>>>((1:Int32)&&&0x3f).toInt64.toUInt64).toInt64)≠0:=fun q=>by
 have z:=yA dl
 rw[q] at z
 have o:(0:Int64).toInt=0:=rfl
 have r:=aW dd
 unfold bD at z;omega
def qP (N D:Int)(q r:Int64)(j:Int):Prop:=r.toInt=N-q.toInt*D∧(j-3)*D<r.toInt∧r.toInt<D∧ -j≤q.toInt
theorem HG (e:dl.toInt=ah dd)(h:2147483648≤ah dd)(hN:bD nn<ah dd*4294967296)(hq:((nn.toUInt64>>>((1:Int32)&&&0x3f).toInt64.toUInt64).toInt64)/((dl.toUInt64>>>((1:Int32)&&&0x3f).toInt64.toUInt64).toInt64)=q0)(hr:nn-q0*dl=r0):qP (bD nn) (ah dd) q0 r0 0:=by
 have a:=yA nn
 have b:=yA dl
 have w:=aW dd
 have un:=sW nn
 have ul:bD dl=ah dd:=by unfold bD;omega
 rw[ul] at b
 have c:=(c_ldiv ((nn.toUInt64>>>((1:Int32)&&&0x3f).toInt64.toUInt64).toInt64) ((dl.toUInt64>>>((1:Int32)&&&0x3f).toInt64.toUInt64).toInt64) (ah dd/2) b (fun q=>by
  rw[q] at b
  have o:(-1:Int64).toInt= -1:=rfl
  omega)).1 (by rw[a];omega)
 rw[hq,a] at c
 obtain ⟨d1,d2,d3⟩:=Hx un.1 h w.2 hN c
 have m:=c_lmul q0 dl
 rw[e] at m
 have s:=c_lsub nn (q0*dl)
 rw[hr] at s
 have rr:=rng64 r0
 have rq:=rng64 q0
 have B:(bD nn-nn.toInt)%18446744073709551616=0:=by unfold bD;omega
 unfold qP
 generalize q0.toInt*ah dd=P at*
 generalize (q0*dl).toInt=M at*
 refine ⟨?_,?_,?_,?_⟩<;>omega
theorem yD (e:dl.toInt=ah dd)(h:2147483648≤ah dd)(I:qP (bD nn) (ah dd) q r j)(hl:lcmpW r (0:Int64)<0)(hr:r+dl=r')(hq:q-(1:Int64)=q')(hj:0≤j∧j≤2):qP (bD nn) (ah dd) q' r' (j+1):=by
 obtain ⟨a,b,c,d⟩:=I
 have l:=mJ hl
 have o:(0:Int64).toInt=0:=rfl
 have o1:(1:Int64).toInt=1:=rfl
 have w:=aW dd
 have x:=c_ladd r dl;rw[hr,e] at x
 have y:=c_lsub q 1;rw[hq,o1] at y
 have r1:=rng64 r';have r2:=rng64 q';have r3:=rng64 q
 have er:r'.toInt=r.toInt+ah dd:=by
  have: -3*ah dd≤(j-3)*ah dd:=by
   have:=Int.mul_le_mul_of_nonneg_right (show (-3:Int)≤j-3 by omega) w.1;omega
  omega
 have eq:q'.toInt=q.toInt-1:=by omega
 refine ⟨?_,?_,?_,?_⟩
 ·rw[er,eq,a];grind
 ·rw[er];have:(j+1-3)*ah dd=(j-3)*ah dd+ah dd:=by grind
  omega
 ·omega
 ·omega
theorem Aq (e:dl.toInt=ah dd)(I:qP (bD nn) (ah dd) q r 3): ¬lcmpW r (0:Int64)<0:=fun h=>by
 have l:=mJ h
 have o:(0:Int64).toInt=0:=rfl
 have:=I.2.1;omega
theorem vg (e:dl.toInt=ah dd)(I:qP (bD nn) (ah dd) q r j):lcmpW r dl<0:=Classical.byContradiction fun h=>by
 have l:=oX h
 have:=I.2.2.1;omega
theorem vi (e:dl.toInt=ah dd)(h:2147483648≤ah dd)(hN:bD nn<ah dd*4294967296)(I:qP (bD nn) (ah dd) q r j)(hr: ¬lcmpW r (0:Int64)<0):ah ((r<<<((32:Int32)&&&0x3f).toInt64)|||(q&&&(4294967295:Int64))).toInt32=bD nn/ah dd∧bD ((r<<<((32:Int32)&&&0x3f).toInt64)|||(q&&&(4294967295:Int64)))/4294967296=bD nn%ah dd:=by
 obtain ⟨a,b,c,d⟩:=I
 have l:=oX hr
 have o:(0:Int64).toInt=0:=rfl
 rw[o] at l
 have B:=aW dd
 have un:=sW nn
 have eq:bD nn/ah dd=q.toInt∧bD nn%ah dd=r.toInt:=by
  have z:bD nn=r.toInt+ah dd*q.toInt:=by rw[a];grind
  constructor
  ·rw[z,Int.add_mul_ediv_left _ _ (by omega),Int.ediv_eq_zero_of_lt l c];omega
  ·rw[z,Int.add_mul_emod_self_left,Int.emod_eq_of_lt l c]
 have q0:0≤q.toInt:=by rw[←eq.1];exact Int.ediv_nonneg un.1 B.1
 have q1:q.toInt<4294967296:=by rw[←eq.1];exact Int.ediv_lt_of_lt_mul (by omega) (by rw[Int.mul_comm];exact hN)
 have s:=c_lshl r 32 32 (by decide)
 have F:((2^32:Nat):Int)=4294967296:=rfl
 rw[F] at s
 have m:=uM q
 have rs:=rng64 (r<<<((32:Int32)&&&0x3f).toInt64)
 have w:=c_orL (r<<<((32:Int32)&&&0x3f).toInt64) (q&&&(4294967295:Int64)) 32 (by decide) 4294967296 rfl (by omega) (by omega) (by omega)
 have rw_:=rng64 ((r<<<((32:Int32)&&&0x3f).toInt64)|||(q&&&(4294967295:Int64)))
 rw[ju,eq.1,eq.2]
 unfold bD
 generalize ((r<<<((32:Int32)&&&0x3f).toInt64)|||(q&&&(4294967295:Int64))).toInt=W at*
 generalize (r<<<((32:Int32)&&&0x3f).toInt64).toInt=S at*
 generalize (q&&&(4294967295:Int64)).toInt=M at*
 omega
end OwnDw
theorem vk (x:Int32):(x+(-2147483648:Int32)).toInt=ah x-2147483648:=by
 have c:=c_iadd x (-2147483648)
 have e:(-2147483648:Int32).toInt= -2147483648:=rfl
 have r:=rng32 (x+(-2147483648:Int32));have r2:=rng32 x
 unfold ah;omega
theorem qQ {x y:Int32}(h:(x+(-2147483648:Int32))<(y+(-2147483648:Int32))):ah x<ah y:=by
 rw[Int32.lt_iff_toInt_lt,vk,vk] at h;omega
theorem om {x y:Int32}(h: ¬(x+(-2147483648:Int32))<(y+(-2147483648:Int32))):ah y≤ah x:=by
 rw[Int32.lt_iff_toInt_lt,vk,vk] at h;omega
def qt (A B:Int)(r:Int32):Prop:=(r= -1∧A<B)∨(r=0∧A=B)∨(r=1∧B<A)
section OwnC3
variable {x0 x1 y0 y1:Int32}
theorem vl (h:ah x0<ah y0):ah x0*4294967296+ah x1<ah y0*4294967296+ah y1:=by have a:=aW x1;have b:=aW y1;omega
theorem yF {A B:Int}(h:ah y0≤ah x0)(h':ah x0≤ah y0):ah x0*4294967296+A-(ah y0*4294967296+B)=A-B:=by omega
end OwnC3
theorem HJ {a b:Int32}(h:b<a): ¬a<b:=fun q=>by rw[Int32.lt_iff_toInt_lt] at h q;omega
section OwnLv
variable {w0 w1:Int32}
theorem yG (x:Int64)(y:Int32)(hx:0≤x.toInt)(hb:x.toInt*4294967296+ah y<9223372036854775808):((x<<<((32:Int32)&&&0x3f).toInt64)+(y.toInt64&&&(4294967295:Int64))).toInt=x.toInt*4294967296+ah y:=by
 have s:=c_lshl x 32 32 (by decide)
 have w:((2^32:Nat):Int)=4294967296:=rfl
 rw[w] at s
 have a:=c_ladd (x<<<((32:Int32)&&&0x3f).toInt64) (y.toInt64&&&(4294967295:Int64))
 rw[ij] at a
 have u:=aW y
 have r:=rng64 ((x<<<((32:Int32)&&&0x3f).toInt64)+(y.toInt64&&&(4294967295:Int64)))
 omega
theorem Au (y:Int32):(((0:Int64)<<<((32:Int32)&&&0x3f).toInt64)+(y.toInt64&&&(4294967295:Int64))).toInt=ah y:=by
 have u:=aW y
 have z:(0:Int64).toInt=0:=rfl
 have q:=yG (0:Int64) y (by rw[z];omega) (by rw[z];omega)
 rw[q,z];omega
theorem HO (h:ah w0*4294967296+ah w1<9007199254740992):(((((0:Int64)<<<((32:Int32)&&&0x3f).toInt64)+(w0.toInt64&&&(4294967295:Int64)))<<<((32:Int32)&&&0x3f).toInt64)+(w1.toInt64&&&(4294967295:Int64))).toInt=(ah w0*4294967296+ah w1):=by
 have q:=Au w0
 have u:=aW w0
 rw[yG _ _ (by rw[q];omega) (by rw[q];omega),q]
theorem HT:(((((0:Int64)<<<((32:Int32)&&&0x3f).toInt64)+((0:Int32).toInt64&&&(4294967295:Int64)))<<<((32:Int32)&&&0x3f).toInt64)+(w0.toInt64&&&(4294967295:Int64))).toInt=ah w0:=by
 have q:=Au 0
 have z:ah (0:Int32)=0:=rfl
 have u:=aW w0
 rw[yG _ _ (by rw[q,z];omega) (by rw[q,z];omega),q,z];omega
end OwnLv
theorem gJ {α:Type}{P:α→Prop}{L:List α}(n:Nat)(h1: ∀x∈L.take n,P x)(h2: ∀x∈L.drop n,P x): ∀x∈L,P x:=fun x hx=>by
 rw[←List.take_append_drop n L] at hx;exact (List.mem_append.mp hx).elim (h1 x) (h2 x)
section OwnStep2
def dO (p:Program)(c:Code)(s Z:State)(m:MethodId)(own:String)(ml:Nat)(a0:Array Value)(xs:List (Nat×Jvm.ClassFile.Instr×Nat)):Prop:=
 p.tables.exec=Jvm.exec∧(∀(k pc:Nat) (i:Jvm.ClassFile.Instr) (n:Nat),xs[k]? =some (pc,i,n)→decode c.code pc= .ok (i,n))∧s.vm.findClass own=some m.cls∧Z.Warmed39 s.vm∧c.maxLocals=ml∧ ∀d∈tables_1,d.before a0 Z=true
variable {p:Program}{l:Launch}{e:Env}{R:Room}{s:State}{m:MethodId}{args:Array Value}{below:List Frame}{meth:Method}{c:Code}{T:State}{locs:List Loc}{cells slots:Nat}{Fn:Outcome→State→Prop}{pc:Nat}{L:Array Slot}{st:List Value}{k:Nat}{kn:Fin 4}{x y z:Int32}{xl yl zl:Int64}{k2:Fin 2}{a:Value}{i o:Int}{cd:ClassFile.Cond}{Z:State}{own:String}{ml:Nat}{a0:Array Value}{xs:List (Nat×Jvm.ClassFile.Instr×Nat)}
theorem bG {b:ByteArray}(hx:p.tables.exec=Jvm.exec)(w:c.code=b)(H: ∀x∈xs,decode b x.1= .ok (x.2.1,x.2.2))(B:s.vm.findClass own=some m.cls)(hZ:Z.Warmed39 s.vm)(F:c.maxLocals=ml)(hw: ∀d∈tables_1,d.before a0 Z=true):dO p c s Z m own ml a0 xs:=
 And.intro hx (And.intro (fun k _ _ _ h=>fj w H k h) (And.intro B (And.intro hZ (And.intro F hw))))
theorem eG (G:dO p c s Z m own ml a0 xs):p.tables.exec=Jvm.exec:=And.left G
theorem eJ {n:Nat}{i:Jvm.ClassFile.Instr}(G:dO p c s Z m own ml a0 xs)(h:xs[k]? =some (pc,i,n)):decode c.code pc= .ok (i,n):=And.left (And.right G) k pc i n h
theorem pW (G:dO p c s Z m own ml a0 xs):s.vm.findClass own=some m.cls:=And.left (And.right (And.right G))
theorem iz (G:dO p c s Z m own ml a0 xs):Z.Warmed39 s.vm:=And.left (And.right (And.right (And.right G)))
theorem vn (G:dO p c s Z m own ml a0 xs):c.maxLocals=ml:=And.left (And.right (And.right (And.right (And.right G))))
theorem iw {d:Jvm.Cond}(G:dO p c s Z m own ml a0 xs)(h:tables_1[k]? =some d):d.before a0 Z=true:=And.right (And.right (And.right (And.right (And.right G)))) _ (List.mem_of_getElem? h)
theorem aJ (st':List Value)(w:ay p e below Fn T (mkF m pc L st'))(h:st=st':=by exact rfl):ay p e below Fn T (mkF m pc L st):=h▸w
theorem aq (q j:Nat)(X:Stand p l e R s m args below meth c T locs cells slots)(G:dO p c s Z m own ml a0 xs)(w:ay p e below Fn T (mkF m q L (.int x::st)))(hj:xs[j]? =some (pc,.iload k,2):=by exact rfl)(hl:L[k]? =some (.val (.int x)):=by exact rfl)(hq:pc+2=q:=by exact rfl):ay p e below Fn T (mkF m pc L st):=by
 subst hq;exact aG (T':=T) (mkF m (pc+2) L (.int x::st)) (fun _ j=>XS.iload X.here (eG G) rfl (eJ G hj) hl j) w
theorem au (q j:Nat)(X:Stand p l e R s m args below meth c T locs cells slots)(G:dO p c s Z m own ml a0 xs)(w:ay p e below Fn T (mkF m q L (.int x::st)))(hj:xs[j]? =some (pc,.iload_n kn,1):=by exact rfl)(hl:L[kn.val]? =some (.val (.int x)):=by exact rfl)(hq:pc+1=q:=by exact rfl):ay p e below Fn T (mkF m pc L st):=by
 subst hq;exact aG (T':=T) (mkF m (pc+1) L (.int x::st)) (fun _ j=>XS.iloadN X.here (eG G) rfl (eJ G hj) hl j) w
theorem aR (q j:Nat)(X:Stand p l e R s m args below meth c T locs cells slots)(G:dO p c s Z m own ml a0 xs)(w:ay p e below Fn T (mkF m q L (a::st)))(hj:xs[j]? =some (pc,.aload k,2):=by exact rfl)(hl:L[k]? =some (.val a):=by exact rfl)(hv:a.isRef=true:=by exact rfl)(hq:pc+2=q:=by exact rfl):ay p e below Fn T (mkF m pc L st):=by
 subst hq;exact aG (T':=T) (mkF m (pc+2) L (a::st)) (fun _ j=>XS.aload X.here (eG G) rfl (eJ G hj) hl hv j) w
theorem ak (q j:Nat)(X:Stand p l e R s m args below meth c T locs cells slots)(G:dO p c s Z m own ml a0 xs)(w:ay p e below Fn T (mkF m q L (a::st)))(hj:xs[j]? =some (pc,.aload_n kn,1):=by exact rfl)(hl:L[kn.val]? =some (.val a):=by exact rfl)(hv:a.isRef=true:=by exact rfl)(hq:pc+1=q:=by exact rfl):ay p e below Fn T (mkF m pc L st):=by
 subst hq;exact aG (T':=T) (mkF m (pc+1) L (a::st)) (fun _ j=>XS.aloadN X.here (eG G) rfl (eJ G hj) hl hv j) w
theorem aB (q j:Nat)(z:Int32)(X:Stand p l e R s m args below meth c T locs cells slots)(G:dO p c s Z m own ml a0 xs)(w:ay p e below Fn T (mkF m q L (.int z::st)))(hj:xs[j]? =some (pc,.iconst i,1):=by exact rfl)(hz:Int32.ofInt i=z:=by exact rfl)(hq:pc+1=q:=by exact rfl):ay p e below Fn T (mkF m pc L st):=by
 subst hq;subst hz;exact aG (T':=T) (mkF m (pc+1) L (.int (Int32.ofInt i)::st)) (fun _ j=>XS.iconst X.here (eG G) rfl (eJ G hj) j) w
theorem bT (q j:Nat)(z:Int32)(X:Stand p l e R s m args below meth c T locs cells slots)(G:dO p c s Z m own ml a0 xs)(w:ay p e below Fn T (mkF m q L (.int z::st)))(hj:xs[j]? =some (pc,.bipush i,2):=by exact rfl)(hz:(Int8.ofInt i).toInt32=z:=by exact rfl)(hq:pc+2=q:=by exact rfl):ay p e below Fn T (mkF m pc L st):=by
 subst hq;subst hz;exact aG (T':=T) (mkF m (pc+2) L (.int ((Int8.ofInt i).toInt32)::st)) (fun _ j=>XS.bipush X.here (eG G) rfl (eJ G hj) j) w
theorem Av (q j:Nat)(z:Int32)(X:Stand p l e R s m args below meth c T locs cells slots)(G:dO p c s Z m own ml a0 xs)(w:ay p e below Fn T (mkF m q L (.int z::st)))(hj:xs[j]? =some (pc,.sipush i,3):=by exact rfl)(hz:(Int16.ofInt i).toInt32=z:=by exact rfl)(hq:pc+3=q:=by exact rfl):ay p e below Fn T (mkF m pc L st):=by
 subst hq;subst hz;exact aG (T':=T) (mkF m (pc+3) L (.int ((Int16.ofInt i).toInt32)::st)) (fun _ j=>XS.sipush X.here (eG G) rfl (eJ G hj) j) w
theorem bJ (q j:Nat)(X:Stand p l e R s m args below meth c T locs cells slots)(G:dO p c s Z m own ml a0 xs)(w:ay p e below Fn T (mkF m q L (.int z::st)))(hj:xs[j]? =some (pc,.iadd,1):=by exact rfl)(hz:x+y=z:=by exact rfl)(hq:pc+1=q:=by exact rfl):ay p e below Fn T (mkF m pc L (.int y:: .int x::st)):=by
 subst hq;subst hz;exact aG (T':=T) (mkF m (pc+1) L (.int (x+y)::st)) (fun _ j=>XS.iadd X.here (eG G) rfl (eJ G hj) rfl j) w
theorem dQ (q j:Nat)(X:Stand p l e R s m args below meth c T locs cells slots)(G:dO p c s Z m own ml a0 xs)(w:ay p e below Fn T (mkF m q L (.int z::st)))(hj:xs[j]? =some (pc,.isub,1):=by exact rfl)(hz:x-y=z:=by exact rfl)(hq:pc+1=q:=by exact rfl):ay p e below Fn T (mkF m pc L (.int y:: .int x::st)):=by
 subst hq;subst hz;exact aG (T':=T) (mkF m (pc+1) L (.int (x-y)::st)) (fun _ j=>XS.isub X.here (eG G) rfl (eJ G hj) rfl j) w
theorem pz (q j:Nat)(X:Stand p l e R s m args below meth c T locs cells slots)(G:dO p c s Z m own ml a0 xs)(w:ay p e below Fn T (mkF m q L (.int z::st)))(hj:xs[j]? =some (pc,.iand,1):=by exact rfl)(hz:x&&&y=z:=by exact rfl)(hq:pc+1=q:=by exact rfl):ay p e below Fn T (mkF m pc L (.int y:: .int x::st)):=by
 subst hq;subst hz;exact aG (T':=T) (mkF m (pc+1) L (.int (x&&&y)::st)) (fun _ j=>XS.iand X.here (eG G) rfl (eJ G hj) rfl j) w
theorem sY (q j:Nat)(X:Stand p l e R s m args below meth c T locs cells slots)(G:dO p c s Z m own ml a0 xs)(w:ay p e below Fn T (mkF m q L (.int z::st)))(hj:xs[j]? =some (pc,.ior,1):=by exact rfl)(hz:x|||y=z:=by exact rfl)(hq:pc+1=q:=by exact rfl):ay p e below Fn T (mkF m pc L (.int y:: .int x::st)):=by
 subst hq;subst hz;exact aG (T':=T) (mkF m (pc+1) L (.int (x|||y)::st)) (fun _ j=>XS.ior X.here (eG G) rfl (eJ G hj) rfl j) w
theorem nG (q j:Nat)(X:Stand p l e R s m args below meth c T locs cells slots)(G:dO p c s Z m own ml a0 xs)(w:ay p e below Fn T (mkF m q L (.int z::st)))(hj:xs[j]? =some (pc,.ishl,1):=by exact rfl)(hz:x<<<(y&&&31)=z:=by exact rfl)(hq:pc+1=q:=by exact rfl):ay p e below Fn T (mkF m pc L (.int y:: .int x::st)):=by
 subst hq;subst hz;exact aG (T':=T) (mkF m (pc+1) L (.int (x<<<(y&&&31))::st)) (fun _ j=>XS.ishl X.here (eG G) rfl (eJ G hj) rfl j) w
theorem jw (q j:Nat)(X:Stand p l e R s m args below meth c T locs cells slots)(G:dO p c s Z m own ml a0 xs)(w:ay p e below Fn T (mkF m q L (.int z::st)))(hj:xs[j]? =some (pc,.iushr,1):=by exact rfl)(hz:(x.toUInt32>>>(y&&&31).toUInt32).toInt32=z:=by exact rfl)(hq:pc+1=q:=by exact rfl):ay p e below Fn T (mkF m pc L (.int y:: .int x::st)):=by
 subst hq;subst hz;exact aG (T':=T) (mkF m (pc+1) L (.int ((x.toUInt32>>>(y&&&31).toUInt32).toInt32)::st)) (fun _ j=>XS.iushr X.here (eG G) rfl (eJ G hj) rfl j) w
theorem yJ (q j:Nat)(X:Stand p l e R s m args below meth c T locs cells slots)(G:dO p c s Z m own ml a0 xs)(w:ay p e below Fn T (mkF m q L (.int z::st)))(hj:xs[j]? =some (pc,.ixor,1):=by exact rfl)(hz:x^^^y=z:=by exact rfl)(hq:pc+1=q:=by exact rfl):ay p e below Fn T (mkF m pc L (.int y:: .int x::st)):=by
 subst hq;subst hz;exact aG (T':=T) (mkF m (pc+1) L (.int (x^^^y)::st)) (fun _ j=>XS.ixor X.here (eG G) rfl (eJ G hj) rfl j) w
theorem jh (q j:Nat)(X:Stand p l e R s m args below meth c T locs cells slots)(G:dO p c s Z m own ml a0 xs)(w:ay p e below Fn T (mkF m q L (a::a::st)))(hj:xs[j]? =some (pc,.dup,1):=by exact rfl)(hv:a.category=1:=by exact rfl)(hq:pc+1=q:=by exact rfl):ay p e below Fn T (mkF m pc L (a::st)):=by
 subst hq;exact aG (T':=T) (mkF m (pc+1) L (a::a::st)) (fun _ j=>XS.dup X.here (eG G) rfl (eJ G hj) rfl hv j) w
theorem pX (q j:Nat)(X:Stand p l e R s m args below meth c T locs cells slots)(G:dO p c s Z m own ml a0 xs)(w:ay p e below Fn T (mkF m q L st))(hj:xs[j]? =some (pc,.pop,1):=by exact rfl)(hv:a.category=1:=by exact rfl)(hq:pc+1=q:=by exact rfl):ay p e below Fn T (mkF m pc L (a::st)):=by
 subst hq;exact aG (T':=T) (mkF m (pc+1) L st) (fun _ j=>XS.pop X.here (eG G) rfl (eJ G hj) rfl hv j) w
theorem vu (q j:Nat)(X:Stand p l e R s m args below meth c T locs cells slots)(G:dO p c s Z m own ml a0 xs)(w:ay p e below Fn T (mkF m q L (.null::st)))(hj:xs[j]? =some (pc,.aconst_null,1):=by exact rfl)(hq:pc+1=q:=by exact rfl):ay p e below Fn T (mkF m pc L st):=by
 subst hq;exact aG (T':=T) (mkF m (pc+1) L (.null::st)) (fun _ j=>XS.aconstNull X.here (eG G) rfl (eJ G hj) j) w
theorem bh (q j:Nat)(L':Array Slot)(X:Stand p l e R s m args below meth c T locs cells slots)(G:dO p c s Z m own ml a0 xs)(w:ay p e below Fn T (mkF m q L' st))(hj:xs[j]? =some (pc,.istore k,2):=by exact rfl)(hl:storeLocals L k (.int x)=some L':=by exact rfl)(hq:pc+2=q:=by exact rfl):ay p e below Fn T (mkF m pc L (.int x::st)):=by
 subst hq;exact aG (T':=T) (mkF m (pc+2) L' st) (fun _ j=>XS.istore X.here (eG G) rfl (eJ G hj) rfl hl j) w
theorem eO (q j:Nat)(L':Array Slot)(X:Stand p l e R s m args below meth c T locs cells slots)(G:dO p c s Z m own ml a0 xs)(w:ay p e below Fn T (mkF m q L' st))(hj:xs[j]? =some (pc,.istore_n kn,1):=by exact rfl)(hl:storeLocals L kn.val (.int x)=some L':=by exact rfl)(hq:pc+1=q:=by exact rfl):ay p e below Fn T (mkF m pc L (.int x::st)):=by
 subst hq;exact aG (T':=T) (mkF m (pc+1) L' st) (fun _ j=>XS.istoreN X.here (eG G) rfl (eJ G hj) rfl hl j) w
theorem gY (q j:Nat)(L':Array Slot)(X:Stand p l e R s m args below meth c T locs cells slots)(G:dO p c s Z m own ml a0 xs)(w:ay p e below Fn T (mkF m q L' st))(hj:xs[j]? =some (pc,.astore k,2):=by exact rfl)(hv:a.isRef=true:=by exact rfl)(hl:storeLocals L k a=some L':=by exact rfl)(hq:pc+2=q:=by exact rfl):ay p e below Fn T (mkF m pc L (a::st)):=by
 subst hq;exact aG (T':=T) (mkF m (pc+2) L' st) (fun _ j=>XS.astore X.here (eG G) rfl (eJ G hj) rfl hv hl j) w
theorem qu (q j:Nat)(L':Array Slot)(X:Stand p l e R s m args below meth c T locs cells slots)(G:dO p c s Z m own ml a0 xs)(w:ay p e below Fn T (mkF m q L' st))(hj:xs[j]? =some (pc,.astore_n kn,1):=by exact rfl)(hv:a.isRef=true:=by exact rfl)(hl:storeLocals L kn.val a=some L':=by exact rfl)(hq:pc+1=q:=by exact rfl):ay p e below Fn T (mkF m pc L (a::st)):=by
 subst hq;exact aG (T':=T) (mkF m (pc+1) L' st) (fun _ j=>XS.astoreN X.here (eG G) rfl (eJ G hj) rfl hv hl j) w
theorem dG (q j:Nat)(L':Array Slot)(X:Stand p l e R s m args below meth c T locs cells slots)(G:dO p c s Z m own ml a0 xs)(w:ay p e below Fn T (mkF m q L' st))(hj:xs[j]? =some (pc,.iinc k i,3):=by exact rfl)(hl:L[k]? =some (.val (.int x)):=by exact rfl)(hl':storeLocals L k (.int (x+Int32.ofInt i))=some L':=by exact rfl)(hq:pc+3=q:=by exact rfl):ay p e below Fn T (mkF m pc L st):=by
 subst hq;exact aG (T':=T) (mkF m (pc+3) L' st) (fun _ j=>XS.iinc X.here (eG G) rfl (eJ G hj) hl hl' j) w
theorem bw (q j:Nat)(X:Stand p l e R s m args below meth c T locs cells slots)(G:dO p c s Z m own ml a0 xs)(hj:xs[j]? =some (pc,.ifCond cd o,3))(hc:ifCond.holds cd x=false)(w:ay p e below Fn T (mkF m q L st))(hq:pc+3=q:=by exact rfl):ay p e below Fn T (mkF m pc L (.int x::st)):=by
 subst hq;exact aG (T':=T) (mkF m (pc+3) L st) (fun _ j=>XS.ifNo X.here (eG G) rfl (eJ G hj) rfl hc j) w
theorem bY (q j:Nat)(X:Stand p l e R s m args below meth c T locs cells slots)(G:dO p c s Z m own ml a0 xs)(hj:xs[j]? =some (pc,.if_icmp cd o,3))(hc:if_icmp.holds cd x y=false)(w:ay p e below Fn T (mkF m q L st))(hq:pc+3=q:=by exact rfl):ay p e below Fn T (mkF m pc L (.int y:: .int x::st)):=by
 subst hq;exact aG (T':=T) (mkF m (pc+3) L st) (fun _ j=>XS.icmpNo X.here (eG G) rfl (eJ G hj) rfl hc j) w
theorem aI (q j:Nat)(X:Stand p l e R s m args below meth c T locs cells slots)(G:dO p c s Z m own ml a0 xs)(w:ay p e below Fn T (mkF m q L (.long xl::st)))(hj:xs[j]? =some (pc,.lload k,2):=by exact rfl)(hl:L[k]? =some (.val (.long xl)):=by exact rfl)(hq:pc+2=q:=by exact rfl):ay p e below Fn T (mkF m pc L st):=by
 subst hq;exact aG (T':=T) (mkF m (pc+2) L (.long xl::st)) (fun _ j=>XS.lload X.here (eG G) rfl (eJ G hj) hl j) w
theorem eW (q j:Nat)(X:Stand p l e R s m args below meth c T locs cells slots)(G:dO p c s Z m own ml a0 xs)(w:ay p e below Fn T (mkF m q L (.long xl::st)))(hj:xs[j]? =some (pc,.lload_n kn,1):=by exact rfl)(hl:L[kn.val]? =some (.val (.long xl)):=by exact rfl)(hq:pc+1=q:=by exact rfl):ay p e below Fn T (mkF m pc L st):=by
 subst hq;exact aG (T':=T) (mkF m (pc+1) L (.long xl::st)) (fun _ j=>XS.lloadN X.here (eG G) rfl (eJ G hj) hl j) w
theorem dN (q j:Nat)(L':Array Slot)(X:Stand p l e R s m args below meth c T locs cells slots)(G:dO p c s Z m own ml a0 xs)(w:ay p e below Fn T (mkF m q L' st))(hj:xs[j]? =some (pc,.lstore k,2):=by exact rfl)(hl:storeLocals L k (.long xl)=some L':=by exact rfl)(hq:pc+2=q:=by exact rfl):ay p e below Fn T (mkF m pc L (.long xl::st)):=by
 subst hq;exact aG (T':=T) (mkF m (pc+2) L' st) (fun _ j=>XS.lstore X.here (eG G) rfl (eJ G hj) rfl hl j) w
theorem pY (q j:Nat)(L':Array Slot)(X:Stand p l e R s m args below meth c T locs cells slots)(G:dO p c s Z m own ml a0 xs)(w:ay p e below Fn T (mkF m q L' st))(hj:xs[j]? =some (pc,.lstore_n kn,1):=by exact rfl)(hl:storeLocals L kn.val (.long xl)=some L':=by exact rfl)(hq:pc+1=q:=by exact rfl):ay p e below Fn T (mkF m pc L (.long xl::st)):=by
 subst hq;exact aG (T':=T) (mkF m (pc+1) L' st) (fun _ j=>XS.lstoreN X.here (eG G) rfl (eJ G hj) rfl hl j) w
theorem jl (q j:Nat)(zl:Int64)(X:Stand p l e R s m args below meth c T locs cells slots)(G:dO p c s Z m own ml a0 xs)(w:ay p e below Fn T (mkF m q L (.long zl::st)))(hj:xs[j]? =some (pc,.lconst k2,1):=by exact rfl)(hz:Int64.ofNat k2=zl:=by exact rfl)(hq:pc+1=q:=by exact rfl):ay p e below Fn T (mkF m pc L st):=by
 subst hq;subst hz;exact aG (T':=T) (mkF m (pc+1) L (.long (Int64.ofNat k2)::st)) (fun _ j=>XS.lconst X.here (eG G) rfl (eJ G hj) j) w
theorem iu (q j:Nat)(X:Stand p l e R s m args below meth c T locs cells slots)(G:dO p c s Z m own ml a0 xs)(w:ay p e below Fn T (mkF m q L (.long zl::st)))(hj:xs[j]? =some (pc,.ladd,1):=by exact rfl)(hz:xl+yl=zl:=by exact rfl)(hq:pc+1=q:=by exact rfl):ay p e below Fn T (mkF m pc L (.long yl:: .long xl::st)):=by
 subst hq;subst hz;exact aG (T':=T) (mkF m (pc+1) L (.long (xl+yl)::st)) (fun _ j=>XS.ladd X.here (eG G) rfl (eJ G hj) rfl j) w
theorem mK (q j:Nat)(X:Stand p l e R s m args below meth c T locs cells slots)(G:dO p c s Z m own ml a0 xs)(w:ay p e below Fn T (mkF m q L (.long zl::st)))(hj:xs[j]? =some (pc,.lsub,1):=by exact rfl)(hz:xl-yl=zl:=by exact rfl)(hq:pc+1=q:=by exact rfl):ay p e below Fn T (mkF m pc L (.long yl:: .long xl::st)):=by
 subst hq;subst hz;exact aG (T':=T) (mkF m (pc+1) L (.long (xl-yl)::st)) (fun _ j=>XS.lsub X.here (eG G) rfl (eJ G hj) rfl j) w
theorem jA (q j:Nat)(X:Stand p l e R s m args below meth c T locs cells slots)(G:dO p c s Z m own ml a0 xs)(w:ay p e below Fn T (mkF m q L (.long zl::st)))(hj:xs[j]? =some (pc,.lmul,1):=by exact rfl)(hz:xl*yl=zl:=by exact rfl)(hq:pc+1=q:=by exact rfl):ay p e below Fn T (mkF m pc L (.long yl:: .long xl::st)):=by
 subst hq;subst hz;exact aG (T':=T) (mkF m (pc+1) L (.long (xl*yl)::st)) (fun _ j=>XS.lmul X.here (eG G) rfl (eJ G hj) rfl j) w
theorem bR (q j:Nat)(X:Stand p l e R s m args below meth c T locs cells slots)(G:dO p c s Z m own ml a0 xs)(w:ay p e below Fn T (mkF m q L (.long zl::st)))(hj:xs[j]? =some (pc,.land,1):=by exact rfl)(hz:xl&&&yl=zl:=by exact rfl)(hq:pc+1=q:=by exact rfl):ay p e below Fn T (mkF m pc L (.long yl:: .long xl::st)):=by
 subst hq;subst hz;exact aG (T':=T) (mkF m (pc+1) L (.long (xl&&&yl)::st)) (fun _ j=>XS.land X.here (eG G) rfl (eJ G hj) rfl j) w
theorem ot (q j:Nat)(X:Stand p l e R s m args below meth c T locs cells slots)(G:dO p c s Z m own ml a0 xs)(w:ay p e below Fn T (mkF m q L (.long zl::st)))(hj:xs[j]? =some (pc,.lor,1):=by exact rfl)(hz:xl|||yl=zl:=by exact rfl)(hq:pc+1=q:=by exact rfl):ay p e below Fn T (mkF m pc L (.long yl:: .long xl::st)):=by
 subst hq;subst hz;exact aG (T':=T) (mkF m (pc+1) L (.long (xl|||yl)::st)) (fun _ j=>XS.lor X.here (eG G) rfl (eJ G hj) rfl j) w
theorem kj (q j:Nat)(X:Stand p l e R s m args below meth c T locs cells slots)(G:dO p c s Z m own ml a0 xs)(w:ay p e below Fn T (mkF m q L (.long zl::st)))(hj:xs[j]? =some (pc,.lshl,1):=by exact rfl)(hz:xl<<<(y&&&0x3f).toInt64=zl:=by exact rfl)(hq:pc+1=q:=by exact rfl):ay p e below Fn T (mkF m pc L (.int y:: .long xl::st)):=by
 subst hq;subst hz;exact aG (T':=T) (mkF m (pc+1) L (.long (xl<<<(y&&&0x3f).toInt64)::st)) (fun _ j=>XS.lshl X.here (eG G) rfl (eJ G hj) rfl j) w
theorem jD (q j:Nat)(X:Stand p l e R s m args below meth c T locs cells slots)(G:dO p c s Z m own ml a0 xs)(w:ay p e below Fn T (mkF m q L (.long zl::st)))(hj:xs[j]? =some (pc,.lushr,1):=by exact rfl)(hz:(xl.toUInt64>>>(y&&&0x3f).toInt64.toUInt64).toInt64=zl:=by exact rfl)(hq:pc+1=q:=by exact rfl):ay p e below Fn T (mkF m pc L (.int y:: .long xl::st)):=by
 subst hq;subst hz;exact aG (T':=T) (mkF m (pc+1) L (.long ((xl.toUInt64>>>(y&&&0x3f).toInt64.toUInt64).toInt64)::st)) (fun _ j=>XS.lushr X.here (eG G) rfl (eJ G hj) rfl j) w
theorem bW (q j:Nat)(X:Stand p l e R s m args below meth c T locs cells slots)(G:dO p c s Z m own ml a0 xs)(w:ay p e below Fn T (mkF m q L (.long x.toInt64::st)))(hj:xs[j]? =some (pc,.i2l,1):=by exact rfl)(hq:pc+1=q:=by exact rfl):ay p e below Fn T (mkF m pc L (.int x::st)):=by
 subst hq;exact aG (T':=T) (mkF m (pc+1) L (.long x.toInt64::st)) (fun _ j=>XS.i2l X.here (eG G) rfl (eJ G hj) rfl j) w
theorem gn (q j:Nat)(X:Stand p l e R s m args below meth c T locs cells slots)(G:dO p c s Z m own ml a0 xs)(w:ay p e below Fn T (mkF m q L (.int xl.toInt32::st)))(hj:xs[j]? =some (pc,.l2i,1):=by exact rfl)(hq:pc+1=q:=by exact rfl):ay p e below Fn T (mkF m pc L (.long xl::st)):=by
 subst hq;exact aG (T':=T) (mkF m (pc+1) L (.int xl.toInt32::st)) (fun _ j=>XS.l2i X.here (eG G) rfl (eJ G hj) rfl j) w
theorem iq (q j:Nat)(X:Stand p l e R s m args below meth c T locs cells slots)(G:dO p c s Z m own ml a0 xs)(w:ay p e below Fn T (mkF m q L (.int (lcmpW xl yl)::st)))(hj:xs[j]? =some (pc,.lcmp,1):=by exact rfl)(hq:pc+1=q:=by exact rfl):ay p e below Fn T (mkF m pc L (.long yl:: .long xl::st)):=by
 subst hq;exact aG (T':=T) (mkF m (pc+1) L (.int (lcmpW xl yl)::st)) (fun _ j=>XS.lcmp X.here (eG G) rfl (eJ G hj) rfl j) w
theorem bO (q n j:Nat)(X:Stand p l e R s m args below meth c T locs cells slots)(G:dO p c s Z m own ml a0 xs){v:Int64}(w:ay p e below Fn T (mkF m q L (.long v::st)))(hj:xs[j]? =some (pc,.ldc2_w k,3):=by exact rfl)(hn:tables_1[n]? =some (.constantLong own k v):=by exact rfl)(hq:pc+3=q:=by exact rfl):ay p e below Fn T (mkF m pc L st):=by
 subst hq;exact aG (T':=T) (mkF m (pc+3) L (.long v::st)) (X.ldc2Long (eG G) (pW G) (mvT (iz G) (iw G hn)) (g:=mkF m pc L st) rfl (eJ G hj)) w
theorem mQ (q n j:Nat)(X:Stand p l e R s m args below meth c T locs cells slots)(G:dO p c s Z m own ml a0 xs){v:Int32}(w:ay p e below Fn T (mkF m q L (.int v::st)))(hj:xs[j]? =some (pc,.ldc k,2):=by exact rfl)(hn:tables_1[n]? =some (.constant own k v):=by exact rfl)(hq:pc+2=q:=by exact rfl):ay p e below Fn T (mkF m pc L st):=by
 subst hq;exact aG (T':=T) (mkF m (pc+2) L (.int v::st)) (X.ldcInt (eG G) (pW G) (mvT (iz G) (iw G hn)) (g:=mkF m pc L st) rfl (eJ G hj)) w
theorem rj (q n j:Nat)(X:Stand p l e R s m args below meth c T locs cells slots)(G:dO p c s Z m own ml a0 xs){v:Int32}(w:ay p e below Fn T (mkF m q L (.int v::st)))(hj:xs[j]? =some (pc,.ldc_w k,3):=by exact rfl)(hn:tables_1[n]? =some (.constant own k v):=by exact rfl)(hq:pc+3=q:=by exact rfl):ay p e below Fn T (mkF m pc L st):=by
 subst hq;exact aG (T':=T) (mkF m (pc+3) L (.int v::st)) (X.ldcwInt (eG G) (pW G) (mvT (iz G) (iw G hn)) (g:=mkF m pc L st) rfl (eJ G hj)) w
theorem bL (q j:Nat)(X:Stand p l e R s m args below meth c T locs cells slots)(G:dO p c s Z m own ml a0 xs)(w:ay p e below Fn T (mkF m q L st))(hj:xs[j]? =some (pc,.goto o,3):=by exact rfl)(ho:0≤(pc:Int)+o:=by decide)(hq:((pc:Int)+o).toNat=q:=by decide):ay p e below Fn T (mkF m pc L st):=
 aG (T':=T) (mkF m q L st) (fun _ j=>XS.goto X.here (eG G) rfl (pc0:=pc) rfl (eJ G hj) ho hq j) w
theorem bk (q j:Nat)(X:Stand p l e R s m args below meth c T locs cells slots)(G:dO p c s Z m own ml a0 xs)(hj:xs[j]? =some (pc,.ifCond cd o,3))(hc:ifCond.holds cd x=true)(w:ay p e below Fn T (mkF m q L st))(ho:0≤(pc:Int)+o:=by decide)(hq:((pc:Int)+o).toNat=q:=by decide):ay p e below Fn T (mkF m pc L (.int x::st)):=
 aG (T':=T) (mkF m q L st) (fun _ j=>XS.ifYes X.here (eG G) rfl (pc0:=pc) rfl (eJ G hj) rfl hc ho hq j) w
theorem bQ (q j:Nat)(X:Stand p l e R s m args below meth c T locs cells slots)(G:dO p c s Z m own ml a0 xs)(hj:xs[j]? =some (pc,.if_icmp cd o,3))(hc:if_icmp.holds cd x y=true)(w:ay p e below Fn T (mkF m q L st))(ho:0≤(pc:Int)+o:=by decide)(hq:((pc:Int)+o).toNat=q:=by decide):ay p e below Fn T (mkF m pc L (.int y:: .int x::st)):=
 aG (T':=T) (mkF m q L st) (fun _ j=>XS.icmpYes X.here (eG G) rfl (pc0:=pc) rfl (eJ G hj) rfl hc ho hq j) w
end OwnStep2
section OwnHeap2
variable {p:Program}{l:Launch}{e:Env}{R:Room}{s:State}{m:MethodId}{args:Array Value}{below:List Frame}{meth:Method}{c:Code}{T:State}{locs:List Loc}{cells slots:Nat}{Fn:Outcome→State→Prop}{pc:Nat}{L:Array Slot}{st:List Value}{Z:State}{a0:Array Value}{h:Heap}{own O nf d C:String}{index kk ml:Nat}{a:Addr}{v old dv:Value}{ty:FieldType}{k:ClassId}{z j x:Int32}{vs:List Value}{xs:List (Nat×Jvm.ClassFile.Instr×Nat)}
theorem aE (q i n:Nat)(X:Stand p l e R s m args below meth c T locs cells slots)(G:dO p c s Z m own ml a0 xs)(eT:T.heap=h)(F:Fld Z h a O nf d v)(w: ∀T':State,Stand p l e R s m args below meth c T' locs cells slots→T'.heap=h→ay p e below Fn T' (mkF m q L (v::st)))(hi:xs[i]? =some (pc,.getfield index,3):=by exact rfl)(hn:tables_1[n]? =some (.fieldLink own index O nf d):=by exact rfl)(hq:pc+3=q:=by exact rfl):ay p e below Fn T (mkF m pc L (.ref a::st)):=
 Fy q X (eG G) (iz G) (pW G) (iw G hn) eT F (eJ G hi) hq w
theorem fh (q i n u:Nat)(X:Stand p l e R s m args below meth c T locs cells slots)(G:dO p c s Z m own ml a0 xs)(eT:T.heap=h)(F:Fld Z h a O nf d old)(E:Exa Z h a C)(lw:(Jvm.Cond.lays C O nf d).before a0 Z=true∨((Jvm.Cond.laysFinal C O nf d).before a0 Z=true∧own=O∧meth.name="<init>"))(w: ∀(T':State) (h':Heap),Stand p l e R s m args below meth c T' (locs++ [⟨a,Jvm.RoadKit.slotOf Z O nf d⟩]) cells slots→T'.heap=h'→Wr h h' a (Jvm.RoadKit.slotOf Z O nf d) v→ay p e below Fn T' (mkF m q L st))
  (hi:xs[i]? =some (pc,.putfield index,3):=by exact rfl) (hn:tables_1[n]? =some (.fieldLink own index O nf d):=by exact rfl) (hu:tables_1[u]? =some (.instantiable C kk):=by exact rfl) (hty:parseFieldDescriptor d=some ty:=by decide) (hna:narrow ty v=v:=by exact rfl) (hf:fits ty v=true:=by exact rfl) (hq:pc+3=q:=by exact rfl):ay p e below Fn T (mkF m pc L (v:: .ref a::st)):=
 FL q X (eG G) (iz G) (pW G) (iw G hn) eT F E lw (iw G hu) hty hna hf (eJ G hi) hq w
theorem bU (q i:Nat)(X:Stand p l e R s m args below meth c T locs cells slots)(G:dO p c s Z m own ml a0 xs)(eT:T.heap=h)(F:Arv Z h a k ty z vs dv)(w:ay p e below Fn T (mkF m q L (.int z::st)))(hi:xs[i]? =some (pc,.arraylength,1):=by exact rfl)(hq:pc+1=q:=by exact rfl):ay p e below Fn T (mkF m pc L (.ref a::st)):=
 FN q X (eG G) (iz G) eT F (eJ G hi) hq w
theorem eY (q i:Nat)(X:Stand p l e R s m args below meth c T locs cells slots)(G:dO p c s Z m own ml a0 xs)(eT:T.heap=h)(F:Arv Z h a k .int z vs dv)(w:ay p e below Fn T (mkF m q L (.int x::st)))(hi:xs[i]? =some (pc,.iaload,1):=by exact rfl)(ib: ¬j<0∧j<z:=by decide)(u:vs.getD j.toNatClampNeg dv= .int x:=by exact rfl)(hq:pc+1=q:=by exact rfl):ay p e below Fn T (mkF m pc L (.int j:: .ref a::st)):=
 zT q X (eG G) (iz G) eT F ib u (eJ G hi) hq w
theorem iY (q n i:Nat)(X:Stand p l e R s m args below meth c T locs cells slots)(G:dO p c s Z m own ml a0 xs)(eT:T.heap=h)(F:Arv Z h a k .int z vs dv)(w: ∀(T':State) (h':Heap),Stand p l e R s m args below meth c T' (locs++ [⟨a,(j).toNatClampNeg⟩]) cells slots→T'.heap=h'→Wr h h' a j.toNatClampNeg (.int x)→Arv Z h' a k .int z (vs.set n (.int x)) dv→ay p e below Fn T' (mkF m q L st))(hi:xs[i]? =some (pc,.iastore,1):=by exact rfl)(ib: ¬j<0∧j<z:=by decide)(hj:j.toNatClampNeg=n:=by exact rfl)(hn:n<vs.length:=by exact Nat.le_of_ble_eq_true rfl)(hq:pc+1=q:=by exact rfl):ay p e below Fn T (mkF m pc L (.int x:: .int j:: .ref a::st)):=
 zU q n X (eG G) (iz G) eT F ib hj hn (eJ G hi) hq w
section
variable {Q:Option Value→Heap→List Loc→Prop}{y:Int32}{xl:Int64}{k n:Nat}{t:FieldType}
theorem gg (i:Nat)(X:Stand p l e R s m args below meth c T locs cells slots)(G:dO p c s Z m own ml a0 xs)(w:meth.sig.returnType=some .int)(B:meth.locks=false)(hQ:Q (some (.int x)) T.heap locs)(hi:xs[i]? =some (pc,.ireturn,1):=by exact rfl)(hk:cells≤k:=by decide)(hn:slots≤n:=by decide):ay p e below (gb s Q k n) T (mkF m pc L (.int x::st)):=Fo X (eG G) w B (eJ G hi) hk hn hQ
theorem ou (i:Nat)(X:Stand p l e R s m args below meth c T locs cells slots)(G:dO p c s Z m own ml a0 xs)(w:meth.sig.returnType=some .long)(B:meth.locks=false)(hQ:Q (some (.long xl)) T.heap locs)(hi:xs[i]? =some (pc,.lreturn,1):=by exact rfl)(hk:cells≤k:=by decide)(hn:slots≤n:=by decide):ay p e below (gb s Q k n) T (mkF m pc L (.long xl::st)):=Fp X (eG G) w B (eJ G hi) hk hn hQ
theorem dU (i:Nat)(X:Stand p l e R s m args below meth c T locs cells slots)(G:dO p c s Z m own ml a0 xs)(w:meth.sig.returnType=some t)(B:meth.locks=false)(hQ:Q (some v) T.heap locs)(hi:xs[i]? =some (pc,.areturn,1):=by exact rfl)(ht:t.isReference=true:=by exact rfl)(hv:v.isRef=true:=by exact rfl)(hk:cells≤k:=by decide)(hn:slots≤n:=by decide):ay p e below (gb s Q k n) T (mkF m pc L (v::st)):=zK X (eG G) w ht B (eJ G hi) hv hk hn hQ
theorem jE (i:Nat)(X:Stand p l e R s m args below meth c T locs cells slots)(G:dO p c s Z m own ml a0 xs)(w:meth.sig.returnType=none)(B:meth.locks=false)(hQ:Q none T.heap locs)(hi:xs[i]? =some (pc,.return_,1):=by exact rfl)(hk:cells≤k:=by decide)(hn:slots≤n:=by decide):ay p e below (gb s Q k n) T (mkF m pc L []):=Fq X (eG G) w B (eJ G hi) hk hn hQ
end
section
variable {y:MethodName}{bytes:ByteArray}{maxL:Nat}{ret:Option FieldType}{rm:Room}{as':Array Value}{Q:Option Value→Heap→List Loc→Prop}{ps:List FieldType}{r:Option FieldType}{b:Addr}
theorem bZ (q n W kc ks j i1 i2 i5 i4:Nat)(X:Stand p l e R s m args below meth c T locs cells slots)(G:dO p c s Z m own ml a0 xs)(M:bp l y [Jvm.Cond.code y bytes maxL ret] rm as' Z h Q)(pd:parseMethodDescriptor y.desc=some ⟨ps,r⟩)(eT:T.heap=h)(w: ∀(v:Option Value) (T':State) (Lc:List Loc),Stand p l e R s m args below meth c T' (locs++Lc) kc ks→Q v T'.heap Lc→ay p e below Fn T' (mkF m q L (v.toList++st.drop n)))(hj:xs[j]? =some (pc,.invokestatic index,3):=by exact rfl)(hi1:tables_1[i1]? =some (.methodLink own index y):=by exact rfl)(hi2:tables_1[i2]? =some (.static y):=by exact rfl)(hi5:tables_1[i5]? =some (.initialized y.cls):=by exact rfl)(hi4:tables_1[i4]? =some (.code y bytes maxL ret):=by exact rfl)(hy:y.cls≠"java/lang/invoke/MethodHandle"∧y.cls≠"java/lang/invoke/VarHandle":=by decide)(hf:rm.frames+1≤R.frames:=by decide)(hl:W+(maxL+11)+rm.locals≤R.locals:=by decide)(hsz:L.size=ml:=by exact rfl)(hn:(st.take n).reverse.length=ps.length:=by exact rfl)(hW:2*0+((st.drop n).map fun v=>v.category).sum≤W:=by exact Nat.le_of_eq rfl)(ha:(st.take n).reverse.toArray=as':=by exact rfl)(hkc:cells+rm.cells=kc:=by exact rfl)(hks:slots+rm.slots=ks:=by exact rfl)(hc:kc≤R.cells:=by decide)(hs:ks≤R.slots:=by decide)(hq:pc+3=q:=by exact rfl):ay p e below Fn T (mkF m pc L st):=by
 subst hq
 obtain ⟨v,T',Lc,X',hQ,f⟩:=qg X (eG G) (pW G) (mvT (iz G) (iw G hi1)) (mvT (iz G) (iw G hi2)) (mvT (iz G) (iw G hi5)) (mvT (iz G) (iw G hi4)) hy (backOf M (iz G) (iw G hi4) (iw G hi5) hf hl) (g:=mkF m pc L st) rfl (by rw[vn G];exact hsz) (argsL:=(st.take n).reverse) (rest:=st.drop n) (lenOf pd hn) (show st=_ by rw[List.reverse_reverse,List.take_append_drop]) hW (eJ G hj) ha eT hkc hks hc hs
 exact aG _ f (w v T' Lc X' hQ)
theorem iJ (q n W kc ks j i1 i2 i5 i4:Nat)(X:Stand p l e R s m args below meth c T locs cells slots)(G:dO p c s Z m own ml a0 xs)(M:bp l y [Jvm.Cond.code y bytes maxL none] rm as' Z h Q)(pd:parseMethodDescriptor y.desc=some ⟨ps,r⟩)(eT:T.heap=h)(hy1:y.name="<init>")(w: ∀(v:Option Value) (T':State) (Lc:List Loc),Stand p l e R s m args below meth c T' (locs++Lc) kc ks→Q v T'.heap Lc→ay p e below Fn T' (mkF m q L (v.toList++st.drop (n+1))))(hj:xs[j]? =some (pc,.invokespecial index,3):=by exact rfl)(hi1:tables_1[i1]? =some (.methodLink own index y):=by exact rfl)(hi2:tables_1[i2]? =some (.instanceMethod y):=by exact rfl)(hi5:tables_1[i5]? =some (.initialized y.cls):=by exact rfl)(hi4:tables_1[i4]? =some (.code y bytes maxL none):=by exact rfl)(hy:y.cls≠"java/lang/invoke/MethodHandle"∧y.cls≠"java/lang/invoke/VarHandle":=by decide)(hf:rm.frames+1≤R.frames:=by decide)(hl:W+(maxL+11)+rm.locals≤R.locals:=by decide)(hsz:L.size=ml:=by exact rfl)(hn:(st.take n).reverse.length=ps.length:=by exact rfl)(hb:st.drop n= .ref b::st.drop (n+1):=by exact rfl)(hW:2*0+((st.drop (n+1)).map fun v=>v.category).sum≤W:=by exact Nat.le_of_eq rfl)(ha:(Value.ref b::(st.take n).reverse).toArray=as':=by exact rfl)(hkc:cells+rm.cells=kc:=by exact rfl)(hks:slots+rm.slots=ks:=by exact rfl)(hc:kc≤R.cells:=by decide)(hs:ks≤R.slots:=by decide)(hq:pc+3=q:=by exact rfl):ay p e below Fn T (mkF m pc L st):=by
 subst hq
 obtain ⟨v,T',Lc,X',hQ,f⟩:=Ft X (eG G) hy1 (pW G) (mvT (iz G) (iw G hi1)) (mvT (iz G) (iw G hi2)) (mvT (iz G) (iw G hi4)) hy (backOf M (iz G) (iw G hi4) (iw G hi5) hf hl) (g:=mkF m pc L st) rfl (by rw[vn G];exact hsz) (argsL:=(st.take n).reverse) (rest:=st.drop (n+1)) (lenOf pd hn) (show st=_ by rw[List.reverse_reverse,←hb,List.take_append_drop]) hW (eJ G hj) ha eT hkc hks hc hs
 exact qL _ f (w v T' Lc X' hQ)
theorem jQ (q n W kc ks j i1 i2 i3 i6 i5 i4:Nat)(X:Stand p l e R s m args below meth c T locs cells slots)(G:dO p c s Z m own ml a0 xs)(M:bp l y [Jvm.Cond.code y bytes maxL ret] rm as' Z h Q)(pd:parseMethodDescriptor y.desc=some ⟨ps,r⟩)(eT:T.heap=h)(Ex:Exa Z h b C)(w: ∀(v:Option Value) (T':State) (Lc:List Loc),Stand p l e R s m args below meth c T' (locs++Lc) kc ks→Q v T'.heap Lc→ay p e below Fn T' (mkF m q L (v.toList++st.drop (n+1))))(hj:xs[j]? =some (pc,.invokevirtual index,3):=by exact rfl)(hi1:tables_1[i1]? =some (.methodLink own index y):=by exact rfl)(hi2:tables_1[i2]? =some (.declares y):=by exact rfl)(hi3:tables_1[i3]? =some (.selects C y y):=by exact rfl)(B:tables_1[i6]? =some (.instanceMethod y):=by exact rfl)(hi5:tables_1[i5]? =some (.initialized y.cls):=by exact rfl)(hi4:tables_1[i4]? =some (.code y bytes maxL ret):=by exact rfl)(hy:y.cls≠"java/lang/invoke/MethodHandle"∧y.cls≠"java/lang/invoke/VarHandle":=by decide)(hf:rm.frames+1≤R.frames:=by decide)(hl:W+(maxL+11)+rm.locals≤R.locals:=by decide)(hsz:L.size=ml:=by exact rfl)(hn:(st.take n).reverse.length=ps.length:=by exact rfl)(hb:st.drop n= .ref b::st.drop (n+1):=by exact rfl)(hW:2*0+((st.drop (n+1)).map fun v=>v.category).sum≤W:=by exact Nat.le_of_eq rfl)(ha:(Value.ref b::(st.take n).reverse).toArray=as':=by exact rfl)(hkc:cells+rm.cells=kc:=by exact rfl)(hks:slots+rm.slots=ks:=by exact rfl)(hc:kc≤R.cells:=by decide)(hs:ks≤R.slots:=by decide)(hq:pc+3=q:=by exact rfl):ay p e below Fn T (mkF m pc L st):=by
 subst hq
 obtain ⟨_,_,qa,_,qc⟩:=isOf (iz G) eT Ex
 obtain ⟨v,T',Lc,X',hQ,f⟩:=rX X (eG G) (pW G) (mvT (iz G) (iw G hi1)) (mvT (iz G) (iw G hi2)) (notFace_of_selects (args:= #[]) (mvT (iz G) (iw G hi3))) (mvT (iz G) (iw G hi3)) (mvT (iz G) (iw G B)) hy (backOf M (iz G) (iw G hi4) (iw G hi5) hf hl) qa qc (g:=mkF m pc L st) rfl (by rw[vn G];exact hsz) (argsL:=(st.take n).reverse) (rest:=st.drop (n+1)) (lenOf pd hn) (show st=_ by rw[List.reverse_reverse,←hb,List.take_append_drop]) hW (eJ G hj) ha eT hkc hks hc hs
 exact qL _ f (w v T' Lc X' hQ)
theorem ly (q n W kc ks j i1 i2 i3 i6 i5 i4:Nat)(X:Stand p l e R s m args below meth c T locs cells slots)(G:dO p c s Z m own ml a0 xs)(M:bp l y [Jvm.Cond.code y bytes maxL ret] rm as' Z h Q)(pd:parseMethodDescriptor y.desc=some ⟨ps,r⟩)(eT:T.heap=h)(Ex:Exa Z h b C)(w: ∀(v:Option Value) (T':State) (Lc:List Loc),Stand p l e R s m args below meth c T' (locs++Lc) kc ks→Q v T'.heap Lc→ay p e below Fn T' (mkF m q L (v.toList++st.drop (n+1))))(hj:xs[j]? =some (pc,.invokevirtual index,3):=by exact rfl)(hi1:tables_1[i1]? =some (.methodLink own index y):=by exact rfl)(hi2:tables_1[i2]? =some (.instanceMethod y):=by exact rfl)(hi3:tables_1[i3]? =some (.selects C y y):=by exact rfl)(B:tables_1[i6]? =some (.privateMethod y):=by exact rfl)(hi5:tables_1[i5]? =some (.initialized y.cls):=by exact rfl)(hi4:tables_1[i4]? =some (.code y bytes maxL ret):=by exact rfl)(hy:y.cls≠"java/lang/invoke/MethodHandle"∧y.cls≠"java/lang/invoke/VarHandle":=by decide)(hf:rm.frames+1≤R.frames:=by decide)(hl:W+(maxL+11)+rm.locals≤R.locals:=by decide)(hsz:L.size=ml:=by exact rfl)(hn:(st.take n).reverse.length=ps.length:=by exact rfl)(hb:st.drop n= .ref b::st.drop (n+1):=by exact rfl)(hW:2*0+((st.drop (n+1)).map fun v=>v.category).sum≤W:=by exact Nat.le_of_eq rfl)(ha:(Value.ref b::(st.take n).reverse).toArray=as':=by exact rfl)(hkc:cells+rm.cells=kc:=by exact rfl)(hks:slots+rm.slots=ks:=by exact rfl)(hc:kc≤R.cells:=by decide)(hs:ks≤R.slots:=by decide)(hq:pc+3=q:=by exact rfl):ay p e below Fn T (mkF m pc L st):=by
 subst hq
 obtain ⟨v,T',Lc,X',hQ,f⟩:=FT X (eG G) (pW G) (mvT (iz G) (iw G hi1)) (mvT (iz G) (iw G hi2)) (mvT (iz G) (iw G hi3)) (mvP (iz G) (iw G B)) (mvT (iz G) (iw G hi4)) hy (backOf M (iz G) (iw G hi4) (iw G hi5) hf hl) (Exa.cell Ex) (g:=mkF m pc L st) rfl (by rw[vn G];exact hsz) (argsL:=(st.take n).reverse) (rest:=st.drop (n+1)) (lenOf pd hn) (show st=_ by rw[List.reverse_reverse,←hb,List.take_append_drop]) hW (eJ G hj) ha eT hkc hks hc hs
 exact qL _ f (w v T' Lc X' hQ)
end
end OwnHeap2
section OwnFun
def jK (N:Nat)(f:Nat→Int32):List Value:=(List.range N).map fun i=> .int (f i)
def fJ (f:Nat→Int32)(i:Nat)(x:Int32):Nat→Int32:=fun j=>if j=i then x else f j
def pD (l:List Int32):Nat→Int32:=fun i=>l.getD i 0
theorem vw (N:Nat)(f:Nat→Int32):(jK N f).length=N:=by simp[jK]
theorem yK {N i:Nat}{f:Nat→Int32}{d:Value}(h:i<N):(jK N f).getD i d= .int (f i):=by
 simp[jK,List.getD_eq_getElem?_getD,h]
theorem HU (N i:Nat)(f:Nat→Int32)(x:Int32):(jK N f).set i (.int x)=jK N (fJ f i x):=by
 apply List.ext_getElem?;intro j
 simp only[jK,fJ,List.getElem?_set,List.length_map,List.length_range,List.getElem?_map]
 by_cases q:i=j
 ·subst q;by_cases r:i<N
  ·simp[r]
  ·simp[r]
 ·have q': ¬j=i:=fun r=>q r.symm
  by_cases r:j<N
  ·simp[q,q',r]
  ·simp[q,r]
theorem HV {N:Nat}{f g:Nat→Int32}(h: ∀i,i<N→f i=g i):jK N f=jK N g:=by
 unfold jK;apply List.map_congr_left;intro i hi;rw[h i (List.mem_range.mp hi)]
abbrev bM (Z:State)(h:Heap)(a:Addr)(k:ClassId)(z:Int32)(f:Nat→Int32):Prop:=Arv Z h a k .int z (jK z.toNatClampNeg f) (.int (0:Int32))
theorem nJ {j:Int32}{i:Nat}(h:j.toInt=i):j.toNatClampNeg=i:=by unfold Int32.toNatClampNeg;omega
theorem Aw {j z:Int32}{i:Nat}(h:j.toInt=i)(hi:(i:Int)<z.toInt): ¬j<0∧j<z:=by
 have e:(0:Int32).toInt=0:=rfl
 constructor
 ·intro q;rw[Int32.lt_iff_toInt_lt] at q;omega
 ·rw[Int32.lt_iff_toInt_lt];omega
theorem bM.fe {Z:State}{h:Heap}{a:Addr}{k:ClassId}{z:Int32}{f g:Nat→Int32}(F:bM Z h a k z f)(e: ∀i:Nat,(i:Int)<z.toInt→f i=g i):bM Z h a k z g:=by
 have q:jK z.toNatClampNeg f=jK z.toNatClampNeg g:=HV fun i hi=>e i (by have:z.toNatClampNeg=z.toInt.toNat:=rfl;omega)
 unfold bM;rw[←q];exact F
variable {p:Program}{l:Launch}{e:Env}{R:Room}{s:State}{m:MethodId}{args:Array Value}{below:List Frame}{meth:Method}{c:Code}{T:State}{locs:List Loc}{cells slots:Nat}{Fn:Outcome→State→Prop}{pc:Nat}{L:Array Slot}{st:List Value}{Z:State}{h:Heap}{a:Addr}{k:ClassId}{z j x:Int32}{f:Nat→Int32}
theorem jB (q i:Nat)(X:Stand p l e R s m args below meth c T locs cells slots)(hx:p.tables.exec=Jvm.exec)(hZ:Z.Warmed39 s.vm)(eT:T.heap=h)(F:bM Z h a k z f)(hj:j.toInt=i)(hi:(i:Int)<z.toInt)(hd:decode c.code pc= .ok (.iaload,1))(hq:pc+1=q)(w:ay p e below Fn T (mkF m q L (.int (f i)::st))):ay p e below Fn T (mkF m pc L (.int j:: .ref a::st)):=
 zT q X hx hZ eT F (Aw hj hi) (by rw[nJ hj];exact yK (by have:z.toNatClampNeg=z.toInt.toNat:=rfl;omega)) hd hq w
theorem jW (q i:Nat)(X:Stand p l e R s m args below meth c T locs cells slots)(hx:p.tables.exec=Jvm.exec)(hZ:Z.Warmed39 s.vm)(eT:T.heap=h)(F:bM Z h a k z f)(hj:j.toInt=i)(hi:(i:Int)<z.toInt)(hd:decode c.code pc= .ok (.iastore,1))(hq:pc+1=q)
  (w: ∀(T':State) (h':Heap),Stand p l e R s m args below meth c T' (locs++ [⟨a,(j).toNatClampNeg⟩]) cells slots→T'.heap=h'→Wr h h' a j.toNatClampNeg (.int x)→bM Z h' a k z (fJ f i x)→ay p e below Fn T' (mkF m q L st)):ay p e below Fn T (mkF m pc L (.int x:: .int j:: .ref a::st)):=
 zU q i X hx hZ eT F (Aw hj hi) (nJ hj) (by rw[vw];have:z.toNatClampNeg=z.toInt.toNat:=rfl;omega) hd hq fun T' h' X' e' W' A'=>w T' h' X' e' W' (by rw[HU] at A';exact A')
theorem HW (q:Nat){x y z':Value}(X:Stand p l e R s m args below meth c T locs cells slots)(hx:p.tables.exec=Jvm.exec)(hd:decode c.code pc= .ok (.dup_x2,1))(h1:x.category=1)(h2:y.category=1)(h3:z'.category=1)(hq:pc+1=q)(w:ay p e below Fn T (mkF m q L (x::y::z'::x::st))):ay p e below Fn T (mkF m pc L (x::y::z'::st)):=by
 subst hq;refine aG (T':=T) (mkF m (pc+1) L (x::y::z'::x::st)) (fun t k=> ?_) w
 have hh:=X.here
 jvm_step hh [hh.top,hx,hd,h1,h2,h3,mkF]
 exact k
theorem HX (q:Nat){x y:Value}(X:Stand p l e R s m args below meth c T locs cells slots)(hx:p.tables.exec=Jvm.exec)(hd:decode c.code pc= .ok (.dup2,1))(h1:x.category=1)(h2:y.category=1)(hq:pc+1=q)(w:ay p e below Fn T (mkF m q L (x::y::x::y::st))):ay p e below Fn T (mkF m pc L (x::y::st)):=by
 subst hq;exact aG (T':=T) (mkF m (pc+1) L (x::y::x::y::st)) (fun t k=>Jvm.Free.XT.dup2 X.here hx rfl hd rfl h1 h2 k) w
end OwnFun
section OwnWF
def dY (x:Slot):Bool:=match x with| .val v=>v.category==2|_=>false
def gR (x:Slot):Bool:=match x with| .second=>true|_=>false
def jG (a b c d e f g:Slot):Prop:=gR a=false∧gR b=dY a∧gR c=dY b∧gR d=dY c∧gR e=dY d∧gR f=dY e∧gR g=dY f∧dY g=false
def i_ (x:Slot):Prop:=gR x=false∧dY x=false
theorem Ay {l:Array Slot}{i j:Nat}{x y:Slot}(h:j<l.size):(l.setIfInBounds i x)[j]? =if i=j then some x else l[j]? :=by
 rw[Array.getElem?_setIfInBounds];by_cases q:i=j
 ·subst q;simp[h]
 ·simp[q]
theorem HY {l:Array Slot}{i:Nat}{b:Slot}{v:Int32}(hb:l[i]? =some b)(h:i_ b):storeLocals l i (.int v)=some (l.setIfInBounds i (.val (.int v))):=by
 refine storeLocals_cat1 hb rfl ?_
 cases b with
 |unset=>trivial
 |second=>cases h.1
 |val w=>have q:=h.2;cases w<;>first|rfl|cases q
theorem Az {l:Array Slot}{i:Nat}{b:Slot}{v:Int32}(hb:l[i]? =some b)(h:gR b=false)(hi:i+1<l.size):storeLocals l i (.int v)=some ((if dY b then l.setIfInBounds (i+1) .unset else l).setIfInBounds i (.val (.int v))):=by
 have hi':i<l.size:=by omega
 unfold storeLocals;rw[hb]
 cases b with
 |unset=>simp[storeSelf,setAt,hi',dY,Value.category]
 |second=>cases h
 |val w=>cases w<;>simp[storeSelf,setAt,hi,hi',dY,Value.category]
theorem qw {l:Array Slot}{i:Nat}{b c:Slot}{v:Int64}(hb:l[i]? =some b)(hc:l[i+1]? =some c)(sb:gR b=false)(sc:gR c=dY b)(h2:dY c=true→i+2<l.size):
  storeLocals l i (.long v)=some ((if dY c then (l.setIfInBounds i (.val (.long v))).setIfInBounds (i+2) .unset else l.setIfInBounds i (.val (.long v))).setIfInBounds (i+1) .second):=by
 have hi:i+1<l.size:=(Array.getElem?_eq_some_iff.mp hc).1
 have hi':i<l.size:=by omega
 have hs: ∀l':Array Slot,l'.size=l.size→l'[i+1]? =some c→storeSelf l' i (.long v)=some ((if dY c then (l'.setIfInBounds i (.val (.long v))).setIfInBounds (i+2) .unset else l'.setIfInBounds i (.val (.long v))).setIfInBounds (i+1) .second):=by
  intro l' e hc'
  obtain ⟨hi2,gc⟩:=Array.getElem?_eq_some_iff.mp hc'
  have g:(l'.setIfInBounds i (.val (.long v)))[i+1]? =some c:=by rw[Ay (y:=c) (by omega)];simp[hc']
  cases c with
  |unset=>simp[storeSelf,setAt,e,hi,hi',dY,Value.category,gc]
  |second=>simp[storeSelf,setAt,e,hi,hi',dY,Value.category,gc]
  |val w=>cases w<;>(first|(have q:=h2 rfl;simp[storeSelf,setAt,e,hi,hi',dY,Value.category,gc,q])|simp[storeSelf,setAt,e,hi,hi',dY,Value.category,gc])
 have un:dY b=true→storeSelf (l.setIfInBounds (i+1) .unset) i (.long v)=some ((l.setIfInBounds i (.val (.long v))).setIfInBounds (i+1) .second):=by
  intro hb2
  have g:((l.setIfInBounds (i+1) .unset).setIfInBounds i (.val (.long v)))[i+1]? =some .unset:=by rw[Ay (y:= .unset) (by simpa using hi)];simp[hi]
  have e:((l.setIfInBounds (i+1) .unset).setIfInBounds i (.val (.long v))).setIfInBounds (i+1) .second=(l.setIfInBounds i (.val (.long v))).setIfInBounds (i+1) .second:=by
   apply Array.ext_getElem?;intro j;simp only[Array.getElem?_setIfInBounds,Array.size_setIfInBounds];by_cases q:i+1=j<;>by_cases r:i=j<;>simp[q,r]
  simp[storeSelf,setAt,hi,hi',dY,Value.category,g,e]
 unfold storeLocals;rw[hb]
 cases b with
 |unset=>exact hs l rfl hc
 |second=>cases sb
 |val w=>
  have k2:dY (.val w)=true→dY c=false:=fun q=>by rw[q] at sc;cases c<;>first|rfl|cases sc
  cases w<;>first|exact hs l rfl hc|(rw[k2 rfl];have q:=un rfl;simp[setAt,hi,Value.category];exact q)
theorem ru {c d e:Slot}(h:gR d=dY c)(h':gR e=dY d):gR (if dY c then .unset else d)=false∧gR e=dY (if dY c then .unset else d):=by
 cases q:dY c with
 |false=>rw[q] at h;exact ⟨h,h'⟩
 |true=>rw[q] at h;refine ⟨rfl,?_⟩;cases d<;>first|exact h'|cases h
theorem H_ {c d:Slot}(h:gR d=dY c)(h':dY d=false):gR (if dY c then .unset else d)=false∧dY (if dY c then .unset else d)=false:=by
 cases q:dY c with
 |false=>rw[q] at h;exact ⟨h,h'⟩
 |true=>exact ⟨rfl,rfl⟩
variable {p:Program}{l:Launch}{e':Env}{R:Room}{s:State}{m:MethodId}{args:Array Value}{below:List Frame}{meth:Method}{cd:Code}{T:State}{locs:List Loc}{cells slots:Nat}{Fn:Outcome→State→Prop}{pc:Nat}{st:List Value}
variable {x0 x1 x2 x3 x4 x5 x6 x7 x8 x9 x10 x11 x12 x13 x14 x15 x16 x17 x18 x19 x20 a b c d e f g:Slot}{v:Int64}{i:Int32}
theorem ku (q k:Nat){L:Array Slot}(L':Array Slot)(X:Stand p l e' R s m args below meth cd T locs cells slots)(hx:p.tables.exec=Jvm.exec)(hd:decode cd.code pc= .ok (.istore k,2))(hb:L[k]? =some b)(hc:i_ b)(hl:L.setIfInBounds k (.val (.int i))=L')(hq:pc+2=q)(w:ay p e' below Fn T (mkF m q L' st)):ay p e' below Fn T (mkF m pc L (.int i::st)):=
 xX q L' X hx hd (by rw[HY hb hc,hl]) hq w
theorem AB (q:Nat)(X:Stand p l e' R s m args below meth cd T locs cells slots)(hx:p.tables.exec=Jvm.exec)(hd:decode cd.code pc= .ok (.lstore 22,2))(H:jG a b c d e f g)(h:dY a=false∨gR a=true)(hq:pc+2=q)(w: ∀d_:Slot,jG a (.val (.long v)) .second d_ e f g→ay p e' below Fn T (mkF m q #[x0,x1,x2,x3,x4,x5,x6,x7,x8,x9,x10,x11,x12,x13,x14,x15,x16,x17,x18,x19,x20,a,.val (.long v),.second,d_,e,f,g] st)):ay p e' below Fn T (mkF m pc #[x0,x1,x2,x3,x4,x5,x6,x7,x8,x9,x10,x11,x12,x13,x14,x15,x16,x17,x18,x19,x20,a,b,c,d,e,f,g] (.long v::st)):=by
 obtain ⟨h1,h2,h3,h4,h5,h6,h7,h8⟩:=H
 have hb:gR b=false:=by
  rw[h2]
  rcases h with h|h
  ·exact h
  ·cases a<;>first|rfl|cases h
 have hl:storeLocals #[x0,x1,x2,x3,x4,x5,x6,x7,x8,x9,x10,x11,x12,x13,x14,x15,x16,x17,x18,x19,x20,a,b,c,d,e,f,g] 22 (.long v)=some #[x0,x1,x2,x3,x4,x5,x6,x7,x8,x9,x10,x11,x12,x13,x14,x15,x16,x17,x18,x19,x20,a,.val (.long v),.second,(if dY c then .unset else d),e,f,g]:=by
  rw[qw (b:=b) (c:=c) rfl rfl hb h3 (fun q=>(by decide:22+2<28))];cases dY c<;>rfl
 have hw:=ru h4 h5
 have hz:gR (.val (.long v))=dY a:=by rw[←h2,hb];rfl
 exact mY q _ X hx hd hl hq (w _ ⟨h1,hz,rfl,hw.1,hw.2,h6,h7,h8⟩)
theorem AF (q:Nat)(X:Stand p l e' R s m args below meth cd T locs cells slots)(hx:p.tables.exec=Jvm.exec)(hd:decode cd.code pc= .ok (.lstore 24,2))(H:jG a b c d e f g)(h:dY c=false∨gR c=true)(hq:pc+2=q)(w: ∀B:Slot,jG a b c (.val (.long v)) .second B g→ay p e' below Fn T (mkF m q #[x0,x1,x2,x3,x4,x5,x6,x7,x8,x9,x10,x11,x12,x13,x14,x15,x16,x17,x18,x19,x20,a,b,c,.val (.long v),.second,B,g] st)):ay p e' below Fn T (mkF m pc #[x0,x1,x2,x3,x4,x5,x6,x7,x8,x9,x10,x11,x12,x13,x14,x15,x16,x17,x18,x19,x20,a,b,c,d,e,f,g] (.long v::st)):=by
 obtain ⟨h1,h2,h3,h4,h5,h6,h7,h8⟩:=H
 have hb:gR d=false:=by
  rw[h4]
  rcases h with h|h
  ·exact h
  ·cases c<;>first|rfl|cases h
 have hl:storeLocals #[x0,x1,x2,x3,x4,x5,x6,x7,x8,x9,x10,x11,x12,x13,x14,x15,x16,x17,x18,x19,x20,a,b,c,d,e,f,g] 24 (.long v)=some #[x0,x1,x2,x3,x4,x5,x6,x7,x8,x9,x10,x11,x12,x13,x14,x15,x16,x17,x18,x19,x20,a,b,c,.val (.long v),.second,(if dY e then .unset else f),g]:=by
  rw[qw (b:=d) (c:=e) rfl rfl hb h5 (fun q=>(by decide:24+2<28))];cases dY e<;>rfl
 have hw:=ru h6 h7
 have hz:gR (.val (.long v))=dY c:=by rw[←h4,hb];rfl
 exact mY q _ X hx hd hl hq (w _ ⟨h1,h2,h3,hz,rfl,hw.1,hw.2,h8⟩)
theorem Ic (q:Nat)(X:Stand p l e' R s m args below meth cd T locs cells slots)(hx:p.tables.exec=Jvm.exec)(hd:decode cd.code pc= .ok (.lstore 26,2))(H:jG a b c d e f g)(h:dY e=false∨gR e=true)(hq:pc+2=q)(w:jG a b c d e (.val (.long v)) .second→ay p e' below Fn T (mkF m q #[x0,x1,x2,x3,x4,x5,x6,x7,x8,x9,x10,x11,x12,x13,x14,x15,x16,x17,x18,x19,x20,a,b,c,d,e,.val (.long v),.second] st)):ay p e' below Fn T (mkF m pc #[x0,x1,x2,x3,x4,x5,x6,x7,x8,x9,x10,x11,x12,x13,x14,x15,x16,x17,x18,x19,x20,a,b,c,d,e,f,g] (.long v::st)):=by
 obtain ⟨h1,h2,h3,h4,h5,h6,h7,h8⟩:=H
 have hb:gR f=false:=by
  rw[h6]
  rcases h with h|h
  ·exact h
  ·cases e<;>first|rfl|cases h
 have hl:storeLocals #[x0,x1,x2,x3,x4,x5,x6,x7,x8,x9,x10,x11,x12,x13,x14,x15,x16,x17,x18,x19,x20,a,b,c,d,e,f,g] 26 (.long v)=some #[x0,x1,x2,x3,x4,x5,x6,x7,x8,x9,x10,x11,x12,x13,x14,x15,x16,x17,x18,x19,x20,a,b,c,d,e,.val (.long v),.second]:=by
  rw[qw (b:=f) (c:=g) rfl rfl hb h7 (fun q=>by rw[h8] at q;cases q)];rw[h8];rfl
 have hz:gR (.val (.long v))=dY e:=by rw[←h6,hb];rfl
 exact mY q _ X hx hd hl hq (w ⟨h1,h2,h3,h4,h5,hz,rfl,rfl⟩)
theorem AH (q:Nat)(X:Stand p l e' R s m args below meth cd T locs cells slots)(hx:p.tables.exec=Jvm.exec)(hd:decode cd.code pc= .ok (.lstore 21,2))(H:jG a b c d e f g)(hq:pc+2=q)(w: ∀B:Slot,jG (.val (.long v)) .second B d e f g→ay p e' below Fn T (mkF m q #[x0,x1,x2,x3,x4,x5,x6,x7,x8,x9,x10,x11,x12,x13,x14,x15,x16,x17,x18,x19,x20,.val (.long v),.second,B,d,e,f,g] st)):ay p e' below Fn T (mkF m pc #[x0,x1,x2,x3,x4,x5,x6,x7,x8,x9,x10,x11,x12,x13,x14,x15,x16,x17,x18,x19,x20,a,b,c,d,e,f,g] (.long v::st)):=by
 obtain ⟨h1,h2,h3,h4,h5,h6,h7,h8⟩:=H
 have hb:=h1
 have hl:storeLocals #[x0,x1,x2,x3,x4,x5,x6,x7,x8,x9,x10,x11,x12,x13,x14,x15,x16,x17,x18,x19,x20,a,b,c,d,e,f,g] 21 (.long v)=some #[x0,x1,x2,x3,x4,x5,x6,x7,x8,x9,x10,x11,x12,x13,x14,x15,x16,x17,x18,x19,x20,.val (.long v),.second,(if dY b then .unset else c),d,e,f,g]:=by
  rw[qw (b:=a) (c:=b) rfl rfl hb h2 (fun q=>(by decide:21+2<28))];cases dY b<;>rfl
 have hw:=ru h3 h4
 exact mY q _ X hx hd hl hq (w _ ⟨rfl,rfl,hw.1,hw.2,h5,h6,h7,h8⟩)
theorem AJ (q:Nat)(X:Stand p l e' R s m args below meth cd T locs cells slots)(hx:p.tables.exec=Jvm.exec)(hd:decode cd.code pc= .ok (.lstore 23,2))(H:jG a b c d e f g)(h:dY b=false∨gR b=true)(hq:pc+2=q)(w: ∀y_:Slot,jG a b (.val (.long v)) .second y_ f g→ay p e' below Fn T (mkF m q #[x0,x1,x2,x3,x4,x5,x6,x7,x8,x9,x10,x11,x12,x13,x14,x15,x16,x17,x18,x19,x20,a,b,.val (.long v),.second,y_,f,g] st)):ay p e' below Fn T (mkF m pc #[x0,x1,x2,x3,x4,x5,x6,x7,x8,x9,x10,x11,x12,x13,x14,x15,x16,x17,x18,x19,x20,a,b,c,d,e,f,g] (.long v::st)):=by
 obtain ⟨h1,h2,h3,h4,h5,h6,h7,h8⟩:=H
 have hb:gR c=false:=by
  rw[h3]
  rcases h with h|h
  ·exact h
  ·cases b<;>first|rfl|cases h
 have hl:storeLocals #[x0,x1,x2,x3,x4,x5,x6,x7,x8,x9,x10,x11,x12,x13,x14,x15,x16,x17,x18,x19,x20,a,b,c,d,e,f,g] 23 (.long v)=some #[x0,x1,x2,x3,x4,x5,x6,x7,x8,x9,x10,x11,x12,x13,x14,x15,x16,x17,x18,x19,x20,a,b,.val (.long v),.second,(if dY d then .unset else e),f,g]:=by
  rw[qw (b:=c) (c:=d) rfl rfl hb h4 (fun q=>(by decide:23+2<28))];cases dY d<;>rfl
 have hw:=ru h5 h6
 have hz:gR (.val (.long v))=dY b:=by rw[←h3,hb];rfl
 exact mY q _ X hx hd hl hq (w _ ⟨h1,h2,hz,rfl,hw.1,hw.2,h7,h8⟩)
theorem Ie (q:Nat)(X:Stand p l e' R s m args below meth cd T locs cells slots)(hx:p.tables.exec=Jvm.exec)(hd:decode cd.code pc= .ok (.lstore 25,2))(H:jG a b c d e f g)(h:dY d=false∨gR d=true)(hq:pc+2=q)(w: ∀B:Slot,jG a b c d (.val (.long v)) .second B→ay p e' below Fn T (mkF m q #[x0,x1,x2,x3,x4,x5,x6,x7,x8,x9,x10,x11,x12,x13,x14,x15,x16,x17,x18,x19,x20,a,b,c,d,.val (.long v),.second,B] st)):ay p e' below Fn T (mkF m pc #[x0,x1,x2,x3,x4,x5,x6,x7,x8,x9,x10,x11,x12,x13,x14,x15,x16,x17,x18,x19,x20,a,b,c,d,e,f,g] (.long v::st)):=by
 obtain ⟨h1,h2,h3,h4,h5,h6,h7,h8⟩:=H
 have hb:gR e=false:=by
  rw[h5]
  rcases h with h|h
  ·exact h
  ·cases d<;>first|rfl|cases h
 have hl:storeLocals #[x0,x1,x2,x3,x4,x5,x6,x7,x8,x9,x10,x11,x12,x13,x14,x15,x16,x17,x18,x19,x20,a,b,c,d,e,f,g] 25 (.long v)=some #[x0,x1,x2,x3,x4,x5,x6,x7,x8,x9,x10,x11,x12,x13,x14,x15,x16,x17,x18,x19,x20,a,b,c,d,.val (.long v),.second,(if dY f then .unset else g)]:=by
  rw[qw (b:=e) (c:=f) rfl rfl hb h6 (fun q=>(by decide:25+2<28))];cases dY f<;>rfl
 have hw:=H_ h7 h8
 have hz:gR (.val (.long v))=dY d:=by rw[←h5,hb];rfl
 exact mY q _ X hx hd hl hq (w _ ⟨h1,h2,h3,h4,hz,rfl,hw.1,hw.2⟩)
theorem AK (q:Nat)(X:Stand p l e' R s m args below meth cd T locs cells slots)(hx:p.tables.exec=Jvm.exec)(hd:decode cd.code pc= .ok (.istore 21,2))(H:jG a b c d e f g)(hq:pc+2=q)(w: ∀B:Slot,jG (.val (.int i)) B c d e f g→ay p e' below Fn T (mkF m q #[x0,x1,x2,x3,x4,x5,x6,x7,x8,x9,x10,x11,x12,x13,x14,x15,x16,x17,x18,x19,x20,.val (.int i),B,c,d,e,f,g] st)):ay p e' below Fn T (mkF m pc #[x0,x1,x2,x3,x4,x5,x6,x7,x8,x9,x10,x11,x12,x13,x14,x15,x16,x17,x18,x19,x20,a,b,c,d,e,f,g] (.int i::st)):=by
 obtain ⟨h1,h2,h3,h4,h5,h6,h7,h8⟩:=H
 have hb:gR a=false:=h1
 have hl:storeLocals #[x0,x1,x2,x3,x4,x5,x6,x7,x8,x9,x10,x11,x12,x13,x14,x15,x16,x17,x18,x19,x20,a,b,c,d,e,f,g] 21 (.int i)=some #[x0,x1,x2,x3,x4,x5,x6,x7,x8,x9,x10,x11,x12,x13,x14,x15,x16,x17,x18,x19,x20,.val (.int i),(if dY a then .unset else b),c,d,e,f,g]:=by
  rw[Az (b:=a) rfl hb (by decide:21+1<28)];cases dY a<;>rfl
 have hw:=ru h2 h3
 exact xX q _ X hx hd hl hq (w _ ⟨rfl,hw.1,hw.2,h4,h5,h6,h7,h8⟩)
theorem Ig (q:Nat)(X:Stand p l e' R s m args below meth cd T locs cells slots)(hx:p.tables.exec=Jvm.exec)(hd:decode cd.code pc= .ok (.istore 22,2))(H:jG a b c d e f g)(h:dY a=false)(hq:pc+2=q)(w: ∀B:Slot,jG a (.val (.int i)) B d e f g→ay p e' below Fn T (mkF m q #[x0,x1,x2,x3,x4,x5,x6,x7,x8,x9,x10,x11,x12,x13,x14,x15,x16,x17,x18,x19,x20,a,.val (.int i),B,d,e,f,g] st)):ay p e' below Fn T (mkF m pc #[x0,x1,x2,x3,x4,x5,x6,x7,x8,x9,x10,x11,x12,x13,x14,x15,x16,x17,x18,x19,x20,a,b,c,d,e,f,g] (.int i::st)):=by
 obtain ⟨h1,h2,h3,h4,h5,h6,h7,h8⟩:=H
 have hb:gR b=false:=h2.trans h
 have hl:storeLocals #[x0,x1,x2,x3,x4,x5,x6,x7,x8,x9,x10,x11,x12,x13,x14,x15,x16,x17,x18,x19,x20,a,b,c,d,e,f,g] 22 (.int i)=some #[x0,x1,x2,x3,x4,x5,x6,x7,x8,x9,x10,x11,x12,x13,x14,x15,x16,x17,x18,x19,x20,a,.val (.int i),(if dY b then .unset else c),d,e,f,g]:=by
  rw[Az (b:=b) rfl hb (by decide:22+1<28)];cases dY b<;>rfl
 have hw:=ru h3 h4
 exact xX q _ X hx hd hl hq (w _ ⟨h1,h.symm,hw.1,hw.2,h5,h6,h7,h8⟩)
end OwnWF
section OwnTurn
theorem AQ {x y:Int64}(hy:0≤y.toInt∧y.toInt<4294967296):bD ((x<<<((32:Int32)&&&0x3f).toInt64)|||y)=(x.toInt%4294967296)*4294967296+y.toInt:=by
 have s:=c_lshl x 32 32 (by decide)
 have B:((2^32:Nat):Int)=4294967296:=rfl
 rw[B] at s
 have rs:=rng64 (x<<<((32:Int32)&&&0x3f).toInt64)
 have w:=c_orL (x<<<((32:Int32)&&&0x3f).toInt64) y 32 (by decide) 4294967296 rfl (by omega) (by omega) (by omega)
 unfold bD
 generalize ((x<<<((32:Int32)&&&0x3f).toInt64)|||y).toInt=W at*
 generalize (x<<<((32:Int32)&&&0x3f).toInt64).toInt=S at*
 omega
theorem yL (a b:Int32):bD ((a.toInt64<<<((32:Int32)&&&0x3f).toInt64)|||(b.toInt64&&&(4294967295:Int64)))=ah a*4294967296+ah b:=by
 have m:=ij b;have r:=aW b
 rw[AQ (by omega),m,c_i2l];rfl
theorem qR (a b:Int32):bD (((a.toInt64&&&(4294967295:Int64))<<<((32:Int32)&&&0x3f).toInt64)|||(b.toInt64&&&(4294967295:Int64)))=ah a*4294967296+ah b:=by
 have m:=ij b;have r:=aW b;have m':=ij a;have r':=aW a
 rw[AQ (by omega),m,m'];omega
def mW (a b dh dl qh qr sk:Int32):Prop:= ∃r:Int,ah a*4294967296+ah b=ah qh*ah dh+r∧0≤r∧(sk=0→r=ah qr)∧(¬sk=0→4294967296≤r)∧ ∀n2:Int,n2<4294967296→(ah a*4294967296+ah b)*4294967296+n2-ah qh*(ah dh*4294967296+ah dl)<ah dh*4294967296+ah dl
def oy (a b c dh dl q:Int32):Prop:=0≤(ah a*4294967296+ah b)*4294967296+ah c-ah q*(ah dh*4294967296+ah dl)∧(ah a*4294967296+ah b)*4294967296+ah c-ah q*(ah dh*4294967296+ah dl)<ah dh*4294967296+ah dl
def vF (a b c dh dl q b' c':Int32):Prop:=ah q*(ah dh*4294967296+ah dl)+(ah b'*4294967296+ah c')=(ah a*4294967296+ah b)*4294967296+ah c∧ah b'*4294967296+ah c'<ah dh*4294967296+ah dl
variable {a b c dh dl qh qr sk:Int32}{dhl nC:Int64}
theorem vI (x y:Int32):ah (x+y)=(ah x+ah y)%4294967296:=by
 have q:=sx x y;rw[pQ,pQ,pQ,q];omega
theorem vJ (h:a=dh)(hn:ah a*4294967296+ah b<ah dh*4294967296+ah dl):(((a+b)+(-2147483648:Int32))<(a+(-2147483648:Int32))→mW a b dh dl (-1) (a+b) 1)∧(¬((a+b)+(-2147483648:Int32))<(a+(-2147483648:Int32))→mW a b dh dl (-1) (a+b) 0):=by
 subst h
 have ua:=aW a;have ub:=aW b;have e:=vI a b
 have m1:ah (-1)=4294967295:=rfl
 constructor
 ·intro q;have l:=qQ q
  refine ⟨ah a+ah b,?_,by omega,fun q=>absurd q (by decide),fun _=>by omega,fun n2 h2=> ?_⟩
  ·rw[m1];omega
  ·rw[m1];exact Ao hn h2
 ·intro q;have l:=om q
  refine ⟨ah a+ah b,?_,by omega,fun _=>by omega,fun q=>absurd rfl q,fun n2 h2=> ?_⟩
  ·rw[m1];omega
  ·rw[m1];exact Ao hn h2
theorem AU (hn:ah a*4294967296+ah b<ah dh*4294967296+ah dl)(h: ¬a=dh):ah a<ah dh:=by
 have ub:=aW b;have ul:=aW dl
 have:ah a≠ah dh:=fun q=>h (by
  rw[←Int32.toInt_inj];have r:=rng32 a;have r':=rng32 dh;unfold ah at q;omega)
 omega
theorem AV {Q r:Int}(hq:ah qh=(ah a*4294967296+ah b)/ah dh)(hr:ah qr=(ah a*4294967296+ah b)%ah dh)(hd:2147483648≤ah dh):mW a b dh dl qh qr 0:=by
 have ub:=aW b;have ul:=aW dl;have ua:=aW a;have w:=aW qh
 have e:=Int.mul_ediv_add_emod (ah a*4294967296+ah b) (ah dh)
 rw[←hq,←hr,Int.mul_comm] at e
 have l:ah qr<ah dh:=by rw[hr];exact Int.emod_lt_of_pos _ (by omega)
 refine ⟨ah qr,e.symm,(aW qr).1,fun _=>rfl,fun q=>absurd rfl q,fun n2 h2=> ?_⟩
 rw[sH e.symm];exact Ht w.1 ul.1 h2 l
theorem AW {U d:Int}(hd:0<d)(h:U<d*4294967296):U/d<4294967296:=Int.ediv_lt_of_lt_mul hd (by rw[Int.mul_comm];exact h)
theorem AY (hC:((a.toInt64<<<((32:Int32)&&&0x3f).toInt64)|||(b.toInt64&&&(4294967295:Int64)))=nC)(hl:dhl.toInt=ah dh)(hd:2147483648≤ah dh)(hlt:ah a<ah dh)(hp: ¬lcmpW nC (0:Int64)<0):mW a b dh dl (nC/dhl).toInt32 (nC-((nC/dhl).toInt32.toInt64*dhl)).toInt32 0:=by
 have U:=yL a b;rw[hC] at U
 have ub:=aW b;have ua:=aW a;have w:=aW dh
 have p:=oX hp
 have o:(0:Int64).toInt=0:=rfl
 have rn:=rng64 nC
 have eU:nC.toInt=ah a*4294967296+ah b:=by rw[←U];unfold bD;omega
 have dv:=(c_ldiv nC dhl (ah dh) hl (fun q=>by rw[q] at hl;have:(-1:Int64).toInt= -1:=rfl;omega)).1 (by omega)
 rw[eU] at dv
 have lt:=AW (U:=ah a*4294967296+ah b) (d:=ah dh) (by omega) (by omega)
 have ge:0≤(ah a*4294967296+ah b)/ah dh:=Int.ediv_nonneg (by omega) (by omega)
 have hq:ah (nC/dhl).toInt32=(ah a*4294967296+ah b)/ah dh:=by rw[ju,dv];omega
 refine AV (Q:=0) (r:=0) hq ?_ hd
 have e:=Int.mul_ediv_add_emod (ah a*4294967296+ah b) (ah dh)
 have lt':=Int.emod_lt_of_pos (ah a*4294967296+ah b) (show 0<ah dh by omega)
 have B:=Int.emod_nonneg (ah a*4294967296+ah b) (show ah dh≠0 by omega)
 rw[ju]
 have s:=c_lsub nC ((nC/dhl).toInt32.toInt64*dhl)
 have mu:=c_lmul (nC/dhl).toInt32.toInt64 dhl
 rw[hl,c_i2l] at mu
 have z: ∃t:Int,(nC/dhl).toInt32.toInt=(ah a*4294967296+ah b)/ah dh+t*4294967296:=by
  refine ⟨((nC/dhl).toInt32.toInt-(ah a*4294967296+ah b)/ah dh)/4294967296,?_⟩
  unfold ah at hq⊢;omega
 obtain ⟨t,ht⟩:=z
 have ex:(nC/dhl).toInt32.toInt*ah dh=ah dh*((ah a*4294967296+ah b)/ah dh)+(t*ah dh)*4294967296:=by rw[ht];grind
 rw[ex] at mu
 rw[eU] at s
 generalize ah dh*((ah a*4294967296+ah b)/ah dh)=P at*
 generalize (ah a*4294967296+ah b)%ah dh=Rm at*
 generalize t*ah dh=Y at*
 generalize (nC-((nC/dhl).toInt32.toInt64*dhl)).toInt=S at*
 generalize ((nC/dhl).toInt32.toInt64*dhl).toInt=M at*
 omega
theorem AZ {r:Int64}(hC:((a.toInt64<<<((32:Int32)&&&0x3f).toInt64)|||(b.toInt64&&&(4294967295:Int64)))=nC)(hd:2147483648≤ah dh)(h1:ah r.toInt32=bD nC/ah dh)(h2:bD r/4294967296=bD nC%ah dh):mW a b dh dl (r&&&(4294967295:Int64)).toInt32 ((r.toUInt64>>>((32:Int32)&&&0x3f).toInt64.toUInt64).toInt64).toInt32 0:=by
 have U:=yL a b;rw[hC] at U;rw[U] at h1 h2
 have w:=aW dh
 refine AV (Q:=0) (r:=0) ?_ ?_ hd
 ·rw[←h1,ju,ju,uM];omega
 ·rw[←h2,ju,pN];have:=sW r;unfold bD at*;omega
theorem A_ (H:mW a b dh dl qh qr sk)(h: ¬sk=0):oy a b c dh dl qh:=by
 obtain ⟨r,e,-,-,h3,h4⟩:=H
 have w:=aW c;have B:=aW qh;have ul:=aW dl
 refine ⟨?_,h4 _ w.2⟩
 rw[sH e];exact Am B.1 (by omega) ul.1 (by omega) w.1 (h3 h)
theorem tu (dl qh:Int32):bD ((dl.toInt64&&&(4294967295:Int64))*(qh.toInt64&&&(4294967295:Int64)))=ah qh*ah dl:=by
 have m:=c_lmul (dl.toInt64&&&(4294967295:Int64)) (qh.toInt64&&&(4294967295:Int64))
 rw[ij,ij] at m
 have w:=aW qh;have ul:=aW dl
 have k:=sJ w.1 (by omega) ul.1 (by omega)
 rw[Int.mul_comm] at m
 unfold bD
 generalize ah qh*ah dl=P at*
 generalize ((dl.toInt64&&&(4294967295:Int64))*(qh.toInt64&&&(4294967295:Int64))).toInt=E at*
 omega
theorem vK (h:1≤ah qh):bD (((dl.toInt64&&&(4294967295:Int64))*(qh.toInt64&&&(4294967295:Int64)))-(dl.toInt64&&&(4294967295:Int64)))=(ah qh-1)*ah dl:=by
 have e:=tu dl qh
 have s:=c_lsub ((dl.toInt64&&&(4294967295:Int64))*(qh.toInt64&&&(4294967295:Int64))) (dl.toInt64&&&(4294967295:Int64))
 rw[ij] at s
 have w:=aW qh;have ul:=aW dl
 have k:=sJ (q:=ah qh-1) (dl:=ah dl) (by omega) (by omega) ul.1 (by omega)
 have x:(ah qh-1)*ah dl=ah qh*ah dl-ah dl:=by grind
 rw[x] at k⊢
 unfold bD at*
 generalize ah qh*ah dl=P at*
 generalize (((dl.toInt64&&&(4294967295:Int64))*(qh.toInt64&&&(4294967295:Int64)))-(dl.toInt64&&&(4294967295:Int64))).toInt=F at*
 generalize ((dl.toInt64&&&(4294967295:Int64))*(qh.toInt64&&&(4294967295:Int64))).toInt=E at*
 omega
theorem vQ (h:1≤ah qh):ah (qh+(-1:Int32))=ah qh-1:=by
 have e:=vI qh (-1);have m1:ah (-1)=4294967295:=rfl;have r:=aW qh;omega
theorem Ba (H:mW a b dh dl qh qr sk)(h:sk=0)(hu:bD ((dl.toInt64&&&(4294967295:Int64))*(qh.toInt64&&&(4294967295:Int64)))≤bD (((qr.toInt64&&&(4294967295:Int64))<<<((32:Int32)&&&0x3f).toInt64)|||(c.toInt64&&&(4294967295:Int64)))):oy a b c dh dl qh:=by
 obtain ⟨r,e,h1,h2,h3,h4⟩:=H
 have w:=aW c
 rw[tu,qR] at hu
 have r':=h2 h
 refine ⟨?_,h4 _ w.2⟩
 rw[sH e,r'];omega
theorem rC (hu:bD (((qr.toInt64&&&(4294967295:Int64))<<<((32:Int32)&&&0x3f).toInt64)|||(c.toInt64&&&(4294967295:Int64)))<bD ((dl.toInt64&&&(4294967295:Int64))*(qh.toInt64&&&(4294967295:Int64)))):1≤ah qh:=by
 rw[tu,qR] at hu
 have w:=aW qh;have ur:=aW qr;have B:=aW c
 refine Classical.byContradiction fun q=> ?_
 have:ah qh=0:=by omega
 rw[this] at hu;omega
theorem Bf (hl:dhl.toInt=ah dh):ah ((qr.toInt64&&&(4294967295:Int64))+dhl).toInt32=(ah qr+ah dh)%4294967296:=by
 have s:=c_ladd (qr.toInt64&&&(4294967295:Int64)) dhl
 rw[ij,hl] at s
 rw[ju];omega
theorem Bg (hl:dhl.toInt=ah dh):(lcmpW (((qr.toInt64&&&(4294967295:Int64))+dhl).toInt32.toInt64&&&(4294967295:Int64)) dhl<0→4294967296≤ah qr+ah dh)∧(¬lcmpW (((qr.toInt64&&&(4294967295:Int64))+dhl).toInt32.toInt64&&&(4294967295:Int64)) dhl<0→ah qr+ah dh<4294967296):=by
 have q:=Bf (qr:=qr) hl
 have ur:=aW qr;have w:=aW dh
 constructor
 ·intro h;have l:=mJ h;rw[ij,q,hl] at l;omega
 ·intro h;have l:=oX h;rw[ij,q,hl] at l;omega
theorem Bh (H:mW a b dh dl qh qr sk)(h:sk=0)(hl:dhl.toInt=ah dh)(hu:bD (((qr.toInt64&&&(4294967295:Int64))<<<((32:Int32)&&&0x3f).toInt64)|||(c.toInt64&&&(4294967295:Int64)))<bD ((dl.toInt64&&&(4294967295:Int64))*(qh.toInt64&&&(4294967295:Int64))))
  (ho:lcmpW (((qr.toInt64&&&(4294967295:Int64))+dhl).toInt32.toInt64&&&(4294967295:Int64)) dhl<0) {q':Int32} (e1:qh+(-1:Int32)=q'):oy a b c dh dl q':=by
 subst e1
 have q1:=rC hu
 have ov:=(Bg hl).1 ho
 rw[tu,qR] at hu
 obtain ⟨r,e,h1,h2,h3,h4⟩:=H
 have r':=h2 h
 have w:=aW c;have B:=aW qh;have ul:=aW dl
 have e':ah a*4294967296+ah b=(ah qh-1)*ah dh+(ah qr+ah dh):=by rw[e,r'];grind
 unfold oy
 rw[vQ q1]
 refine ⟨?_,?_⟩
 ·rw[sH e'];exact Am (by omega) (by omega) ul.1 (by omega) w.1 ov
 ·rw[Hq,sH e,r'];omega
theorem Ih {U q r dh dl n2:Int}(e:U=q*dh+r)(h:r*4294967296+n2<q*dl)(h1:(q-1)*dl≤(r+dh)*4294967296+n2):0≤U*4294967296+n2-(q-1)*(dh*4294967296+dl)∧U*4294967296+n2-(q-1)*(dh*4294967296+dl)<dh*4294967296+dl:=by
 have e':U*4294967296+n2-(q-1)*(dh*4294967296+dl)=(r+dh)*4294967296+n2-(q-1)*dl:=by rw[e];grind
 have e2:(q-1)*dl=q*dl-dl:=by grind
 rw[e'];constructor<;>omega
theorem Ii {U q r dh dl n2:Int}(e:U=q*dh+r)(k:0≤r*4294967296+n2-q*dl+2*(dh*4294967296+dl))(h1:(r+dh)*4294967296+n2<(q-1)*dl):0≤U*4294967296+n2-(q-1-1)*(dh*4294967296+dl)∧U*4294967296+n2-(q-1-1)*(dh*4294967296+dl)<dh*4294967296+dl:=by
 have e':U*4294967296+n2-(q-1-1)*(dh*4294967296+dl)=r*4294967296+n2-q*dl+2*(dh*4294967296+dl):=by rw[e];grind
 have e2:(q-1)*dl=q*dl-dl:=by grind
 rw[e'];constructor<;>omega
theorem vR (hl:dhl.toInt=ah dh)(ho: ¬lcmpW (((qr.toInt64&&&(4294967295:Int64))+dhl).toInt32.toInt64&&&(4294967295:Int64)) dhl<0):bD (((((qr.toInt64&&&(4294967295:Int64))+dhl).toInt32.toInt64&&&(4294967295:Int64))<<<((32:Int32)&&&0x3f).toInt64)|||(c.toInt64&&&(4294967295:Int64)))=(ah qr+ah dh)*4294967296+ah c:=by
 have ov:=(Bg hl).2 ho
 have ur:=aW qr;have w:=aW dh
 rw[qR,Bf hl,Int.emod_eq_of_lt (by omega) ov]
theorem Bj (H:mW a b dh dl qh qr sk)(h:sk=0)(hu:bD (((qr.toInt64&&&(4294967295:Int64))<<<((32:Int32)&&&0x3f).toInt64)|||(c.toInt64&&&(4294967295:Int64)))<bD ((dl.toInt64&&&(4294967295:Int64))*(qh.toInt64&&&(4294967295:Int64)))){E R:Int64}
  (hE:bD E=(ah qh-1)*ah dl) (hR:bD R=(ah qr+ah dh)*4294967296+ah c) (hq:bD E≤bD R) {q':Int32} (e1:qh+(-1:Int32)=q'):oy a b c dh dl q':=by
 subst e1
 have d1:=vQ (rC hu)
 rw[tu,qR] at hu
 rw[hE,hR] at hq
 obtain ⟨r,e,h1,h2,h3,h4⟩:=H
 rw[h2 h] at e
 unfold oy;rw[d1];exact Ih e hu hq
theorem Ij {q' q'':Int32}(h:ah qh-1≥1)(e1:q'=qh+(-1:Int32))(e2:q''=q'+(-1:Int32)):ah q''=ah qh-1-1:=by
 have d1:ah q'=ah qh-1:=by rw[e1];exact vQ (by clear e1 e2;omega)
 have d2:ah q''=ah q'-1:=by rw[e2];exact vQ (by rw[d1];exact h)
 clear e1 e2;omega
theorem Bl (H:mW a b dh dl qh qr sk)(h:sk=0)(hu:bD (((qr.toInt64&&&(4294967295:Int64))<<<((32:Int32)&&&0x3f).toInt64)|||(c.toInt64&&&(4294967295:Int64)))<bD ((dl.toInt64&&&(4294967295:Int64))*(qh.toInt64&&&(4294967295:Int64)))){E R:Int64}{q' q'':Int32}(e1:qh+(-1:Int32)=q')(e2:q'+(-1:Int32)=q'')
  (hd:2147483648≤ah dh) (hE:bD E=(ah qh-1)*ah dl) (hR:bD R=(ah qr+ah dh)*4294967296+ah c) (hq:bD R<bD E):oy a b c dh dl q'':=by
 rw[hE,hR] at hq
 clear hE hR
 obtain ⟨r,e,h1,h2,h3,h4⟩:=H
 rw[h2 h] at e
 clear hu h1 h2 h3 h4
 have w:=aW c;have B:=aW qh;have ul:=aW dl;have ur:=aW qr
 have q2:ah qh-1≥1:=Classical.byContradiction fun q=>by
  have q0:ah qh-1≤0:=by clear e1 e2 hq e hd;omega
  have:=Int.mul_le_mul_of_nonneg_right q0 ul.1
  clear e1 e2 e
  omega
 have d2:=Ij q2 e1.symm e2.symm
 clear e1 e2
 unfold oy;rw[d2]
 exact Ii e (Hr B.1 (by clear e;omega) ul.1 (by clear e;omega) w.1 ur.1 hd) hq
def vV (b c dh dl q b' c' r:Int32):Prop:=ah b*4294967296+ah c-ah q*(ah dh*4294967296+ah dl)=ah b'*4294967296+ah c'-ah r*18446744073709551616
theorem Bm {q b' c' r:Int32}(H:oy a b c dh dl q)(M:vV b c dh dl q b' c' r):r=a∧vF a b c dh dl q b' c':=by
 have ub:=aW b';have w:=aW c';have B:=aW dh;have ul:=aW dl;have ur:=aW r;have ua:=aW a
 obtain ⟨z1,z2⟩:=Hw (n0:=ah a) M ub w (by omega) H.1 H.2
 refine ⟨?_,?_,?_⟩
 ·rw[←Int32.toInt_inj];have r1:=rng32 a;have r2:=rng32 r;clear M H z2 ub w B ul;unfold ah at z1;omega
 ·rw[z2];omega
 ·rw[z2];exact H.2
theorem Bn (H:mW a b dh dl qh qr sk)(h:qh=0):ah a=0∧vF a b c dh dl 0 b c:=by
 obtain ⟨r,e,h1,h2,h3,h4⟩:=H
 have w:=aW c;have ub:=aW b;have ua:=aW a;have B:=aW dh;have ul:=aW dl
 have z:ah (0:Int32)=0:=rfl
 subst h
 have l:=h4 _ w.2
 rw[z] at l
 refine ⟨by omega,?_,by omega⟩
 rw[z];omega
end OwnTurn
section OwnMs
theorem pE {j z:Int32}{k n:Nat}{c:Int32}(h:j.toInt=k)(hc:c.toInt=n)(hz:((k+n:Nat):Int)<z.toInt):(j+c).toInt=(k+n:Nat):=by
 have a:=c_iadd j c;have r:=rng32 (j+c);have rz:=rng32 z;omega
theorem yM {j:Int32}{k:Nat}(h:j.toInt=(k+1:Nat)):(j+(-1:Int32)).toInt=k:=by
 have a:=c_iadd j (-1);have o:(-1:Int32).toInt= -1:=rfl;have r:=rng32 (j+(-1));have r':=rng32 j;omega
theorem Ik (x:Int32):ah (x^^^(-1:Int32))=4294967295-ah x:=by
 have e:(x^^^(-1:Int32)).toBitVec= ~~~x.toBitVec:=by
  have z:(-1:Int32).toBitVec=BitVec.allOnes 32:=by decide
  show x.toBitVec^^^(-1:Int32).toBitVec=_
  rw[z,BitVec.xor_allOnes]
 rw[pQ,pQ,e,BitVec.toNat_not]
 have:=x.toBitVec.isLt;omega
theorem Bq {y d g:Int32}{xl cin pr df cy:Int64}{X:Int}(hx:xl.toInt=X)(hX:0≤X∧X<4294967296)(hc:0≤cin.toInt∧cin.toInt<4294967296)(hp:((d.toInt64&&&(4294967295:Int64))*xl)+cin=pr)(hD:y.toInt64-pr=df)
  (g1:(0:Int32)<lcmpW (df&&&(4294967295:Int64)) ((pr.toInt32^^^(-1:Int32)).toInt64&&&(4294967295:Int64))→g=1) (g0: ¬((0:Int32)<lcmpW (df&&&(4294967295:Int64)) ((pr.toInt32^^^(-1:Int32)).toInt64&&&(4294967295:Int64)))→g=0)
  (hcy:((pr.toUInt64>>>((32:Int32)&&&0x3f).toInt64.toUInt64).toInt64)+g.toInt64=cy):ah y-(X*ah d+cin.toInt)=ah df.toInt32-cy.toInt*4294967296∧0≤cy.toInt∧cy.toInt<4294967296:=by
 have B:=aW d;have w:=aW y
 have m:=c_lmul (d.toInt64&&&(4294967295:Int64)) xl;rw[ij,hx] at m
 have a:=c_ladd ((d.toInt64&&&(4294967295:Int64))*xl) cin;rw[hp] at a
 have k:=sJ hX.1 (by omega) B.1 (by omega)
 rw[Int.mul_comm] at m
 have U:bD pr=X*ah d+cin.toInt:=by
  unfold bD
  generalize X*ah d=P at*
  generalize ((d.toInt64&&&(4294967295:Int64))*xl).toInt=E at*
  omega
 have s:=c_lsub y.toInt64 pr;rw[hD,c_i2l] at s
 have l1:=uM df
 have l2:=ij (pr.toInt32^^^(-1:Int32));rw[Ik,ju] at l2
 have e1:=ju df
 have sh:=pN pr
 have pU:bD pr=pr.toInt%18446744073709551616:=rfl
 have hg:g.toInt64.toInt=if ah y<bD pr%4294967296 then 1 else 0:=by
  rw[c_i2l]
  by_cases q:(0:Int32)<lcmpW (df&&&(4294967295:Int64)) ((pr.toInt32^^^(-1:Int32)).toInt64&&&(4294967295:Int64))
  ·have l:=yc q;rw[l1,l2] at l;rw[g1 q]
   have:ah y<bD pr%4294967296:=by rw[pU];unfold ah at w⊢;clear m a k U sh hp hD hcy;omega
   rw[if_pos this];rfl
  ·have l:=uI q;rw[l1,l2] at l;rw[g0 q]
   have: ¬ah y<bD pr%4294967296:=by rw[pU];unfold ah at w⊢;clear m a k U sh hp hD hcy;omega
   rw[if_neg this];rfl
 have ca:=c_ladd ((pr.toUInt64>>>((32:Int32)&&&0x3f).toInt64.toUInt64).toInt64) g.toInt64
 rw[hcy,sh,hg] at ca
 have rc:=rng64 cy
 have F:=sW pr
 have pb:0≤bD pr∧bD pr≤18446744069414584320:=by rw[U];omega
 have ec:cy.toInt=bD pr/4294967296+(if ah y<bD pr%4294967296 then 1 else 0):=by
  rw[←pU] at ca
  by_cases q:ah y<bD pr%4294967296
  ·rw[if_pos q] at ca⊢;clear m a k U hp hD hcy s l1 l2 e1 sh;omega
  ·rw[if_neg q] at ca⊢;clear m a k U hp hD hcy s l1 l2 e1 sh;omega
 have eD:ah df.toInt32=(ah y-bD pr)%4294967296:=by rw[e1,pU];unfold ah;clear m a k U hp hD hcy ca ec hg sh;omega
 have r:=Hu w pb eD ec
 rw[U] at r;exact r
theorem Il {b c dh dl x b' c':Int32}{xl c2 c1:Int64}(hx:xl.toInt=ah x)(h2:ah c-(ah x*ah dl+(0:Int64).toInt)=ah c'-c2.toInt*4294967296∧0≤c2.toInt∧c2.toInt<4294967296)(h1:ah b-(ah x*ah dh+c2.toInt)=ah b'-c1.toInt*4294967296∧0≤c1.toInt∧c1.toInt<4294967296):vV b c dh dl x b' c' c1.toInt32:=by
 have o:(0:Int64).toInt=0:=rfl
 have e:ah c1.toInt32=c1.toInt:=by rw[ju];omega
 unfold vV;rw[e]
 refine Hv (c2:=c2.toInt) ?_ h1.1
 rw[←h2.1,o];omega
end OwnMs
theorem qT {f:Nat→Int32}{i j:Nat}{x:Int32}(h: ¬j=i):fJ f i x j=f j:=if_neg h
theorem Br {f:Nat→Int32}{i:Nat}{x:Int32}:fJ f i x i=x:=if_pos rfl
theorem Bt {dh:Int32}{dhl:Int64}(h:dhl.toInt=ah dh)(hd:2147483648≤ah dh):dhl≠0:=fun q=>by
 rw[q] at h;have:(0:Int64).toInt=0:=rfl;omega
theorem oz {k n:Nat}{z:Int}(h:((k+n:Nat):Int)<z)(i:Nat):((k+(n-i):Nat):Int)<z:=by omega
theorem Bu {a b dh:Int32}{nC:Int64}(hC:((a.toInt64<<<((32:Int32)&&&0x3f).toInt64)|||(b.toInt64&&&(4294967295:Int64)))=nC)(h:ah a<ah dh):bD nC<ah dh*4294967296:=by
 rw[←hC,yL];have:=aW b;omega
theorem Bv {f:Nat→Int32}{k:Nat}{z:Int32}(h:f k=0): ∀i:Nat,(i:Int)<z.toInt→f i=fJ (fJ (fJ f k 0) (k+2) (f (k+2))) (k+1) (f (k+1)) i:=fun i _=>by
 unfold fJ
 by_cases q1:i=k+1
 ·simp[q1]
 ·by_cases q2:i=k+2
  ·simp[q2]
  ·by_cases q3:i=k
   ·simp[q3,h]
   ·simp[q1,q2,q3]
theorem Bw {g:Nat→Int32}{k:Nat}{z:Int32}(h:g k=0): ∀i:Nat,(i:Int)<z.toInt→g i=fJ g k 0 i:=fun i _=>by
 unfold fJ
 by_cases q:i=k
 ·simp[q,h]
 ·simp[q]
section OwnShf
def jr (n:Int32)(f:Nat→Int32)(i:Nat):Int32:=(f i<<<(n&&&31))|||(((f (i+1)).toUInt32>>>(((32:Int32)-n)&&&31).toUInt32).toInt32)
def mz (n:Int32)(f:Nat→Int32)(i:Nat):Nat→Int32:=fun x=>if x<i then jr n f x else f x
theorem Im (n:Int32)(f:Nat→Int32)(i:Nat):fJ (mz n f i) i (jr n f i)=mz n f (i+1):=by
 funext x;unfold fJ mz
 by_cases q:x=i
 ·subst q;simp
 ·by_cases r:x<i
  ·have:x<i+1:=by omega
   simp[q,r,this]
  ·have: ¬x<i+1:=by omega
   simp[q,r,this]
theorem Io (n:Int32)(f:Nat→Int32):mz n f 0=f:=by funext x;simp[mz]
theorem Bx {n:Int32}{f:Nat→Int32}{i x:Nat}(h:i≤x):mz n f i x=f x:=if_neg (by omega)
theorem Ip {n:Int32}{f:Nat→Int32}{i x:Nat}(h:x<i):mz n f i x=jr n f x:=if_pos h
theorem Iq {Z:State}{h:Heap}{a:Addr}{k:ClassId}{z n:Int32}{f:Nat→Int32}{i:Nat}(F:bM Z h a k z (fJ (mz n f i) i (jr n f i))):bM Z h a k z (mz n f (i+1)):=by rw[Im] at F;exact F
def nY (n:Int32)(f g:Nat→Int32)(d i:Nat):Nat→Int32:=fun x=>if d≤x∧x<d+i then jr n f (x-d) else g x
theorem Ir (n:Int32)(f g:Nat→Int32)(d i:Nat):fJ (nY n f g d i) (d+i) (jr n f i)=nY n f g d (i+1):=by
 funext x;unfold fJ nY
 by_cases q:x=d+i
 ·subst q;have e:d+i-d=i:=by omega
  simp[e]
 ·by_cases r:d≤x∧x<d+i
  ·have:d≤x∧x<d+(i+1):=by omega
   simp[q,r,this]
  ·have: ¬(d≤x∧x<d+(i+1)):=by omega
   simp only[q,r,this,if_false]
theorem Bz (n:Int32)(f g:Nat→Int32)(d:Nat):nY n f g d 0=g:=by
 funext x;unfold nY;have: ¬(d≤x∧x<d+0):=by omega
 simp only[this,if_false]
theorem BA {Z:State}{h:Heap}{a:Addr}{k:ClassId}{z n:Int32}{f g:Nat→Int32}{d i:Nat}(F:bM Z h a k z (fJ (nY n f g d i) (d+i) (jr n f i))):bM Z h a k z (nY n f g d (i+1)):=by rw[Ir] at F;exact F
theorem BF (x:Int32):x-(0:Int32)=x:=by rw[←Int32.toInt_inj];have a:=c_isub x 0;have r:=rng32 x;have r':=rng32 (x-0);have o:(0:Int32).toInt=0:=rfl;omega
theorem Iu {r:Int32}(h:nu (ah 0) r):(32:Int32)-r=0:=by
 obtain ⟨k,e,q⟩:=h
 have u0:ah 0=0:=rfl
 have w:k=32:=by
  rcases q with ⟨-,q⟩|⟨-,q,-⟩
  ·exact q
  ·rw[u0] at q;omega
 rw[←Int32.toInt_inj];have a:=c_isub 32 r;have r1:=rng32 (32-r);have o:(32:Int32).toInt=32:=rfl;have o0:(0:Int32).toInt=0:=rfl
 omega
def oE (oo ll:Int32)(il:Nat)(f:Nat→Int32):Prop:= ∃z:Nat,z≤il∧(∀i,i<z→f i=0)∧(z<il→ ¬f z=0)∧ll.toInt=((il-z:Nat):Int)∧(z<il→oo.toInt=z)∧(z=il→oo=0)
theorem lg {a b:Int32}{i j:Nat}(ha:a.toInt=i)(hb:b.toInt=j)(h:i<j):a<b:=by rw[Int32.lt_iff_toInt_lt];omega
theorem jJ {a b:Int32}{i j:Nat}(ha:a.toInt=i)(hb:b.toInt=j)(h:j≤i): ¬a<b:=fun q=>by rw[Int32.lt_iff_toInt_lt] at q;omega
theorem n_ {a b:Int32}{i j:Nat}(ha:a.toInt=i)(hb:b.toInt=j)(h:j≤i):(a-b).toInt=((i-j:Nat):Int):=by
 have q:=c_isub a b;have r:=rng32 (a-b);have ra:=rng32 a;omega
theorem lJ {a b:Int32}{i j:Nat}(ha:a.toInt=i)(hb:b.toInt=j)(h:i+j<100000):(a+b).toInt=((i+j:Nat):Int):=by
 have q:=c_iadd a b;have r:=rng32 (a+b);omega
theorem qU {a:Int32}{i:Nat}(ha:a.toInt=i)(h:0<i): ¬a=0:=fun q=>by
 rw[q] at ha;have o:(0:Int32).toInt=0:=rfl;omega
theorem vW {a:Int32}(ha:a.toInt=0):a=0:=by rw[←Int32.toInt_inj];exact ha
theorem vX (x:Int32):(0:Int32)+x=x:=by rw[←Int32.toInt_inj];have a:=c_iadd 0 x;have r:=rng32 x;have r':=rng32 (0+x);have o:(0:Int32).toInt=0:=rfl;omega
theorem Iv {f:Nat→Int32}{i:Nat}(h: ∀x,x≤i→f x=0)(h':f (i+1)=0): ∀x,x≤i+1→f x=0:=fun x q=>by
 by_cases r:x=i+1
 ·rw[r];exact h'
 ·exact h x (by omega)
theorem Iw {f:Nat→Int32}(h:f 0=0): ∀x,x≤0→f x=0:=fun x q=>by
 have:x=0:=by omega
 rw[this];exact h
end OwnShf
section OwnCopy
variable {Z:State}{h:Heap}{a b:Addr}{k:ClassId}{z:Int32}{f g:Nat→Int32}
theorem rD (A:Arv Z h a k .int z [] (.int (0:Int32))):bM Z h a k z (fun _=>0):=A.pad fun i=>by
 by_cases q:i<z.toNatClampNeg
 ·rw[yK q];rfl
 ·have e:(jK z.toNatClampNeg fun _=>0).length≤i:=by rw[vw];omega
  rw[List.getD_eq_getElem?_getD,List.getElem?_eq_none e];rfl
theorem Ix {M:Nat}{sp nn:Int32}{dv:Value}(hnn:nn=z)(hs:sp.toNatClampNeg+z.toNatClampNeg≤M)(A:Arv Z h b k .int z ((jK z.toNatClampNeg g).take (0:Int32).toNatClampNeg++(List.range nn.toNatClampNeg).map (fun i=>(jK M f).getD (sp.toNatClampNeg+i) dv)++(jK z.toNatClampNeg g).drop ((0:Int32).toNatClampNeg+nn.toNatClampNeg)) (.int (0:Int32))):bM Z h b k z (fun i=>f (sp.toNatClampNeg+i)):=by
 subst hnn
 have z0:(0:Int32).toNatClampNeg=0:=rfl
 have e:(jK nn.toNatClampNeg g).take (0:Int32).toNatClampNeg++(List.range nn.toNatClampNeg).map (fun i=>(jK M f).getD (sp.toNatClampNeg+i) dv)++(jK nn.toNatClampNeg g).drop ((0:Int32).toNatClampNeg+nn.toNatClampNeg)=jK nn.toNatClampNeg (fun i=>f (sp.toNatClampNeg+i)):=by
  rw[z0,List.take_zero,List.nil_append,List.drop_of_length_le (by rw[vw];omega),List.append_nil]
  unfold jK
  apply List.map_congr_left;intro i hi
  have hi':=List.mem_range.mp hi
  exact yK (N:=M) (f:=f) (by omega)
 rw[e] at A;exact A
theorem Iz (x y:Int32):(x+y)-x=y:=by
 rw[←Int32.toInt_inj];have p:=c_iadd x y;have q:=c_isub (x+y) x;have r:=rng32 y;have r':=rng32 ((x+y)-x);omega
theorem IK {x:Int32}{i:Nat}(h:x.toInt=i)(q: ¬(0:Int32)<x):i=0:=by
 rw[Int32.lt_iff_toInt_lt] at q;have o:(0:Int32).toInt=0:=rfl;omega
theorem IQ {x:Int32}{i:Nat}(h:x.toInt=i)(q:(0:Int32)<x): ¬x=0:=fun r=>by rw[r] at q;exact absurd q (by decide)
theorem BH {z:Int32}{n:Nat}(h:(n:Int)≤z.toInt):n≤z.toNatClampNeg:=by have:z.toNatClampNeg=z.toInt.toNat:=rfl;omega
theorem IU {z fo:Int32}{i:Nat}(h:fo.toInt=i)(hz:(i:Int)≤z.toInt):(z-fo).toInt=((z.toInt.toNat-i:Nat):Int):=by
 have q:=c_isub z fo;have r:=rng32 (z-fo);have rz:=rng32 z;omega
theorem IV {oo l2 zz:Int32}(h: ¬zz=l2):oo=0→ ¬(oo+l2)=zz:=fun q r=>h (by rw[←r,q,vX])
end OwnCopy
section OwnDm
theorem rF {b r x:Addr}{S:Nat}(h:b=r∨S≤b)(h1:r≠x)(h2:x<S):b≠x:=by
 rcases h with h|h
 ·rw[h];exact h1
 ·exact fun q=>absurd h (by rw[q];exact Nat.not_le.mpr h2)
def aY (f:Nat→Int32):Nat→Int
 |0=>0
 |n+1=>aY f n*4294967296+ah (f n)
def pG (f:Nat→Int32):Nat→Int32:=fun x=>if x=0 then 0 else f (x-1)
theorem BK (f:Nat→Int32)(i:Nat):pG f (i+1)=f i:=by simp[pG]
def oF (sh:Int32)(f:Nat→Int32)(n:Nat):Nat→Int32:=fJ (nY sh f (fun _=>0) 1 (n-1)) (1+(n-1)) (f (n-1)<<<(sh&&&31))
theorem IX {u:Int}{sh:Int32}(h:nu u sh)(h0:0<u)(h1:u<2147483648): ∃ks:Nat,sh.toInt=ks∧1≤ks∧ks≤31∧2147483648≤u*2^ks∧u*2^ks<4294967296:=by
 obtain ⟨k,e,q⟩:=h
 rcases q with ⟨q,-⟩|⟨q1,q2,q3⟩
 ·omega
 ·refine ⟨k,e,?_,q1,q2,q3⟩
  rcases Nat.eq_zero_or_pos k with r|r
  ·subst r;simp at q2;omega
  ·exact r
theorem IY {u:Int}{s2 sh:Int32}{ks:Nat}(h:nu u s2)(hu:0≤u)(hs:sh.toInt=ks)(hge: ¬s2<sh):u*2^ks<4294967296:=by
 obtain ⟨k,e,q⟩:=h
 have hk:ks≤k:=by rw[Int32.lt_iff_toInt_lt] at hge;omega
 rcases q with ⟨q,-⟩|⟨q1,q2,q3⟩
 ·rw[q];omega
 ·have:(2:Int)^ks≤2^k:=by
   have:=Nat.pow_le_pow_right (show 0<2 by omega) hk
   have a:=m_ ks;have b:=m_ k;omega
  have:=Int.mul_le_mul_of_nonneg_left this hu
  omega
theorem I_ {u t:Int}{s2 sh:Int32}(h:nu u s2)(ht:nu t sh)(hu:0<u)(ht0:0<t)(hlt:s2<sh):t<u:=by
 obtain ⟨k,e,q⟩:=h;obtain ⟨k',e',q'⟩:=ht
 rw[Int32.lt_iff_toInt_lt] at hlt
 rcases q with ⟨q,-⟩|⟨q1,q2,q3⟩
 ·omega
 rcases q' with ⟨q',-⟩|⟨r1,r2,r3⟩
 ·omega
 refine Classical.byContradiction fun w=> ?_
 have hk:k+1≤k':=by omega
 have p2:(2:Int)^(k+1)≤2^k':=by
  have:=Nat.pow_le_pow_right (show 0<2 by omega) hk
  have a:=m_ (k+1);have b:=m_ k';omega
 have e2:(2:Int)^(k+1)=2^k*2:=by rw[Int.pow_succ]
 have m1:=Int.mul_le_mul_of_nonneg_left p2 (show 0≤u by omega)
 have pk:(0:Int)≤2^k':=by rw[←m_];exact Int.natCast_nonneg _
 have m2:=Int.mul_le_mul_of_nonneg_right (show u≤t by omega) pk
 rw[e2] at m1
 have e3:u*(2^k*2)=u*2^k*2:=by grind
 omega
variable {sh:Int32}{ks:Nat}{f:Nat→Int32}
theorem Ja (hs:sh.toInt=ks)(h1:1≤ks)(hk:ks≤31)(h:ah (f 0)*2^ks<4294967296):aY (oF sh f 2) 3=aY f 2*2^ks:=by
 have a:ah (jr sh f 0)=_:=oh (x:=f 0) (y:=f 1) hs h1 hk
 have b:ah (f 1<<<(sh&&&31))=_:=o_ hs hk
 have z:ah (0:Int32)=0:=rfl
 have e:aY (oF sh f 2) 3=((0*4294967296+ah 0)*4294967296+ah (jr sh f 0))*4294967296+ah (f 1<<<(sh&&&31)):=rfl
 have e':aY f 2*2^ks=ah (f 0)*2^ks*4294967296+ah (f 1)*2^ks:=by show ((0*4294967296+ah (f 0))*4294967296+ah (f 1))*2^ks=_;grind
 have p:=(jO hk).1
 have u0:=Int.mul_nonneg (aW (f 0)).1 (show (0:Int)≤2^ks by omega)
 rw[e,e',a,b,z]
 generalize ah (f 0)*2^ks=X at*
 generalize ah (f 1)*2^ks=Y at*
 omega
theorem Jb (hs:sh.toInt=ks)(h1:1≤ks)(hk:ks≤31)(h:ah (f 0)*2^ks<4294967296):aY (oF sh f 3) 4=aY f 3*2^ks:=by
 have a:ah (jr sh f 0)=_:=oh (x:=f 0) (y:=f 1) hs h1 hk
 have a':ah (jr sh f 1)=_:=oh (x:=f 1) (y:=f 2) hs h1 hk
 have b:ah (f 2<<<(sh&&&31))=_:=o_ hs hk
 have z:ah (0:Int32)=0:=rfl
 have e:aY (oF sh f 3) 4=(((0*4294967296+ah 0)*4294967296+ah (jr sh f 0))*4294967296+ah (jr sh f 1))*4294967296+ah (f 2<<<(sh&&&31)):=rfl
 have e':aY f 3*2^ks=(ah (f 0)*2^ks*4294967296+ah (f 1)*2^ks)*4294967296+ah (f 2)*2^ks:=by show (((0*4294967296+ah (f 0))*4294967296+ah (f 1))*4294967296+ah (f 2))*2^ks=_;grind
 have p:=(jO hk).1
 have u0:=Int.mul_nonneg (aW (f 0)).1 (show (0:Int)≤2^ks by omega)
 rw[e,e',a,a',b,z]
 generalize ah (f 0)*2^ks=X at*
 generalize ah (f 1)*2^ks=Y at*
 generalize ah (f 2)*2^ks=W at*
 omega
theorem Jc (hs:sh.toInt=ks)(h1:1≤ks)(hk:ks≤31)(h:ah (f 0)*2^ks<4294967296):aY (oF sh f 4) 5=aY f 4*2^ks:=by
 have a:ah (jr sh f 0)=_:=oh (x:=f 0) (y:=f 1) hs h1 hk
 have a':ah (jr sh f 1)=_:=oh (x:=f 1) (y:=f 2) hs h1 hk
 have a2:ah (jr sh f 2)=_:=oh (x:=f 2) (y:=f 3) hs h1 hk
 have b:ah (f 3<<<(sh&&&31))=_:=o_ hs hk
 have z:ah (0:Int32)=0:=rfl
 have e:aY (oF sh f 4) 5=((((0*4294967296+ah 0)*4294967296+ah (jr sh f 0))*4294967296+ah (jr sh f 1))*4294967296+ah (jr sh f 2))*4294967296+ah (f 3<<<(sh&&&31)):=rfl
 have e':aY f 4*2^ks=((ah (f 0)*2^ks*4294967296+ah (f 1)*2^ks)*4294967296+ah (f 2)*2^ks)*4294967296+ah (f 3)*2^ks:=by show ((((0*4294967296+ah (f 0))*4294967296+ah (f 1))*4294967296+ah (f 2))*4294967296+ah (f 3))*2^ks=_;grind
 have p:=(jO hk).1
 have u0:=Int.mul_nonneg (aW (f 0)).1 (show (0:Int)≤2^ks by omega)
 rw[e,e',a,a',a2,b,z]
 generalize ah (f 0)*2^ks=X at*
 generalize ah (f 1)*2^ks=Y at*
 generalize ah (f 2)*2^ks=W at*
 generalize ah (f 3)*2^ks=V at*
 omega
theorem Jd (hs:sh.toInt=ks)(h1:1≤ks)(hk:ks≤31)(h:ah (f 0)*2^ks<4294967296)(h':2147483648≤ah (f 0)*2^ks):ah (jr sh f 0)*4294967296+ah (f 1<<<(sh&&&31))=aY f 2*2^ks∧2147483648≤ah (jr sh f 0):=by
 have a:ah (jr sh f 0)=_:=oh (x:=f 0) (y:=f 1) hs h1 hk
 have b:ah (f 1<<<(sh&&&31))=_:=o_ hs hk
 have e':aY f 2*2^ks=ah (f 0)*2^ks*4294967296+ah (f 1)*2^ks:=by show ((0*4294967296+ah (f 0))*4294967296+ah (f 1))*2^ks=_;grind
 have p:=(jO hk).1
 have u1:=Int.mul_nonneg (aW (f 1)).1 (show (0:Int)≤2^ks by omega)
 rw[e',a,b]
 generalize ah (f 0)*2^ks=X at*
 generalize ah (f 1)*2^ks=Y at*
 constructor<;>omega
theorem Je {A D Q R P:Int}(hP:0<P)(hD:0<D)(h:A*P=Q*(D*P)+R)(h0:0≤R)(h1:R<D*P):Q=A/D∧(R=0↔A%D=0)∧R=A%D*P:=by
 have e:R=(A-Q*D)*P:=by
  have:(A-Q*D)*P=A*P-Q*(D*P):=by grind
  omega
 have l0:0≤A-Q*D:=Classical.byContradiction fun q=>by
  have:=Int.mul_lt_mul_of_pos_right (show A-Q*D<0 by omega) hP
  omega
 have l1:A-Q*D<D:=Classical.byContradiction fun q=>by
  have:=Int.mul_le_mul_of_nonneg_right (show D≤A-Q*D by omega) (show 0≤P by omega)
  omega
 have a:A=(A-Q*D)+D*Q:=by grind
 have d1:A/D=Q:=by rw[a,Int.add_mul_ediv_left _ _ (by omega),Int.ediv_eq_zero_of_lt l0 l1];omega
 have d2:A%D=A-Q*D:=by
  have:((A-Q*D)+D*Q)%D=A-Q*D:=by rw[Int.add_mul_emod_self_left,Int.emod_eq_of_lt l0 l1]
  rw[←a] at this;exact this
 refine ⟨d1.symm,?_,by rw[d2];exact e⟩
 rw[d2,e]
 constructor
 ·intro q;rcases Int.mul_eq_zero.mp q with q|q
  ·exact q
  ·omega
 ·intro q;rw[q];omega
theorem Jf {F:Nat→Int32}{k:Nat}(hs:sh.toInt=ks)(h1:1≤ks)(hk:ks≤31)(hz: ∀i,i≤k→F i=0){M:Int}(hR:ah (F (k+1))*4294967296+ah (F (k+2))=M*2^ks):(∀i,i<k+2→jr ((32:Int32)-sh) F i=0)↔ah (F (k+1))*4294967296+ah (F (k+2))=0:=by
 have e:((32:Int32)-sh).toInt=((32-ks:Nat):Int):=n_ (i:=32) rfl hs (by omega)
 have sv: ∀i,ah (jr ((32:Int32)-sh) F i)=ah (F i)*2^(32-ks)%4294967296+ah (F (i+1))*2^(32-ks)/4294967296:=fun i=>oh (x:=F i) (y:=F (i+1)) e (by omega) (by omega)
 have pc:=yg (s:=ks) (by omega)
 have p1:=jO (s:=ks) hk
 have p2:=jO (s:=32-ks) (by omega)
 constructor
 ·intro h
  have a:=sv k;have b:=sv (k+1)
  rw[h k (by omega),hz k (by omega)] at a
  rw[h (k+1) (by omega)] at b
  have z:ah (0:Int32)=0:=rfl
  rw[z] at a b
  have w:=aW (F (k+1));have B:=aW (F (k+2))
  clear sv h hz
  generalize ah (F (k+1))=x at*
  generalize ah (F (k+2))=y at*
  have nx:=Int.mul_nonneg w.1 (show (0:Int)≤2^(32-ks) by omega)
  have ny:=Int.mul_nonneg B.1 (show (0:Int)≤2^(32-ks) by omega)
  rw[Int.zero_mul] at a
  have X0:x*2^(32-ks)=0:=by omega
  have Y0:y*2^(32-ks)<4294967296:=by omega
  have x0:x=0:=by
   rcases Int.mul_eq_zero.mp X0 with q|q
   ·exact q
   ·omega
  have y1:y<2^ks:=Classical.byContradiction fun q=>by
   have:=Int.mul_le_mul_of_nonneg_left (show (2:Int)^ks≤y by omega) (show (0:Int)≤2^(32-ks) by omega)
   rw[pc,Int.mul_comm] at this;omega
  have M0:M=0:=by
   rcases Int.lt_trichotomy M 0 with q|q|q
   ·have:=Int.mul_le_mul_of_nonneg_right (show M≤ -1 by omega) (show (0:Int)≤2^ks by omega);omega
   ·exact q
   ·have:=Int.mul_le_mul_of_nonneg_right (show 1≤M by omega) (show (0:Int)≤2^ks by omega);omega
  rw[M0] at hR;omega
 ·intro h i hi
  have w:=aW (F (k+1));have B:=aW (F (k+2))
  have zx:ah (F (k+1))=0:=by omega
  have zy:ah (F (k+2))=0:=by omega
  have G: ∀j,j≤k+2→ah (F j)=0:=fun j hj=>by
   by_cases q:j≤k
   ·rw[hz j q];rfl
   ·by_cases r:j=k+1
    ·rw[r];exact zx
    ·have:j=k+2:=by omega
     rw[this];exact zy
  apply uW;rw[sv i,G i (by omega),G (i+1) (by omega)];omega
theorem Jg {oo lr:Int32}{il:Nat}{f2:Nat→Int32}(H:oE oo lr il f2):lr=0↔ ∀i,i<il→f2 i=0:=by
 obtain ⟨z,h1,h2,h3,h4,-,-⟩:=H
 constructor
 ·intro q i hi
  rw[q] at h4
  have o:(0:Int32).toInt=0:=rfl
  exact h2 i (by omega)
 ·intro q
  apply vW
  have: ¬z<il:=fun r=>h3 r (q z r)
  rw[h4];omega
theorem Jh {Z:State}{h:Heap}{da:Addr}{kd:ClassId}{sh dh dl:Int32}{ft:Nat→Int32}(V:bM Z h da kd 2 (fJ (nY sh ft (fun _=>0) 0 (2-1)) (0+(2-1)) (ft (2-1)<<<(sh&&&31))))(e1:dh=jr sh ft 0)(e2:dl=ft 1<<<(sh&&&31)):Arv Z h da kd .int 2 [.int dh,.int dl] (.int (0:Int32)):=by subst e1 e2;exact V
theorem yO {x dh dl:Int32}(h:2147483648≤ah dh):ah (0:Int32)*4294967296+ah x<ah dh*4294967296+ah dl:=by
 have z:ah (0:Int32)=0:=rfl
 have:=aW x;have:=aW dl;omega
theorem Ji {V D q R x0 x1 x2:Int}(S:((0*4294967296+x0)*4294967296+x1)*4294967296+x2=V)(a:q*D+R=(x0*4294967296+x1)*4294967296+x2):V=(0*4294967296+q)*D+R:=by
 have e:(0*4294967296+q)*D=q*D:=by grind
 rw[e];omega
theorem Jj {V D q0 q1 R r x0 x1 x2 x3:Int}(S:(((0*4294967296+x0)*4294967296+x1)*4294967296+x2)*4294967296+x3=V)(a:q0*D+r=(x0*4294967296+x1)*4294967296+x2)(b:q1*D+R=r*4294967296+x3):V=((0*4294967296+q0)*4294967296+q1)*D+R:=by
 have e:((0*4294967296+q0)*4294967296+q1)*D=q0*D*4294967296+q1*D:=by grind
 rw[e];omega
theorem Jk {V D q0 q1 q2 R r r' x0 x1 x2 x3 x4:Int}(S:((((0*4294967296+x0)*4294967296+x1)*4294967296+x2)*4294967296+x3)*4294967296+x4=V)(a:q0*D+r=(x0*4294967296+x1)*4294967296+x2)(b:q1*D+r'=r*4294967296+x3)(c:q2*D+R=r'*4294967296+x4):V=(((0*4294967296+q0)*4294967296+q1)*4294967296+q2)*D+R:=by
 have e:(((0*4294967296+q0)*4294967296+q1)*4294967296+q2)*D=(q0*D*4294967296+q1*D)*4294967296+q2*D:=by grind
 rw[e];omega
theorem Jl {A D Q:Int}{F:Nat→Int32}{k:Nat}{oo lr sh dh dl:Int32}{ks:Nat}{F2:Nat→Int32}(hs:sh.toInt=ks)(h1:1≤ks)(hk:ks≤31)(hz: ∀i,i≤k→F i=0)(hD:0<D)(e:A*2^ks=Q*(ah dh*4294967296+ah dl)+(ah (F (k+1))*4294967296+ah (F (k+2))))(l:ah (F (k+1))*4294967296+ah (F (k+2))<ah dh*4294967296+ah dl)(ed:ah dh*4294967296+ah dl=D*2^ks)
  (N:oE oo lr (k+2) F2) (hF: ∀i,i<k+2→F2 i=jr ((32:Int32)-sh) F i):Q=A/D∧(lr=0↔A%D=0):=by
 have p:=(jO hk).1
 have u1:=aW (F (k+1));have u2:=aW (F (k+2))
 rw[ed] at e l
 obtain ⟨d1,d2,d3⟩:=Je (show (0:Int)<2^ks by omega) hD e (by omega) l
 refine ⟨d1,?_⟩
 rw[Jg N,←d2,←Jf hs h1 hk hz d3]
 constructor
 ·intro q i hi;rw[←hF i hi];exact q i hi
 ·intro q i hi;rw[hF i hi];exact q i hi
theorem Jm {sh:Int32}{F:Nat→Int32}{k:Nat}{y:Int32}: ∀i,i<k+2→fJ (mz ((32:Int32)-sh) F (k+3-1)) (k+3-1) y i=jr ((32:Int32)-sh) F i:=fun i hi=>by
 rw[qT (by omega),Ip (by omega)]
theorem BM (f:Nat→Int32): ∀n,aY (pG f) (n+1)=aY f n
 |0=>rfl
 |n+1=>by
  show aY (pG f) (n+1)*4294967296+ah (pG f (n+1))=_
  rw[BM f n,BK];rfl
variable {p:Program}{l:Launch}{e':Env}{R:Room}{s:State}{m:MethodId}{args:Array Value}{below:List Frame}{meth:Method}{cd:Code}{T:State}{locs:List Loc}{cells slots:Nat}{Fn:Outcome→State→Prop}{pc:Nat}{st:List Value}{b c:Slot}{v:Int64}{a:Addr}
theorem Jo (q k:Nat){L:Array Slot}(L':Array Slot)(X:Stand p l e' R s m args below meth cd T locs cells slots)(hx:p.tables.exec=Jvm.exec)(hd:decode cd.code pc= .ok (.astore k,2))(hb:L[k]? =some b)(hc:i_ b)(hl:L.setIfInBounds k (.val (.ref a))=L')(hq:pc+2=q)(w:ay p e' below Fn T (mkF m q L' st)):ay p e' below Fn T (mkF m pc L (.ref a::st)):=by
 refine Fu q L' X hx hd rfl ?_ hq w
 rw[←hl]
 refine storeLocals_cat1 hb rfl ?_
 cases b with
 |unset=>trivial
 |second=>cases hc.1
 |val w=>have q:=hc.2;cases w<;>first|rfl|cases q
theorem Jq (q k:Nat){L:Array Slot}(L':Array Slot)(X:Stand p l e' R s m args below meth cd T locs cells slots)(hx:p.tables.exec=Jvm.exec)(hd:decode cd.code pc= .ok (.lstore k,2))(hb:L[k]? =some b)(hc:L[k+1]? =some c)(h1:i_ b)(h2:i_ c)(hl:(L.setIfInBounds k (.val (.long v))).setIfInBounds (k+1) .second=L')(hq:pc+2=q)(w:ay p e' below Fn T (mkF m q L' st)):ay p e' below Fn T (mkF m pc L (.long v::st)):=by
 refine mY q L' X hx hd ?_ hq w
 rw[qw hb hc h1.1 (h2.1.trans h1.2.symm) (fun q=>by rw[h2.2] at q;cases q),h2.2,←hl];rfl
theorem Jr {f:Nat→Int32}(h:0<ah (f 0)):0<aY f 2:=by
 show 0<(0*4294967296+ah (f 0))*4294967296+ah (f 1)
 have:=aW (f 1);omega
theorem Jt {fa ft:Nat→Int32}{n:Nat}{s2 sh:Int32}(h:s2<sh)(h1:nu (ah (fa 0)) s2)(h2:nu (ah (ft 0)) sh)(ha:0<ah (fa 0))(ht:0<ah (ft 0))(hle:aY fa n≤4503599627370496*aY ft 2)(hn:n≤4):n≤3:=by
 have l:=I_ h1 h2 ha ht h
 rcases Nat.lt_or_ge n 4 with q|q
 ·omega
 ·have:n=4:=by omega
  subst this
  have e:aY fa 4=(((0*4294967296+ah (fa 0))*4294967296+ah (fa 1))*4294967296+ah (fa 2))*4294967296+ah (fa 3):=rfl
  have e':aY ft 2=(0*4294967296+ah (ft 0))*4294967296+ah (ft 1):=rfl
  have a1:=aW (fa 1);have a2:=aW (fa 2);have a3:=aW (fa 3);have b1:=aW (ft 1)
  rw[e,e'] at hle;omega
theorem Ju {qa qx w:Addr}{S:Nat}(h:qa=w∨S≤qa):qa∈ [qx,w]∨S≤qa:=h.imp (fun q=>by rw[q];simp) id
theorem BN {P:Nat→Prop}(a:P 0): ∀i,i≤0→P i:=fun i h=>by
 have:i=0:=by omega
 subst this;exact a
theorem BR {P:Nat→Prop}(a:P 0)(b:P 1): ∀i,i≤1→P i:=fun i h=>by
 rcases Nat.lt_or_ge i 1 with q|q
 ·exact BN a i (by omega)
 ·have:i=1:=by omega
  subst this;exact b
theorem Jv {P:Nat→Prop}(a:P 0)(b:P 1)(c:P 2): ∀i,i≤2→P i:=fun i h=>by
 rcases Nat.lt_or_ge i 2 with q|q
 ·exact BR a b i (by omega)
 ·have:i=2:=by omega
  subst this;exact c
end OwnDm
section OwnDo
def vY (a b:Slot):Prop:=gR a=false∧gR b=dY a∧dY b=false
variable {p:Program}{l:Launch}{e':Env}{R:Room}{s:State}{m:MethodId}{args:Array Value}{below:List Frame}{meth:Method}{cd:Code}{T:State}{locs:List Loc}{cells slots:Nat}{Fn:Outcome→State→Prop}{pc:Nat}{st:List Value}{b c:Slot}{v:Int64}
theorem BT (q k:Nat){L:Array Slot}(L':Array Slot)(X:Stand p l e' R s m args below meth cd T locs cells slots)(hx:p.tables.exec=Jvm.exec)(hd:decode cd.code pc= .ok (.lstore k,2))(hb:L[k]? =some b)(hc:L[k+1]? =some c)(h:vY b c)(hl:(L.setIfInBounds k (.val (.long v))).setIfInBounds (k+1) .second=L')(hq:pc+2=q)(w:ay p e' below Fn T (mkF m q L' st)):ay p e' below Fn T (mkF m pc L (.long v::st)):=by
 refine mY q L' X hx hd ?_ hq w
 rw[qw hb hc h.1 h.2.1 (fun q=>by rw[h.2.2] at q;cases q),h.2.2,←hl];rfl
variable {nC dl:Int64}{U d:Int}
theorem yP (hU:bD nC=U)(hl:dl.toInt=d)(hd:0<d)(hd':d<4294967296)(hlt:U<d*4294967296)(hp: ¬lcmpW nC (0:Int64)<0):ah (nC/dl).toInt32=U/d∧ah (nC-((nC/dl).toInt32.toInt64*dl)).toInt32=U%d:=by
 have p:=oX hp
 have o:(0:Int64).toInt=0:=rfl
 have rn:=rng64 nC
 have eU:nC.toInt=U:=by rw[←hU];unfold bD;omega
 have dv:=(c_ldiv nC dl d hl (fun q=>by rw[q] at hl;have:(-1:Int64).toInt= -1:=rfl;omega)).1 (by omega)
 rw[eU] at dv
 have lt:=AW hd hlt
 have ge:0≤U/d:=Int.ediv_nonneg (by omega) (by omega)
 have hq:ah (nC/dl).toInt32=U/d:=by rw[ju,dv];omega
 refine ⟨hq,?_⟩
 have e:=Int.mul_ediv_add_emod U d
 have lt':=Int.emod_lt_of_pos U hd
 have w:=Int.emod_nonneg U (show d≠0 by omega)
 rw[ju]
 have s:=c_lsub nC ((nC/dl).toInt32.toInt64*dl)
 have mu:=c_lmul (nC/dl).toInt32.toInt64 dl
 rw[hl,c_i2l] at mu
 have z: ∃t:Int,(nC/dl).toInt32.toInt=U/d+t*4294967296:=by
  refine ⟨((nC/dl).toInt32.toInt-U/d)/4294967296,?_⟩
  unfold ah at hq;omega
 obtain ⟨t,ht⟩:=z
 have ex:(nC/dl).toInt32.toInt*d=d*(U/d)+(t*d)*4294967296:=by rw[ht];grind
 rw[ex] at mu
 rw[eU] at s
 generalize d*(U/d)=P at*
 generalize U%d=Rm at*
 generalize t*d=Y at*
 generalize (nC-((nC/dl).toInt32.toInt64*dl)).toInt=S at*
 generalize ((nC/dl).toInt32.toInt64*dl).toInt=M at*
 omega
def rG (U d q r:Int):Prop:=U=q*d+r∧0≤r∧r<d
theorem vZ {q r:Int}(hd:0<d)(h1:q=U/d)(h2:r=U%d):rG U d q r:=by
 have e:=Int.mul_ediv_add_emod U d
 refine ⟨?_,?_,?_⟩
 ·rw[h1,h2,Int.mul_comm];omega
 ·rw[h2];exact Int.emod_nonneg U (by omega)
 ·rw[h2];exact Int.emod_lt_of_pos U hd
theorem Jw {A B d q r a q' r':Int}(h:A=q*d+r)(h':rG (r*4294967296+a) d q' r'):A*4294967296+a=(q*4294967296+q')*d+r':=by
 have e:(q*4294967296+q')*d=q*d*4294967296+q'*d:=by grind
 rw[e];have:=h'.1;omega
variable {t rw_ ai:Int32}
theorem Jx {n:Int64}(hn:lcmpW n (0:Int64)<0)(h:bD n<ah t*4294967296):2147483648≤ah t:=by
 have l:=mJ hn
 have o:(0:Int64).toInt=0:=rfl
 have r:=rng64 n
 unfold bD at h;omega
theorem Jy (h:ah rw_<ah t):bD (((rw_.toInt64&&&(4294967295:Int64))<<<((32:Int32)&&&0x3f).toInt64)|||(ai.toInt64&&&(4294967295:Int64)))<ah t*4294967296:=by
 rw[qR];have:=aW ai;omega
theorem BW {x:Int64}(h:0≤x.toInt∧x.toInt<4294967296):bD x=x.toInt:=by unfold bD;omega
theorem Jz {sh:Int32}(hn:nu (ah t) sh)(h0:0<ah t)(hp:0<sh)(hr:ah rw_<ah t):rw_%t=rw_:=by
 obtain ⟨k,e,q⟩:=hn
 have k1:1≤k:=by rw[Int32.lt_iff_toInt_lt] at hp;have o:(0:Int32).toInt=0:=rfl;omega
 have ut:ah t<2147483648:=by
  rcases q with ⟨q,-⟩|⟨q1,q2,q3⟩
  ·omega
  ·have:(2:Int)≤2^k:=by
    have:=Nat.pow_le_pow_right (show 0<2 by omega) k1
    have a:=m_ k;omega
   have:=Int.mul_le_mul_of_nonneg_left this (show 0≤ah t by omega)
   omega
 have r1:=rng32 t;have r2:=rng32 rw_;have u1:=aW rw_
 have et:t.toInt=ah t:=by unfold ah at ut⊢;omega
 have er:rw_.toInt=ah rw_:=by unfold ah at hr u1 ut⊢;omega
 have c:=(c_irem rw_ t (ah t) et).1 (by omega)
 rw[←Int32.toInt_inj,c,er];exact Int.emod_eq_of_lt u1.1 hr
theorem Cd {A D Q:Int}{rw_:Int32}(hD:0<D)(e:A=Q*D+ah rw_)(h:ah rw_<D):Q=A/D∧(rw_=0↔A%D=0):=by
 have u:=aW rw_
 have a:A=ah rw_+D*Q:=by rw[e,Int.mul_comm];omega
 have d1:A/D=Q:=by rw[a,Int.add_mul_ediv_left _ _ (by omega),Int.ediv_eq_zero_of_lt u.1 h];omega
 have d2:A%D=ah rw_:=by rw[a,Int.add_mul_emod_self_left,Int.emod_eq_of_lt u.1 h]
 refine ⟨d1.symm,?_⟩
 rw[d2]
 exact ⟨qO,uW⟩
theorem Ci {q:Int32}(h: ¬q=0):oE 0 1 1 (fJ (fun _=>0) 0 q):=⟨0,by omega,fun i r=>absurd r (by omega),fun _=>h,rfl,fun _=>rfl,fun r=>absurd r (by omega)⟩
theorem JB {U d q:Int}{qd:Int32}(hd:0<d)(h:ah qd=U/d)(hl:d≤U): ¬qd=0:=fun r=>by
 rw[r] at h
 have:1≤U/d:=by
  have:=Int.ediv_le_ediv hd hl
  rw[Int.ediv_self (by omega)] at this;exact this
 have z:ah (0:Int32)=0:=rfl
 omega
theorem Cj {x:Int64}{y:Int32}(h:x.toInt=ah y): ¬lcmpW x (0:Int64)<0:=fun q=>by
 have l:=mJ q;have o:(0:Int64).toInt=0:=rfl;have:=aW y;omega
theorem JE {a b:Int32}{i j:Nat}(ha:a.toInt=i)(hb:b.toInt=j)(h:i≠j): ¬a=b:=fun q=>by rw[q] at ha;omega
theorem JF {a:Int32}{i:Nat}(ha:a.toInt=i)(h:i≤0): ¬(0:Int32)<a:=fun q=>by rw[Int32.lt_iff_toInt_lt] at q;have o:(0:Int32).toInt=0:=rfl;omega
theorem JL {r:Int64}{V:Int}(h:ah r.toInt32=V):ah (r&&&(4294967295:Int64)).toInt32=V:=by rw[←h,ju,ju,uM];omega
theorem JN {r:Int64}{V:Int}(h:bD r/4294967296=V):ah ((r.toUInt64>>>((32:Int32)&&&0x3f).toInt64.toUInt64).toInt64).toInt32=V:=by
 rw[←h,ju,pN];have:=sW r;unfold bD at*;omega
theorem Cl (G:Nat→Int32)(x:Int32): ∀i k,i≤k→aY (fJ G k x) i=aY G i
 |0,_,_=>rfl
 |i+1,k,h=>by
  show aY (fJ G k x) i*4294967296+ah (fJ G k x i)=aY G i*4294967296+ah (G i)
  rw[Cl G x i k (by omega),qT (by omega)]
theorem JQ {fa G:Nat→Int32}{i:Nat}{t qd rn:Int32}{r:Int}(h:aY fa i=aY G i*ah t+r)(D:rG (r*4294967296+ah (fa i)) (ah t) (ah qd) (ah rn)):aY fa (i+1)=aY (fJ G i qd) (i+1)*ah t+ah rn:=by
 show aY fa i*4294967296+ah (fa i)=(aY (fJ G i qd) i*4294967296+ah (fJ G i qd i))*ah t+ah rn
 rw[Cl G qd i i (Nat.le_refl _),Br]
 exact Jw (B:=0) h D
theorem JR {fa:Nat→Int32}{t q0 w:Int32}(D:rG (ah (fa 0)) (ah t) (ah q0) (ah w)):aY fa 1=aY (fJ (fun _=>0) 0 q0) 1*ah t+ah w:=by
 show 0*4294967296+ah (fa 0)=(0*4294967296+ah q0)*ah t+ah w
 rw[Int.zero_mul,Int.zero_add,Int.zero_add];exact D.1
end OwnDo
section OwnDk
theorem oJ (f:Nat→Int32):aY f 1=ah (f 0):=by show 0*4294967296+ah (f 0)=_;omega
theorem qA (f:Nat→Int32):aY f 2=ah (f 0)*4294967296+ah (f 1):=by show (0*4294967296+ah (f 0))*4294967296+ah (f 1)=_;omega
theorem tD {f:Nat→Int32}: ∀{n:Nat},1≤n→0<ah (f 0)→0<aY f n
 |0,h,_=>absurd h (by omega)
 |1,_,h0=>by rw[oJ];exact h0
 |n+2,_,h0=>by
  have:=tD (n:=n+1) (by omega) h0
  have u:=aW (f (n+1))
  show 0<aY f (n+1)*4294967296+ah (f (n+1));omega
theorem oO {a b:Int32}{n:Nat}(h:a.toInt=n)(hb:b.toInt=n):a=b:=by rw[←Int32.toInt_inj];omega
variable {A D:Int}{r:Int32}
theorem JU (h:qt A D r)(hr:r<0):A<D:=by
 rcases h with ⟨-,h⟩|⟨rfl,-⟩|⟨rfl,-⟩
 ·exact h
 ·exact absurd hr (by decide)
 ·exact absurd hr (by decide)
theorem JV (h:qt A D r)(hr:r=0):A=D:=by
 rcases h with ⟨rfl,h⟩|⟨-,h⟩|⟨rfl,h⟩
 ·exact absurd hr (by decide)
 ·exact h
 ·exact absurd hr (by decide)
theorem JW (h:qt A D r)(h1: ¬r<0)(h2: ¬r=0):D<A:=by
 rcases h with ⟨rfl,h⟩|⟨rfl,h⟩|⟨-,h⟩
 ·exact absurd (by decide) h1
 ·exact absurd rfl h2
 ·exact h
theorem tJ:oE 0 0 1 (fun _=>0):=⟨1,by omega,fun _ _=>rfl,fun r=>absurd r (by omega),rfl,fun r=>absurd r (by omega),fun _=>rfl⟩
theorem yQ {x:Int32}(h: ¬x=0):oE 0 1 1 (pD [x]):=⟨0,by omega,fun i q=>absurd q (by omega),fun _=>h,rfl,fun _=>rfl,fun q=>absurd q (by omega)⟩
theorem JX {x y:Int32}(h: ¬x=0):oE 0 2 2 (pD [x,y]):=⟨0,by omega,fun i q=>absurd q (by omega),fun _=>h,rfl,fun _=>rfl,fun q=>absurd q (by omega)⟩
theorem Co (hA:0<A)(h:A<D):aY (fun _=>0) 1=A/D:=by
 rw[Int.ediv_eq_zero_of_lt (by omega) h];rfl
theorem Cq {l:Int32}(hA:0<A)(h:A<D)(hl: ¬l=0):l=0↔A%D=0:=by
 rw[Int.emod_eq_of_lt (by omega) h];exact ⟨fun q=>absurd q hl,fun q=>by omega⟩
theorem JZ (hD:0<D)(h:A=D):aY (fJ (fun _=>0) 0 1) 1=A/D:=by
 rw[h,Int.ediv_self (by omega)];rfl
theorem J0 (h:A=D):(0:Int32)=0↔A%D=0:=by rw[h,Int.emod_self];exact ⟨fun _=>rfl,fun _=>rfl⟩
theorem yR (h:A%D=0):(0:Int32)=0↔A%D=0:=⟨fun _=>h,fun _=>rfl⟩
theorem yS (h: ¬A%D=0):(1:Int32)=0↔A%D=0:=⟨fun q=>absurd q (by decide),fun q=>absurd q h⟩
variable {fa ft:Nat→Int32}{n nd:Nat}
theorem J1 (h1:1≤n)(h:aY ft 2<aY fa n)(ha:0<ah (fa 0))(ht:0<ah (ft 0)):2≤n:=by
 rcases Nat.lt_or_ge n 2 with q|q
 ·have:n=1:=by omega
  subst this;rw[oJ,qA] at h
  have:=aW (fa 0);have:=aW (ft 1);omega
 ·exact q
theorem J2 (h1:1≤n)(h:n<nd)(hd:nd≤2)(ht:0<ah (ft 0)):aY fa n<aY ft nd:=by
 have e:n=1:=by omega
 have e':nd=2:=by omega
 subst e e';rw[oJ,qA]
 have:=aW (fa 0);have:=aW (ft 1);omega
theorem Cu (f:Nat→Int32): ∀n,0≤aY f n
 |0=>Int.le_refl 0
 |n+1=>by
  have:=Cu f n;have u:=aW (f n)
  show 0≤aY f n*4294967296+ah (f n);omega
theorem Cv (f:Nat→Int32): ∀n k:Nat,0<ah (f 0)→1≤n→n≤k→aY f n*4294967296≤aY f (k+1):=fun n k h0 h1 hk=>by
 induction k with
 |zero=>omega
 |succ k ih=>
  show _≤aY f (k+1)*4294967296+ah (f (k+1))
  have u:=aW (f (k+1))
  rcases Nat.lt_or_ge k n with q|q
  ·have:n=k+1:=by omega
   subst this;omega
  ·have:=ih q
   have z:=Cu f n
   omega
theorem J3 (h1:1≤nd)(h:nd<n)(h4:n≤4)(hd:nd≤2)(ha:0<ah (fa 0)):aY ft nd<aY fa n:=by
 obtain ⟨k,rfl⟩: ∃k,n=k+1:=⟨n-1,by omega⟩
 have b:=Cv fa nd k ha h1 (by omega)
 have p:=tD (f:=fa) h1 ha
 rcases (show nd=1∨nd=2 by omega) with rfl|rfl
 ·rw[oJ] at b p⊢;have:=aW (ft 0);omega
 ·rw[qA] at b⊢;have:=aW (ft 0);have:=aW (ft 1);have:=aW (fa 1);omega
end OwnDk
section OwnQb
theorem yW {G:Nat→Int32}{z:Nat}(h: ∀i,i<z→G i=0): ∀m,aY G (z+m)=aY (fun i=>G (z+i)) m
 |0=>by
  show aY G z=0
  have: ∀k,k≤z→aY G k=0:=fun k=>by
   induction k with
   |zero=>intro _;rfl
   |succ k ih=>
    intro hk
    show aY G k*4294967296+ah (G k)=0
    rw[ih (by omega),h k (by omega)];rfl
  exact this z (Nat.le_refl _)
 |m+1=>by
  show aY G (z+m)*4294967296+ah (G (z+m))=aY (fun i=>G (z+i)) m*4294967296+ah (G (z+m))
  rw[yW h m]
variable {Z:State}{h h':Heap}{x b:Addr}{V:Int}
def jX (Z:State)(h:Heap)(x b:Addr)(V:Int):Prop:=Exa Z h x "java/math/BigInteger"∧((V=0∧b=x∧Fld Z h x "java/math/BigInteger" "signum" "I" (.int (0:Int32)))∨ ∃(k:ClassId) (z:Int32) (g:Nat→Int32) (n:Nat),Fld Z h x "java/math/BigInteger" "signum" "I" (.int (1:Int32))∧Fld Z h x "java/math/BigInteger" "mag" "[I" (.ref b)∧bM Z h b k z g∧Exa Z h b "[I"∧z.toInt=n∧1≤n∧n≤8∧0<ah (g 0)∧aY g n=V)
theorem jX.lt (S:jX Z h x b V):x<h.size:=S.1.lt
theorem jX.ltT (S:jX Z h x b V):b<h.size:=by
 rcases S.2 with ⟨-,e,-⟩|⟨k,z,g,n,-,-,F,-⟩
 ·rw[e];exact S.1.lt
 ·exact Arv.lt F
theorem jX.ext (S:jX Z h x b V)(E:Ext h h'):jX Z h' x b V:=⟨S.1.ext E,S.2.imp (fun q=>⟨q.1,q.2.1,q.2.2.ext E⟩) (fun ⟨k,z,g,n,a1,a2,a3,a4,r⟩=>⟨k,z,g,n,a1.ext E,a2.ext E,Arv.ext a3 E,a4.ext E,r⟩)⟩
theorem jX.wr {a:Addr}{sl:Nat}{v:Value}(S:jX Z h x b V)(W:Wr h h' a sl v)(n1:x≠a)(n2:b≠a):jX Z h' x b V:=⟨S.1.wr W,S.2.imp (fun q=>⟨q.1,q.2.1,q.2.2.other W (Or.inl n1)⟩) (fun ⟨k,z,g,n,a1,a2,a3,a4,r⟩=>⟨k,z,g,n,a1.other W (Or.inl n1),a2.other W (Or.inl n1),Arv.other a3 W n2,a4.wr W,r⟩)⟩
theorem jX.keep {us:List Addr}(S:jX Z h x b V)(K:Keep h h' us)(n1:x∉us)(n2:b∉us):jX Z h' x b V:=⟨S.1.keep K,S.2.imp (fun q=>⟨q.1,q.2.1,q.2.2.keep K n1⟩) (fun ⟨k,z,g,n,a1,a2,a3,a4,r⟩=>⟨k,z,g,n,a1.keep K n1,a2.keep K n1,Arv.keep a3 K n2,a4.keep K,r⟩)⟩
theorem Cw {q z:Addr}{S n:Nat}(h:q=z∨S≤q)(hz:n≤z)(hS:n≤S):n≤q:=by
 rcases h with h|h
 ·rw[h];exact hz
 ·omega
theorem J4 {oo lr:Int32}{il:Nat}{g:Nat→Int32}(H:oE oo lr il g)(h0:lr=0):aY g il=0:=by
 obtain ⟨z,h1,h2,-,h4,-,-⟩:=H
 rw[h0] at h4
 have o:(0:Int32).toInt=0:=rfl
 have e:z=il:=by omega
 subst e
 exact yW h2 0
theorem Cx {x:Int32}{sm:Int64}(h:((x.toInt64&&&(4294967295:Int64))+((1:Int32).toInt64&&&(4294967295:Int64)))=sm):sm.toInt=ah x+1:=by
 have a:=c_ladd (x.toInt64&&&(4294967295:Int64)) ((1:Int32).toInt64&&&(4294967295:Int64))
 rw[ij,ij,h] at a
 have o:ah (1:Int32)=1:=rfl
 have r:=aW x;have r':=rng64 sm
 omega
theorem Cy {sm:Int64}{V:Int}(h:sm.toInt=V)(hc:lcmpW ((sm.toUInt64>>>((32:Int32)&&&0x3f).toInt64.toUInt64).toInt64) (0:Int64)=0):ah sm.toInt32=V:=by
 have e:=qj hc
 rw[pN] at e
 have o:(0:Int64).toInt=0:=rfl
 rw[ju];have r:=rng64 sm;omega
theorem Cz {sm:Int64}{x:Int32}(h:sm.toInt=ah x+1)(hc: ¬lcmpW ((sm.toUInt64>>>((32:Int32)&&&0x3f).toInt64.toUInt64).toInt64) (0:Int64)=0):ah x=4294967295∧ah sm.toInt32=0:=by
 have e:=uJ hc
 rw[pN] at e
 have o:(0:Int64).toInt=0:=rfl
 rw[ju];have r:=rng64 sm;have u:=aW x;omega
theorem CB {w0 w1:Int32}(h:ah w0*4294967296+ah w1<9007199254740992): ¬(w0+(1:Int32))=0:=fun q=>by
 have e:=vI w0 1;rw[q] at e
 have z:ah (0:Int32)=0:=rfl
 have o:ah (1:Int32)=1:=rfl
 have u:=aW w0;have u1:=aW w1;omega
theorem J5 {w0 w1 y:Int32}(h:ah w0*4294967296+ah w1<9007199254740992)(hc:ah w1=4294967295∧ah y=0):ah w0*4294967296+ah w1+1=ah (w0+(1:Int32))*4294967296+ah y:=by
 have e:=vI w0 1
 have o:ah (1:Int32)=1:=rfl
 have u:=aW w0;omega
theorem J6 {w0 y:Int32}(hc:ah w0=4294967295∧ah y=0):ah w0+1=ah (1:Int32)*4294967296+ah y:=by
 have o:ah (1:Int32)=1:=rfl
 omega
variable {w0 w1 y0 y1:Int32}
theorem J7 (h: ¬y0=0):ah w0<ah y0*4294967296+ah y1:=by
 have a:=oY h;have b:=aW w0;have c:=aW y1;omega
theorem CF {x y:Int32}(h: ¬x=y):ah x≠ah y:=fun q=>h (by
 rw[←Int32.toInt_inj];have r:=rng32 x;have r':=rng32 y;unfold ah at q;omega)
theorem J8 (h:lcmpW (w0.toInt64&&&(4294967295:Int64)) (y0.toInt64&&&(4294967295:Int64))<0):ah w0*4294967296+ah w1<ah y0*4294967296+ah y1:=by
 have l:=mJ h;rw[ij,ij] at l;exact vl l
theorem J9 (e: ¬w0=y0)(h: ¬lcmpW (w0.toInt64&&&(4294967295:Int64)) (y0.toInt64&&&(4294967295:Int64))<0):ah y0*4294967296+ah y1<ah w0*4294967296+ah w1:=by
 have l:=oX h;rw[ij,ij] at l;have n:=CF e;exact vl (by omega)
theorem J_ (e:w0=y0)(h:lcmpW (w1.toInt64&&&(4294967295:Int64)) (y1.toInt64&&&(4294967295:Int64))<0):ah w0*4294967296+ah w1<ah y0*4294967296+ah y1:=by
 have l:=mJ h;rw[ij,ij] at l;rw[e];omega
theorem Kc (e:w0=y0)(e1: ¬w1=y1)(h: ¬lcmpW (w1.toInt64&&&(4294967295:Int64)) (y1.toInt64&&&(4294967295:Int64))<0):ah y0*4294967296+ah y1<ah w0*4294967296+ah w1:=by
 have l:=oX h;rw[ij,ij] at l;have n:=CF e1;rw[e];omega
end OwnQb
section OwnRf
variable {Z:State}{h h':Heap}{x a:Addr}{k:ClassId}{V:Int}{N:Nat}
theorem jZ.lt (S:jZ Z h x a k V):x<h.size:=by rcases S with ⟨_,B,-⟩|⟨_,_,B,-⟩<;>exact B.lt
theorem jZ.ltT (S:jZ Z h x a k V):a<h.size:=by rcases S with ⟨_,B,-⟩|⟨_,_,B,-⟩<;>exact B.ltT
theorem jZ.ext (S:jZ Z h x a k V)(E:Ext h h'):jZ Z h' x a k V:=S.imp (fun ⟨w,B,r⟩=>⟨w,B.ext E,r⟩) (fun ⟨w,u,B,r⟩=>⟨w,u,B.ext E,r⟩)
theorem jZ.keep {us:List Addr}(S:jZ Z h x a k V)(K:Keep h h' us)(n1:x∉us)(n2:a∉us):jZ Z h' x a k V:=S.imp (fun ⟨w,B,r⟩=>⟨w,B.keep K n1 n2,r⟩) (fun ⟨w,u,B,r⟩=>⟨w,u,B.keep K n1 n2,r⟩)
def jC (Z:State)(h:Heap)(x a:Addr)(k:ClassId)(V:Int)(N:Nat):Prop:= ∃(z:Int32) (g:Nat→Int32) (n:Nat),Exa Z h x "java/math/BigInteger"∧Fld Z h x "java/math/BigInteger" "signum" "I" (.int (1:Int32))∧Fld Z h x "java/math/BigInteger" "mag" "[I" (.ref a)∧bM Z h a k z g∧Exa Z h a "[I"∧z.toInt=n∧1≤n∧n≤N∧0<ah (g 0)∧aY g n=V
theorem jC.lt (S:jC Z h x a k V N):x<h.size:=by obtain ⟨z,g,n,E,-⟩:=S;exact E.lt
theorem jC.ltT (S:jC Z h x a k V N):a<h.size:=by obtain ⟨z,g,n,-,-,-,F,-⟩:=S;exact Arv.lt F
theorem jC.ext (S:jC Z h x a k V N)(E:Ext h h'):jC Z h' x a k V N:=by
 obtain ⟨z,g,n,a1,a2,a3,a4,a5,r⟩:=S;exact ⟨z,g,n,a1.ext E,a2.ext E,a3.ext E,Arv.ext a4 E,a5.ext E,r⟩
theorem jC.keep {us:List Addr}(S:jC Z h x a k V N)(K:Keep h h' us)(n1:x∉us)(n2:a∉us):jC Z h' x a k V N:=by
 obtain ⟨z,g,n,a1,a2,a3,a4,a5,r⟩:=S;exact ⟨z,g,n,a1.keep K,a2.keep K n1,a3.keep K n1,Arv.keep a4 K n2,a5.keep K,r⟩
theorem tW (S:rg Z h x a k V)(hN:1≤N):jC Z h x a k V N:=by
 obtain ⟨w0,⟨a1,a2,a3,a4,a5⟩,h0,e⟩:=S
 exact ⟨1,pD [w0],1,a1,a2,a3,a4,a5,rfl,by omega,hN,oY h0,by rw[e];show 0*4294967296+ah w0=_;omega⟩
theorem rJ (S:oj Z h x a k V)(hN:2≤N):jC Z h x a k V N:=by
 obtain ⟨w0,w1,⟨a1,a2,a3,a4,a5⟩,h0,e⟩:=S
 exact ⟨2,pD [w0,w1],2,a1,a2,a3,a4,a5,rfl,by omega,hN,oY h0,by rw[e];show (0*4294967296+ah w0)*4294967296+ah w1=_;omega⟩
theorem yX (S:qo Z h x a k V)(hN:3≤N):jC Z h x a k V N:=by
 obtain ⟨w0,w1,w2,⟨a1,a2,a3,a4,a5⟩,h0,e⟩:=S
 exact ⟨3,pD [w0,w1,w2],3,a1,a2,a3,a4,a5,rfl,by omega,hN,oY h0,by rw[e];show ((0*4294967296+ah w0)*4294967296+ah w1)*4294967296+ah w2=_;omega⟩
theorem Kd (S:yr Z h x a k V)(hN:4≤N):jC Z h x a k V N:=by
 obtain ⟨w0,w1,w2,w3,⟨a1,a2,a3,a4,a5⟩,h0,e⟩:=S
 exact ⟨4,pD [w0,w1,w2,w3],4,a1,a2,a3,a4,a5,rfl,by omega,hN,oY h0,by rw[e];show (((0*4294967296+ah w0)*4294967296+ah w1)*4294967296+ah w2)*4294967296+ah w3=_;omega⟩
theorem Ke (S:jZ Z h x a k V):jC Z h x a k V 2:=by
 rcases S with S|S
 ·exact tW S (by omega)
 ·exact rJ S (by omega)
end OwnRf
section OwnRf2
variable {Z:State}{h h':Heap}{x a b:Addr}{k:ClassId}{V:Int}{N:Nat}
theorem oQ {l:Launch}{y:MethodName}{cs:List Jvm.Cond}{R:Room}{A:Array Value}{h0:Heap}{Q Q':Option Value→Heap→List Loc→Prop}(h:bp l y cs R A Z h0 Q)(i: ∀v h L,Q v h L→Q' v h L):bp l y cs R A Z h0 Q':=by
 intro p e ha hc hk s m args below hf happ hP hK
 obtain ⟨n,o,h1,h2,h3,v,L,rfl,hQ,hF⟩:=h p e ha hc hk s m args below hf happ hP hK
 exact ⟨n,_,h1,h2,h3,v,L,rfl,i _ _ _ hQ,hF⟩
theorem jZ.exa (S:jZ Z h x a k V):Exa Z h x "java/math/BigInteger":=by rcases S with ⟨_,B,-⟩|⟨_,_,B,-⟩<;>exact B.1
theorem jZ.fs (S:jZ Z h x a k V):Fld Z h x "java/math/BigInteger" "signum" "I" (.int (1:Int32)):=by rcases S with ⟨_,B,-⟩|⟨_,_,B,-⟩<;>exact B.2.1
theorem CJ (S:jC Z h x a k V 2):jZ Z h x a k V:=by
 obtain ⟨z,g,n,a1,a2,a3,a4,a5,hz,h1,h2,h0,e⟩:=S
 rcases (show n=1∨n=2 by omega) with rfl|rfl
 ·obtain rfl:=oO (b:=1) hz rfl
  exact Or.inl ⟨g 0,⟨a1,a2,a3,a4,a5⟩,nj h0,by rw[←e,oJ]⟩
 ·obtain rfl:=oO (b:=2) hz rfl
  exact Or.inr ⟨g 0,g 1,⟨a1,a2,a3,a4,a5⟩,nj h0,by rw[←e,qA]⟩
theorem CP (S:jX Z h x b V)(h0:0<V)(hb:V<9007199254740992): ∃k,jC Z h x b k V 2:=by
 obtain ⟨E,S⟩:=S
 rcases S with ⟨e,-⟩|⟨k,z,g,n,a1,a2,a3,a4,hz,h1,h8,hg,e⟩
 ·omega
 ·refine ⟨k,z,g,n,E,a1,a2,a3,a4,hz,h1,?_,hg,e⟩
  rcases Nat.lt_or_ge 2 n with q|q
  ·obtain ⟨j,rfl⟩: ∃j,n=j+1:=⟨n-1,by omega⟩
   have b1:=Cv g 2 j hg (by omega) (by omega)
   rw[e,qA] at b1
   have u:=aW (g 1);omega
  ·exact q
theorem Kf {ft:Nat→Int32}{nd:Nat}{T:Int}(hv:aY ft nd=T)(hT:T<9007199254740992):nd=2→ah (ft 0)<2147483648:=fun e=>by
 subst e;rw[qA] at hv;have:=aW (ft 1);omega
def rO (A D r:Int):Prop:=(r-1)*D<A∧A≤r*D∧1≤r∧r≤4503599627370496
theorem Kg {A D:Int}(hD:0<D)(hA:0<A)(hle:A≤4503599627370496*D)(h:A%D=0):rO A D (A/D):=by
 have e:=Int.mul_ediv_add_emod A D
 rw[h] at e
 have q1:0<A/D:=Classical.byContradiction fun q=>by
  have:=Int.mul_le_mul_of_nonneg_left (show A/D≤0 by omega) (show 0≤D by omega);omega
 have q2:A/D≤4503599627370496:=Classical.byContradiction fun q=>by
  have:=Int.mul_le_mul_of_nonneg_left (show 4503599627370497≤A/D by omega) (show 0≤D by omega);omega
 have x1:(A/D-1)*D=D*(A/D)-D:=by grind
 have x2:A/D*D=D*(A/D):=by grind
 unfold rO;rw[x1,x2];omega
theorem Kh {A D:Int}(hD:0<D)(hA:0<A)(hle:A≤4503599627370496*D)(h: ¬A%D=0):rO A D (A/D+1):=by
 have e:=Int.mul_ediv_add_emod A D
 have l:=Int.emod_lt_of_pos A hD
 have g:=Int.emod_nonneg A (show D≠0 by omega)
 have q1:0≤A/D:=Int.ediv_nonneg (by omega) (by omega)
 have q2:A/D<4503599627370496:=Classical.byContradiction fun q=>by
  have:=Int.mul_le_mul_of_nonneg_left (show 4503599627370496≤A/D by omega) (show 0≤D by omega);omega
 have x1:(A/D+1-1)*D=D*(A/D):=by grind
 have x2:(A/D+1)*D=D*(A/D)+D:=by grind
 unfold rO;rw[x1,x2];omega
theorem Kj {A B:Int}{r:Int32}(h:qt A B r)(hl:A≤B): ¬(0:Int32)<r:=by
 rcases h with ⟨rfl,-⟩|⟨rfl,-⟩|⟨-,q⟩
 ·decide
 ·decide
 ·omega
theorem Kk (S:jX Z h x b V)(h0:V=0):Fld Z h x "java/math/BigInteger" "signum" "I" (.int (0:Int32)):=by
 obtain ⟨E,S⟩:=S
 rcases S with ⟨-,-,F⟩|⟨k,z,g,n,a1,a2,a3,a4,hz,h1,h8,hg,e⟩
 ·exact F
 ·have:=tD h1 hg;omega
theorem Kl {p:Program}{l:Launch}{e:Env}{R:Room}{s:State}{m:MethodId}{args:Array Value}{below:List Frame}{meth:Method}{c:Code}{T:State}{locs:List Loc}{cells slots k n:Nat}(X:Stand p l e R s m args below meth c T locs cells slots)(hk:cells≤k)(hn:slots≤n):Stand p l e R s m args below meth c T locs k n:={X with same:=X.same.mono hk hn}
end OwnRf2
section OwnLw
theorem yY {x:Int64}{q:Int32}(h:0≤x.toInt∧x.toInt<9007199254740992):0≤((x.toUInt64>>>(q&&&0x3f).toInt64.toUInt64).toInt64).toInt∧((x.toUInt64>>>(q&&&0x3f).toInt64.toUInt64).toInt64).toInt<9007199254740992:=by
 have hk:q.toBitVec.toNat%64<64:=Nat.mod_lt _ (by omega)
 by_cases k0:0<q.toBitVec.toNat%64
 ·have c:=c_lushr x q (q.toBitVec.toNat%64) rfl k0
  have e:x.toInt%18446744073709551616=x.toInt:=by omega
  rw[e] at c
  rw[c]
  have p:(1:Int)≤((2^(q.toBitVec.toNat%64):Nat):Int):=by
   have:=Nat.one_le_two_pow (n:=q.toBitVec.toNat%64);omega
  generalize ((2^(q.toBitVec.toNat%64):Nat):Int)=P at*
  refine ⟨Int.ediv_nonneg h.1 (by omega),?_⟩
  have:=Int.ediv_le_self P h.1
  have:=Int.ediv_le_self (b:=P) h.1
  omega
 ·have z:q&&&0x3f=0:=by
   apply Int32.toBitVec_inj.mp
   apply BitVec.eq_of_toNat_eq
   show (q.toBitVec&&&(0x3f:Int32).toBitVec).toNat=0
   rw[BitVec.toNat_and]
   have:(0x3f:Int32).toBitVec.toNat=2^6-1:=rfl
   rw[this,Nat.and_two_pow_sub_one_eq_mod];omega
  rw[z]
  have e:(x.toUInt64>>>(0:Int32).toInt64.toUInt64).toInt64=x:=by
   have:(0:Int32).toInt64.toUInt64=0:=rfl
   rw[this];simp
  rw[e];exact h
theorem zd (x:Int64):0≤(x&&&(9007199254740991:Int64)).toInt∧(x&&&(9007199254740991:Int64)).toInt<9007199254740992:=by
 have c:=c_maskL x 9007199254740991 53 (by decide) (by decide)
 have p:((2^53:Nat):Int)=9007199254740992:=rfl
 rw[p] at c;omega
theorem zf {b r:Int64}(h:uG (1:Int64) b r)(hb:0≤b.toInt∧b.toInt<9007199254740992):(0≤r.toInt∧r.toInt<9007199254740992)∧0<r.toInt:=by
 have o:(1:Int64).toInt=1:=rfl
 rcases h with ⟨rfl,q⟩|⟨rfl,q⟩<;>omega
theorem Km {a b x y:Int64}{r:Int32}(h:uL a b x y r)(hr: ¬(0:Int32)<r):a.toInt*b.toInt≤x.toInt*y.toInt:=by
 rcases h with ⟨-,q⟩|⟨-,q⟩|⟨rfl,q⟩
 ·omega
 ·omega
 ·exact absurd (by decide) hr
theorem Kn {a b x y:Int64}{r:Int32}(h:uL a b x y r)(hr:a.toInt*b.toInt<x.toInt*y.toInt):r<0:=by
 rcases h with ⟨rfl,q⟩|⟨rfl,q⟩|⟨rfl,q⟩
 ·decide
 ·omega
 ·omega
theorem Ko {a b x y:Int64}{r:Int32}(h:uL a b x y r)(hr:a.toInt*b.toInt≤x.toInt*y.toInt): ¬(0:Int32)<r:=by
 rcases h with ⟨rfl,q⟩|⟨rfl,q⟩|⟨rfl,q⟩
 ·decide
 ·decide
 ·omega
theorem Kq {r:Int64}(h:1≤r.toInt): ¬lcmpW r (1:Int64)<0:=fun q=>by
 have l:=mJ q;have o:(1:Int64).toInt=1:=rfl;omega
theorem Kr {r:Int64}(h:r.toInt≤4503599627370496): ¬(0:Int32)<lcmpW r (4503599627370496:Int64):=fun q=>by
 have l:=yc q;have o:(4503599627370496:Int64).toInt=4503599627370496:=rfl;omega
theorem Kt {r:Int64}(h:1≤r.toInt)(h':r.toInt≤4503599627370496):(r-(1:Int64)).toInt=r.toInt-1:=by
 have s:=c_lsub r 1;have o:(1:Int64).toInt=1:=rfl;have q:=rng64 (r-1);omega
end OwnLw
section OwnCm
variable {args:Array Value}{s:State}{t u:Term}{a x:Addr}{cl:Cell}{ty:FieldType}{k:Int32}
theorem CQ (A:Arr s s.heap a cl ty)(et:t.eval args s none [] s=some (.ref a))(h:(Jvm.Cond.eq (Term.length t) (Term.int k)).value args s none s []=some true):cl.slots.size<2^31∧cl.slots.size.toInt32=k:=by
 obtain ⟨x,y,e1,e2,-,k2⟩:=cmp_v (Or.inl h)
 have q:y= .int k:=Option.some.inj (e2.symm.trans (Term.int_eval k))
 subst q
 obtain ⟨z,rfl⟩:=k2
 have q:=gotT (Cond.eq_ints e1 (Term.int_eval k)) h
 subst q
 have hA:s.arrayAt? a=some cl:=A.fin (Vm.Alike.refl _)
 by_cases hl:cl.slots.size<2^31
 ·exact ⟨hl,by have q:=(len_f et hA hl).symm.trans e1;injection q with q;injection q⟩
 ·simp[Term.eval,et,hA,hl] at e1
theorem Ku {j:Int32}(A:Arr s s.heap a cl ty)(et:t.eval args s none [] s=some (.ref a))(h:(Jvm.Cond.eq (Term.elem t (Term.int j)) (Term.int k)).value args s none s []=some true):cl.slots[j.toNatClampNeg]? =some (.int k):=by
 obtain ⟨x,y,e1,e2,-,k2⟩:=cmp_v (Or.inl h)
 have q:y= .int k:=Option.some.inj (e2.symm.trans (Term.int_eval k))
 subst q
 obtain ⟨z,rfl⟩:=k2
 have q:=gotT (Cond.eq_ints e1 (Term.int_eval k)) h
 subst q
 exact (elem_in e1 et (Term.int_eval j) A.1).2
theorem lu (hf:Fit s)(et:t.eval args s none [] s=some (.ref x))(h1:(Jvm.Cond.exactly t "java/math/BigInteger").value args s none s []=some true)(h2:(Jvm.Cond.eq (Term.field t "java/math/BigInteger" "signum" "I") (Term.int 1)).value args s none s []=some true)(h3:(Jvm.Cond.arrayOf (Term.field t "java/math/BigInteger" "mag" "[I") .int).value args s none s []=some true)
  (h4:(Jvm.Cond.exactly (Term.field t "java/math/BigInteger" "mag" "[I") "[I").value args s none s []=some true) (h5:(Jvm.Cond.eq (Term.length (Term.field t "java/math/BigInteger" "mag" "[I")) (Term.int 1)).value args s none s []=some true) (h6:(Jvm.Cond.eq (Term.elem (Term.field t "java/math/BigInteger" "mag" "[I") (Term.int 0)) (Term.int k)).value args s none s []=some true): ∃a kk,fY s s.heap x a kk [k]:=by
 obtain ⟨a,ea⟩:=exa_v h4
 obtain ⟨cl,A⟩:=Arr.start ea h3
 obtain ⟨q1,q2⟩:=CQ A ea h5
 exact ⟨a,cl.cls,Exa.start et h1,zM et h2,Fld.start ((fld_at et).symm.trans ea),Arv.start (z:=(1:Int32)) (vs:= [.int k]) hf A q1 q2 (by decide) rfl ⟨Ku A ea h6,trivial⟩,Exa.start ea h4⟩
theorem Kw {pc:Addr}(hf:Fit s)(A:Arr s s.heap pc cl (.object "java/math/BigInteger"))(et:t.eval args s none [] s=some (.ref pc))(hl:(Jvm.Cond.eq (Term.length t) (Term.int 17)).value args s none s []=some true)
  (H: ∀i:Int32,1≤i.toInt→i.toInt≤16→ ∃x a k,(Term.elem t (Term.int i)).eval args s none [] s=some (.ref x)∧fY s s.heap x a k [i]):uO s pc cl.cls cl.slots.toList .null:=by
 obtain ⟨q1,q2⟩:=CQ A et hl
 have S:cl.slots.size=(17:Int32).toNatClampNeg:=by rw[←q2];simp only[Int32.toNatClampNeg,len_toInt q1];rfl
 have H':Has cl cl.slots.toList .null:=fun j hj=>by simp[List.getD_eq_getElem?_getD,hj]
 refine ⟨⟨cl,A,rfl,S,by decide,H',fun j hj=> ?_⟩,fun i h1 h2=> ?_⟩
 ·have e1:(Nat.toInt32 j).toNatClampNeg=j:=by simp only[Int32.toNatClampNeg,len_toInt (Nat.lt_trans hj q1)];rfl
  exact elem_fits (j:=Nat.toInt32 j) hf A (idx_in hj q1) (by rw[e1];exact H' j hj)
 ·obtain ⟨x,a,k,e,B⟩:=H i h1 h2
  refine ⟨x,a,k,?_,B⟩
  have q:=(elem_in e et (Term.int_eval i) A.1).2
  rw[List.getD_eq_getElem?_getD,Array.getElem?_toList,q];rfl
theorem Kx {P:Int32→Prop}(h:P 1∧P 2∧P 3∧P 4∧P 5∧P 6∧P 7∧P 8∧P 9∧P 10∧P 11∧P 12∧P 13∧P 14∧P 15∧P 16): ∀i:Int32,1≤i.toInt→i.toInt≤16→P i:=fun i h1 h2=>by
 obtain ⟨a1,a2,a3,a4,a5,a6,a7,a8,a9,a10,a11,a12,a13,a14,w,B⟩:=h
 have e: ∀{k:Int32},P k→i.toInt=k.toInt→P i:=fun r q=>by rw[Int32.toInt_inj.mp q];exact r
 rcases (show i.toInt=1∨i.toInt=2∨i.toInt=3∨i.toInt=4∨i.toInt=5∨i.toInt=6∨i.toInt=7∨i.toInt=8∨i.toInt=9∨i.toInt=10∨i.toInt=11∨i.toInt=12∨i.toInt=13∨i.toInt=14∨i.toInt=15∨i.toInt=16 by omega) with q|q|q|q|q|q|q|q|q|q|q|q|q|q|q|q
 ·exact e a1 q
 ·exact e a2 q
 ·exact e a3 q
 ·exact e a4 q
 ·exact e a5 q
 ·exact e a6 q
 ·exact e a7 q
 ·exact e a8 q
 ·exact e a9 q
 ·exact e a10 q
 ·exact e a11 q
 ·exact e a12 q
 ·exact e a13 q
 ·exact e a14 q
 ·exact e w q
 ·exact e B q
end OwnCm
def KD:List (Nat×Jvm.ClassFile.Instr×Nat):= [(0,.lload_n 0,1),(1,.lload_n 2,1),(2,.lcmp,1),(3,.ifCond .lt 7,3),(6,.lload_n 0,1),(7,.goto 4,3),(10,.lload_n 2,1),(11,.lreturn,1)]
theorem KJ: ∀x∈KD,decode jdk_29_method_66_code x.1= .ok (x.2.1,x.2.2):=by decide+kernel
def KQ:List (Nat×Jvm.ClassFile.Instr×Nat):= [(0,.lload_n 0,1),(1,.bipush 26,2),(3,.lushr,1),(4,.lstore 4,2),(6,.lload_n 0,1),(7,.ldc2_w 9,3),(10,.land,1),(11,.lstore 6,2),(13,.lload_n 2,1),(14,.bipush 26,2),(16,.lushr,1),(17,.lstore 8,2),(19,.lload_n 2,1),(20,.ldc2_w 9,3),(23,.land,1),(24,.lstore 10,2),(26,.lload 4,2),(28,.lload 8,2),(30,.lmul,1),(31,.lstore 12,2),(33,.lload 4,2),(35,.lload 10,2),(37,.lmul,1),(38,.lload 6,2),(40,.lload 8,2),(42,.lmul,1),(43,.ladd,1),(44,.lstore 14,2),(46,.lload 6,2),(48,.lload 10,2),(50,.lmul,1),(51,.lstore 16,2),(53,.lload 16,2),(55,.lload 14,2),(57,.ldc2_w 9,3),(60,.land,1),(61,.bipush 26,2),(63,.lshl,1),(64,.ladd,1),(65,.lstore 18,2),(67,.lload 12,2),(69,.lload 14,2),(71,.bipush 26,2),(73,.lushr,1),(74,.ladd,1),(75,.lload 18,2),(77,.bipush 52,2),(79,.lushr,1),(80,.ladd,1),(81,.lreturn,1)]
theorem KW: ∀x∈KQ,decode method_2_code x.1= .ok (x.2.1,x.2.2):=by decide+kernel
def KY:List (Nat×Jvm.ClassFile.Instr×Nat):= [(0,.lload_n 0,1),(1,.bipush 26,2),(3,.lushr,1),(4,.lstore 4,2),(6,.lload_n 0,1),(7,.ldc2_w 9,3),(10,.land,1),(11,.lstore 6,2),(13,.lload_n 2,1),(14,.bipush 26,2),(16,.lushr,1),(17,.lstore 8,2),(19,.lload_n 2,1),(20,.ldc2_w 9,3),(23,.land,1),(24,.lstore 10,2),(26,.lload 4,2),(28,.lload 10,2),(30,.lmul,1),(31,.lload 6,2),(33,.lload 8,2),(35,.lmul,1),(36,.ladd,1),(37,.lstore 12,2),(39,.lload 6,2),(41,.lload 10,2),(43,.lmul,1),(44,.lstore 14,2),(46,.lload 14,2),(48,.lload 12,2),(50,.ldc2_w 9,3),(53,.land,1),(54,.bipush 26,2),(56,.lshl,1),(57,.ladd,1),(58,.lstore 16,2),(60,.lload 16,2),(62,.ldc2_w 11,3),(65,.land,1),(66,.lreturn,1)]
theorem K7: ∀x∈KY,decode method_3_code x.1= .ok (x.2.1,x.2.2):=by decide+kernel
def K_:List (Nat×Jvm.ClassFile.Instr×Nat):= [(0,.lload_n 0,1),(1,.lload_n 2,1),(2,.invokestatic 13,3),(5,.lstore 8,2),(7,.lload 4,2),(9,.lload 6,2),(11,.invokestatic 13,3),(14,.lstore 10,2),(16,.lload 8,2),(18,.lload 10,2),(20,.lcmp,1),(21,.ifCond .eq 17,3),(24,.lload 8,2),(26,.lload 10,2),(28,.lcmp,1),(29,.ifCond .ge 7,3),(32,.iconst (-1),1),(33,.goto 4,3),(36,.iconst 1,1),(37,.ireturn,1),(38,.lload_n 0,1),(39,.lload_n 2,1),(40,.invokestatic 17,3),(43,.lstore 12,2),(45,.lload 4,2),(47,.lload 6,2),(49,.invokestatic 17,3),(52,.lstore 14,2),(54,.lload 12,2),(56,.lload 14,2),(58,.lcmp,1),(59,.ifCond .eq 17,3),(62,.lload 12,2),(64,.lload 14,2),(66,.lcmp,1),(67,.ifCond .ge 7,3),(70,.iconst (-1),1),(71,.goto 4,3),(74,.iconst 1,1),(75,.ireturn,1),(76,.iconst 0,1),(77,.ireturn,1)]
theorem Lh: ∀x∈K_,decode method_4_code x.1= .ok (x.2.1,x.2.2):=by decide+kernel
def Li:List (Nat×Jvm.ClassFile.Instr×Nat):= [(0,.aload_n 0,1),(1,.invokespecial 1,3),(4,.return_,1)]
theorem CS: ∀x∈Li,decode jdk_18_method_1_code x.1= .ok (x.2.1,x.2.2):=by decide+kernel
def Lj:List (Nat×Jvm.ClassFile.Instr×Nat):= [(0,.aload_n 0,1),(1,.invokespecial 3,3),(4,.lload_n 1,1),(5,.lconst 0,1),(6,.lcmp,1),(7,.ifCond .ge 14,3),(10,.lload_n 1,1),(11,.lneg,1),(12,.lstore_n 1,1),(13,.aload_n 0,1),(14,.iconst (-1),1),(15,.putfield 32,3),(18,.goto 8,3),(21,.aload_n 0,1),(22,.iconst 1,1),(23,.putfield 32,3),(26,.lload_n 1,1),(27,.bipush 32,2),(29,.lushr,1),(30,.l2i,1),(31,.istore_n 3,1),(32,.iload_n 3,1),(33,.ifCond .ne 21,3),(36,.aload_n 0,1),(37,.iconst 1,1),(38,.newarray .int,2),(40,.putfield 28,3),(43,.aload_n 0,1),(44,.getfield 28,3),(47,.iconst 0,1),(48,.lload_n 1,1),(49,.l2i,1),(50,.iastore,1),(51,.goto 25,3),(54,.aload_n 0,1),(55,.iconst 2,1),(56,.newarray .int,2),(58,.putfield 28,3),(61,.aload_n 0,1),(62,.getfield 28,3),(65,.iconst 0,1),(66,.iload_n 3,1),(67,.iastore,1),(68,.aload_n 0,1),(69,.getfield 28,3),(72,.iconst 1,1),(73,.lload_n 1,1),(74,.l2i,1),(75,.iastore,1),(76,.return_,1)]
theorem CU: ∀x∈Lj,decode jdk_2097_method_30_code x.1= .ok (x.2.1,x.2.2):=by decide+kernel
def Ll:List (Nat×Jvm.ClassFile.Instr×Nat):= [(0,.lload_n 0,1),(1,.lconst 0,1),(2,.lcmp,1),(3,.ifCond .ne 7,3),(6,.getstatic 22,3),(9,.areturn,1),(10,.lload_n 0,1),(11,.lconst 0,1),(12,.lcmp,1),(13,.ifCond .le 18,3),(16,.lload_n 0,1),(17,.ldc2_w 345,3),(20,.lcmp,1),(21,.ifCond .gt 10,3),(24,.getstatic 347,3),(27,.lload_n 0,1),(28,.l2i,1),(29,.aaload,1),(30,.areturn,1),(31,.lload_n 0,1),(32,.lconst 0,1),(33,.lcmp,1),(34,.ifCond .ge 19,3),(37,.lload_n 0,1),(38,.ldc2_w 351,3),(41,.lcmp,1),(42,.ifCond .lt 11,3),(45,.getstatic 353,3),(48,.lload_n 0,1),(49,.lneg,1),(50,.l2i,1),(51,.aaload,1),(52,.areturn,1),(53,.new 23,3),(56,.dup,1),(57,.lload_n 0,1),(58,.invokespecial 356,3),(61,.areturn,1)]
theorem CW: ∀x∈Ll,decode jdk_2097_method_29_code x.1= .ok (x.2.1,x.2.2):=by decide+kernel
def Lu:List (Nat×Jvm.ClassFile.Instr×Nat):= [(0,.iload_n 0,1),(1,.iload_n 0,1),(2,.iconst 1,1),(3,.iushr,1),(4,.ldc_w 265,3),(7,.iand,1),(8,.isub,1),(9,.istore_n 0,1),(10,.iload_n 0,1),(11,.ldc_w 266,3),(14,.iand,1),(15,.iload_n 0,1),(16,.iconst 2,1),(17,.iushr,1),(18,.ldc_w 266,3),(21,.iand,1),(22,.iadd,1),(23,.istore_n 0,1),(24,.iload_n 0,1),(25,.iload_n 0,1),(26,.iconst 4,1),(27,.iushr,1),(28,.iadd,1),(29,.ldc_w 267,3),(32,.iand,1),(33,.istore_n 0,1),(34,.iload_n 0,1),(35,.iload_n 0,1),(36,.bipush 8,2),(38,.iushr,1),(39,.iadd,1),(40,.istore_n 0,1),(41,.iload_n 0,1),(42,.iload_n 0,1),(43,.bipush 16,2),(45,.iushr,1),(46,.iadd,1),(47,.istore_n 0,1),(48,.iload_n 0,1),(49,.bipush 63,2),(51,.iand,1),(52,.ireturn,1)]
theorem Lv: ∀x∈Lu,decode jdk_33_method_49_code x.1= .ok (x.2.1,x.2.2):=by decide+kernel
def Lz:List (Nat×Jvm.ClassFile.Instr×Nat):= [(0,.iload_n 0,1),(1,.iconst (-1),1),(2,.ixor,1),(3,.iload_n 0,1),(4,.iconst 1,1),(5,.isub,1),(6,.iand,1),(7,.istore_n 0,1),(8,.iload_n 0,1),(9,.ifCond .gt 8,3),(12,.iload_n 0,1),(13,.bipush 32,2),(15,.iand,1),(16,.ireturn,1),(17,.iconst 1,1),(18,.istore_n 1,1),(19,.iload_n 0,1),(20,.ldc_w 264,3),(23,.if_icmp .le 11,3),(26,.iinc 1 16,3),(29,.iload_n 0,1),(30,.bipush 16,2),(32,.iushr,1),(33,.istore_n 0,1),(34,.iload_n 0,1),(35,.sipush 256,3),(38,.if_icmp .le 11,3),(41,.iinc 1 8,3),(44,.iload_n 0,1),(45,.bipush 8,2),(47,.iushr,1),(48,.istore_n 0,1),(49,.iload_n 0,1),(50,.bipush 16,2),(52,.if_icmp .le 10,3),(55,.iinc 1 4,3),(58,.iload_n 0,1),(59,.iconst 4,1),(60,.iushr,1),(61,.istore_n 0,1),(62,.iload_n 0,1),(63,.iconst 4,1),(64,.if_icmp .le 10,3),(67,.iinc 1 2,3),(70,.iload_n 0,1),(71,.iconst 2,1),(72,.iushr,1),(73,.istore_n 0,1),(74,.iload_n 1,1),(75,.iload_n 0,1),(76,.iconst 1,1),(77,.iushr,1),(78,.iadd,1),(79,.ireturn,1)]
theorem LJ: ∀x∈Lz,decode jdk_33_method_48_code x.1= .ok (x.2.1,x.2.2):=by decide+kernel
def Md:List (Nat×Jvm.ClassFile.Instr×Nat):= [(0,.iload_n 1,1),(1,.iload_n 0,1),(2,.if_icmp .ge 35,3),(5,.new 43,3),(8,.dup,1),(9,.new 45,3),(12,.dup,1),(13,.invokespecial 47,3),(16,.iload_n 0,1),(17,.invokevirtual 54,3),(20,.ldc_w 337,3),(23,.invokevirtual 50,3),(26,.iload_n 1,1),(27,.invokevirtual 54,3),(30,.invokevirtual 61,3),(33,.invokespecial 65,3),(36,.athrow,1),(37,.return_,1)]
theorem Mf: ∀x∈Md,decode jdk_65_method_131_code x.1= .ok (x.2.1,x.2.2):=by decide+kernel
def Mg:List (Nat×Jvm.ClassFile.Instr×Nat):= [(0,.iload_n 0,1),(1,.iload_n 1,1),(2,.if_icmp .gt 7,3),(5,.iload_n 0,1),(6,.goto 4,3),(9,.iload_n 1,1),(10,.ireturn,1)]
theorem Mh: ∀x∈Mg,decode jdk_29_method_69_code x.1= .ok (x.2.1,x.2.2):=by decide+kernel
def Mi:List (Nat×Jvm.ClassFile.Instr×Nat):= [(0,.iload_n 0,1),(1,.ifCond .lt 13,3),(4,.iload_n 0,1),(5,.iload_n 1,1),(6,.if_icmp .gt 8,3),(9,.iload_n 1,1),(10,.iload_n 2,1),(11,.if_icmp .le 11,3),(14,.aload_n 3,1),(15,.iload_n 0,1),(16,.iload_n 1,1),(17,.iload_n 2,1),(18,.invokestatic 99,3),(21,.athrow,1),(22,.iload_n 0,1),(23,.ireturn,1)]
theorem Mj: ∀x∈Mi,decode jdk_41_method_12_code x.1= .ok (x.2.1,x.2.2):=by decide+kernel
def Ml:List (Nat×Jvm.ClassFile.Instr×Nat):= [(0,.iload_n 0,1),(1,.iload_n 1,1),(2,.iload_n 2,1),(3,.aconst_null,1),(4,.invokestatic 111,3),(7,.ireturn,1)]
theorem Mn: ∀x∈Ml,decode jdk_31_method_18_code x.1= .ok (x.2.1,x.2.2):=by decide+kernel
def Mp:List (Nat×Jvm.ClassFile.Instr×Nat):= [(0,.iload_n 1,1),(1,.iload_n 2,1),(2,.invokestatic 343,3),(5,.iload_n 2,1),(6,.iload_n 1,1),(7,.isub,1),(8,.istore_n 3,1),(9,.iload_n 3,1),(10,.newarray .int,2),(12,.astore 4,2),(14,.aload_n 0,1),(15,.iload_n 1,1),(16,.aload 4,2),(18,.iconst 0,1),(19,.aload_n 0,1),(20,.arraylength,1),(21,.iload_n 1,1),(22,.isub,1),(23,.iload_n 3,1),(24,.invokestatic 304,3),(27,.invokestatic 150,3),(30,.aload 4,2),(32,.areturn,1)]
theorem qB: ∀x∈Mp,decode jdk_65_method_137_code x.1= .ok (x.2.1,x.2.2):=by decide+kernel
def Mq:List (Nat×Jvm.ClassFile.Instr×Nat):= [(0,.iload_n 1,1),(1,.ifCond .ne 9,3),(4,.iload_n 2,1),(5,.aload_n 0,1),(6,.arraylength,1),(7,.if_icmp .eq 10,3),(10,.aload_n 0,1),(11,.iload_n 1,1),(12,.iload_n 2,1),(13,.invokestatic 351,3),(16,.areturn,1),(17,.aload_n 0,1),(18,.invokevirtual 316,3),(21,.checkcast 317,3),(24,.areturn,1)]
theorem qD: ∀x∈Mq,decode jdk_65_method_136_code x.1= .ok (x.2.1,x.2.2):=by decide+kernel
def Mr:List (Nat×Jvm.ClassFile.Instr×Nat):= [(0,.aload_n 0,1),(1,.invokespecial 3,3),(4,.aload_n 0,1),(5,.aload_n 1,1),(6,.arraylength,1),(7,.ifCond .ne 7,3),(10,.iconst 0,1),(11,.goto 4,3),(14,.iload_n 2,1),(15,.putfield 32,3),(18,.aload_n 0,1),(19,.aload_n 1,1),(20,.putfield 28,3),(23,.aload_n 0,1),(24,.getfield 28,3),(27,.arraylength,1),(28,.ldc 43,2),(30,.if_icmp .lt 7,3),(33,.aload_n 0,1),(34,.invokevirtual 44,3),(37,.return_,1)]
theorem Ms: ∀x∈Mr,decode jdk_2097_method_25_code x.1= .ok (x.2.1,x.2.2):=by decide+kernel
def Mt:List (Nat×Jvm.ClassFile.Instr×Nat):= [(0,.bipush 32,2),(2,.iload_n 3,1),(3,.isub,1),(4,.istore 5,2),(6,.iconst 0,1),(7,.istore 6,2),(9,.iload 6,2),(11,.iload 4,2),(13,.if_icmp .ge 29,3),(16,.aload_n 0,1),(17,.iload_n 2,1),(18,.iinc 2 1,3),(21,.aload_n 1,1),(22,.iload 6,2),(24,.iinc 6 1,3),(27,.iaload,1),(28,.iload_n 3,1),(29,.ishl,1),(30,.aload_n 1,1),(31,.iload 6,2),(33,.iaload,1),(34,.iload 5,2),(36,.iushr,1),(37,.ior,1),(38,.iastore,1),(39,.goto (-30),3),(42,.return_,1)]
theorem wg: ∀x∈Mt,decode jdk_2097_method_103_code x.1= .ok (x.2.1,x.2.2):=by decide+kernel
def wj:List (Nat×Jvm.ClassFile.Instr×Nat):= [(0,.iload_n 1,1),(1,.iconst 5,1),(2,.iushr,1),(3,.istore_n 2,1),(4,.iload_n 1,1),(5,.bipush 31,2),(7,.iand,1),(8,.istore_n 3,1),(9,.aload_n 0,1),(10,.arraylength,1),(11,.istore 4,2),(13,.aconst_null,1),(14,.astore 5,2),(16,.iload_n 3,1),(17,.ifCond .ne 24,3),(20,.iload 4,2),(22,.iload_n 2,1),(23,.iadd,1),(24,.newarray .int,2),(26,.astore 5,2),(28,.aload_n 0,1),(29,.iconst 0,1),(30,.aload 5,2),(32,.iconst 0,1),(33,.iload 4,2),(35,.invokestatic 388,3),(38,.goto 114,3),(41,.iconst 0,1),(42,.istore 6,2),(44,.bipush 32,2),(46,.iload_n 3,1),(47,.isub,1),(48,.istore 7,2),(50,.aload_n 0,1),(51,.iconst 0,1),(52,.iaload,1),(53,.iload 7,2),(55,.iushr,1),(56,.istore 8,2),(58,.iload 8,2),(60,.ifCond .eq 26,3),(63,.iload 4,2),(65,.iload_n 2,1),(66,.iadd,1),(67,.iconst 1,1),(68,.iadd,1),(69,.newarray .int,2),(71,.astore 5,2),(73,.aload 5,2),(75,.iload 6,2),(77,.iinc 6 1,3),(80,.iload 8,2),(82,.iastore,1),(83,.goto 11,3),(86,.iload 4,2),(88,.iload_n 2,1),(89,.iadd,1),(90,.newarray .int,2),(92,.astore 5,2),(94,.iload 4,2),(96,.iconst 1,1),(97,.isub,1),(98,.istore 9,2),(100,.iconst 0,1),(101,.iload 9,2),(103,.iconst 1,1),(104,.iadd,1),(105,.aload_n 0,1),(106,.arraylength,1),(107,.invokestatic 611,3),(110,.pop,1),(111,.iload 6,2),(113,.iload 9,2),(115,.iload 6,2),(117,.iadd,1),(118,.iconst 1,1),(119,.iadd,1),(120,.aload 5,2),(122,.arraylength,1),(123,.invokestatic 611,3),(126,.pop,1),(127,.aload 5,2),(129,.aload_n 0,1),(130,.iload 6,2),(132,.iload_n 3,1),(133,.iload 9,2),(135,.invokestatic 618,3),(138,.aload 5,2),(140,.iload 9,2),(142,.iload 6,2),(144,.iadd,1),(145,.aload_n 0,1),(146,.iload 9,2),(148,.iaload,1),(149,.iload_n 3,1),(150,.ishl,1),(151,.iastore,1),(152,.aload 5,2),(154,.areturn,1)]
theorem Mu: ∀x∈(wj).take 40,decode jdk_2097_method_102_code x.1= .ok (x.2.1,x.2.2):=by decide+kernel
theorem Mw: ∀x∈((wj).drop 40).take 40,decode jdk_2097_method_102_code x.1= .ok (x.2.1,x.2.2):=by decide+kernel
theorem MO: ∀x∈((wj).drop 40).drop 40,decode jdk_2097_method_102_code x.1= .ok (x.2.1,x.2.2):=by decide+kernel
theorem wo: ∀x∈wj,decode jdk_2097_method_102_code x.1= .ok (x.2.1,x.2.2):=(gJ 40 Mu (gJ 40 Mw MO))
def wq:List (Nat×Jvm.ClassFile.Instr×Nat):= [(0,.iload_n 1,1),(1,.invokestatic 423,3),(4,.iconst 1,1),(5,.if_icmp .ne 20,3),(8,.new 23,3),(11,.dup,1),(12,.aload_n 0,1),(13,.iload_n 1,1),(14,.invokestatic 426,3),(17,.invokestatic 429,3),(20,.iload_n 2,1),(21,.invokespecial 175,3),(24,.areturn,1),(25,.aload_n 0,1),(26,.arraylength,1),(27,.istore_n 3,1),(28,.iload_n 3,1),(29,.iconst 1,1),(30,.iadd,1),(31,.newarray .int,2),(33,.astore 4,2),(35,.lconst 0,1),(36,.lstore 5,2),(38,.iload_n 1,1),(39,.i2l,1),(40,.ldc2_w 130,3),(43,.land,1),(44,.lstore 7,2),(46,.aload 4,2),(48,.arraylength,1),(49,.iconst 1,1),(50,.isub,1),(51,.istore 9,2),(53,.iload_n 3,1),(54,.iconst 1,1),(55,.isub,1),(56,.istore 10,2),(58,.iload 10,2),(60,.ifCond .lt 44,3),(63,.aload_n 0,1),(64,.iload 10,2),(66,.iaload,1),(67,.i2l,1),(68,.ldc2_w 130,3),(71,.land,1),(72,.lload 7,2),(74,.lmul,1),(75,.lload 5,2),(77,.ladd,1),(78,.lstore 11,2),(80,.aload 4,2),(82,.iload 9,2),(84,.iinc 9 (-1),3),(87,.lload 11,2),(89,.l2i,1),(90,.iastore,1),(91,.lload 11,2),(93,.bipush 32,2),(95,.lushr,1),(96,.lstore 5,2),(98,.iinc 10 (-1),3),(101,.goto (-43),3),(104,.lload 5,2),(106,.lconst 0,1),(107,.lcmp,1),(108,.ifCond .ne 17,3),(111,.aload 4,2),(113,.iconst 1,1),(114,.aload 4,2),(116,.arraylength,1),(117,.invokestatic 433,3),(120,.astore 4,2),(122,.goto 11,3),(125,.aload 4,2),(127,.iload 9,2),(129,.lload 5,2),(131,.l2i,1),(132,.iastore,1),(133,.new 23,3),(136,.dup,1),(137,.aload 4,2),(139,.iload_n 2,1),(140,.invokespecial 175,3),(143,.areturn,1)]
theorem MR: ∀x∈(wq).take 40,decode jdk_2097_method_43_code x.1= .ok (x.2.1,x.2.2):=by decide+kernel
theorem MS: ∀x∈((wq).drop 40).take 40,decode jdk_2097_method_43_code x.1= .ok (x.2.1,x.2.2):=by decide+kernel
theorem MU: ∀x∈((wq).drop 40).drop 40,decode jdk_2097_method_43_code x.1= .ok (x.2.1,x.2.2):=by decide+kernel
theorem wD: ∀x∈wq,decode jdk_2097_method_43_code x.1= .ok (x.2.1,x.2.2):=(gJ 40 MR (gJ 40 MS MU))
def MW:List (Nat×Jvm.ClassFile.Instr×Nat):= [(0,.aload_n 0,1),(1,.ifnonnull 11,3),(4,.new 84,3),(7,.dup,1),(8,.invokespecial 86,3),(11,.athrow,1),(12,.aload_n 0,1),(13,.areturn,1)]
theorem CX: ∀x∈MW,decode jdk_31_method_10_code x.1= .ok (x.2.1,x.2.2):=by decide+kernel
def MZ:List (Nat×Jvm.ClassFile.Instr×Nat):= [(0,.iload_n 1,1),(1,.ifCond .gt 4,3),(4,.return_,1),(5,.aload_n 0,1),(6,.invokestatic 447,3),(9,.pop,1),(10,.iload_n 1,1),(11,.aload_n 0,1),(12,.arraylength,1),(13,.if_icmp .le 14,3),(16,.new 451,3),(19,.dup,1),(20,.iload_n 1,1),(21,.iconst 1,1),(22,.isub,1),(23,.invokespecial 453,3),(26,.athrow,1),(27,.return_,1)]
theorem M_: ∀x∈MZ,decode jdk_2097_method_47_code x.1= .ok (x.2.1,x.2.2):=by decide+kernel
def tX:List (Nat×Jvm.ClassFile.Instr×Nat):= [(0,.iload_n 1,1),(1,.iconst 1,1),(2,.isub,1),(3,.istore 5,2),(5,.iload_n 3,1),(6,.iconst 1,1),(7,.isub,1),(8,.istore 6,2),(10,.aload 4,2),(12,.ifnull 12,3),(15,.aload 4,2),(17,.arraylength,1),(18,.iload_n 1,1),(19,.iload_n 3,1),(20,.iadd,1),(21,.if_icmp .ge 10,3),(24,.iload_n 1,1),(25,.iload_n 3,1),(26,.iadd,1),(27,.newarray .int,2),(29,.astore 4,2),(31,.lconst 0,1),(32,.lstore 7,2),(34,.iload 6,2),(36,.istore 9,2),(38,.iload 6,2),(40,.iconst 1,1),(41,.iadd,1),(42,.iload 5,2),(44,.iadd,1),(45,.istore 10,2),(47,.iload 9,2),(49,.ifCond .lt 51,3),(52,.aload_n 2,1),(53,.iload 9,2),(55,.iaload,1),(56,.i2l,1),(57,.ldc2_w 130,3),(60,.land,1),(61,.aload_n 0,1),(62,.iload 5,2),(64,.iaload,1),(65,.i2l,1),(66,.ldc2_w 130,3),(69,.land,1),(70,.lmul,1),(71,.lload 7,2),(73,.ladd,1),(74,.lstore 11,2),(76,.aload 4,2),(78,.iload 10,2),(80,.lload 11,2),(82,.l2i,1),(83,.iastore,1),(84,.lload 11,2),(86,.bipush 32,2),(88,.lushr,1),(89,.lstore 7,2),(91,.iinc 9 (-1),3),(94,.iinc 10 (-1),3),(97,.goto (-50),3),(100,.aload 4,2),(102,.iload 5,2),(104,.lload 7,2),(106,.l2i,1),(107,.iastore,1),(108,.iload 5,2),(110,.iconst 1,1),(111,.isub,1),(112,.istore 9,2),(114,.iload 9,2),(116,.ifCond .lt 97,3),(119,.lconst 0,1),(120,.lstore 7,2),(122,.iload 6,2),(124,.istore 10,2),(126,.iload 6,2),(128,.iconst 1,1),(129,.iadd,1),(130,.iload 9,2),(132,.iadd,1),(133,.istore 11,2),(135,.iload 10,2),(137,.ifCond .lt 62,3),(140,.aload_n 2,1),(141,.iload 10,2),(143,.iaload,1),(144,.i2l,1),(145,.ldc2_w 130,3),(148,.land,1),(149,.aload_n 0,1),(150,.iload 9,2),(152,.iaload,1),(153,.i2l,1),(154,.ldc2_w 130,3),(157,.land,1),(158,.lmul,1),(159,.aload 4,2),(161,.iload 11,2),(163,.iaload,1),(164,.i2l,1),(165,.ldc2_w 130,3),(168,.land,1),(169,.ladd,1),(170,.lload 7,2),(172,.ladd,1),(173,.lstore 12,2),(175,.aload 4,2),(177,.iload 11,2),(179,.lload 12,2),(181,.l2i,1),(182,.iastore,1),(183,.lload 12,2),(185,.bipush 32,2),(187,.lushr,1),(188,.lstore 7,2),(190,.iinc 10 (-1),3),(193,.iinc 11 (-1),3),(196,.goto (-61),3),(199,.aload 4,2),(201,.iload 9,2),(203,.lload 7,2),(205,.l2i,1),(206,.iastore,1),(207,.iinc 9 (-1),3),(210,.goto (-96),3),(213,.aload 4,2),(215,.areturn,1)]
theorem Na: ∀x∈(tX).take 40,decode jdk_2097_method_46_code x.1= .ok (x.2.1,x.2.2):=by decide+kernel
theorem Nb: ∀x∈((tX).drop 40).take 40,decode jdk_2097_method_46_code x.1= .ok (x.2.1,x.2.2):=by decide+kernel
theorem Nc: ∀x∈(((tX).drop 40).drop 40).take 40,decode jdk_2097_method_46_code x.1= .ok (x.2.1,x.2.2):=by decide+kernel
theorem Nf: ∀x∈(((tX).drop 40).drop 40).drop 40,decode jdk_2097_method_46_code x.1= .ok (x.2.1,x.2.2):=by decide+kernel
theorem CY: ∀x∈tX,decode jdk_2097_method_46_code x.1= .ok (x.2.1,x.2.2):=(gJ 40 Na (gJ 40 Nb (gJ 40 Nc Nf)))
def Ng:List (Nat×Jvm.ClassFile.Instr×Nat):= [(0,.aload_n 0,1),(1,.iload_n 1,1),(2,.invokestatic 441,3),(5,.aload_n 2,1),(6,.iload_n 3,1),(7,.invokestatic 441,3),(10,.aload_n 0,1),(11,.iload_n 1,1),(12,.aload_n 2,1),(13,.iload_n 3,1),(14,.aload 4,2),(16,.invokestatic 444,3),(19,.areturn,1)]
theorem Nh: ∀x∈Ng,decode jdk_2097_method_45_code x.1= .ok (x.2.1,x.2.2):=by decide+kernel
def Ni:List (Nat×Jvm.ClassFile.Instr×Nat):= [(0,.aload_n 0,1),(1,.arraylength,1),(2,.istore_n 1,1),(3,.iconst 0,1),(4,.istore_n 2,1),(5,.iload_n 2,1),(6,.iload_n 1,1),(7,.if_icmp .ge 15,3),(10,.aload_n 0,1),(11,.iload_n 2,1),(12,.iaload,1),(13,.ifCond .ne 9,3),(16,.iinc 2 1,3),(19,.goto (-14),3),(22,.iload_n 2,1),(23,.ifCond .ne 7,3),(26,.aload_n 0,1),(27,.goto 9,3),(30,.aload_n 0,1),(31,.iload_n 2,1),(32,.iload_n 1,1),(33,.invokestatic 433,3),(36,.areturn,1)]
theorem C_: ∀x∈Ni,decode jdk_2097_method_140_code x.1= .ok (x.2.1,x.2.2):=by decide+kernel
def tY:List (Nat×Jvm.ClassFile.Instr×Nat):= [(0,.aload_n 1,1),(1,.getfield 32,3),(4,.ifCond .eq 10,3),(7,.aload_n 0,1),(8,.getfield 32,3),(11,.ifCond .ne 7,3),(14,.getstatic 22,3),(17,.areturn,1),(18,.aload_n 0,1),(19,.getfield 28,3),(22,.arraylength,1),(23,.istore 5,2),(25,.aload_n 1,1),(26,.aload_n 0,1),(27,.if_acmp .ne 19,3),(30,.iload 5,2),(32,.bipush 20,2),(34,.if_icmp .le 12,3),(37,.aload_n 0,1),(38,.iconst 1,1),(39,.iload_n 3,1),(40,.iload 4,2),(42,.invokevirtual 400,3),(45,.areturn,1),(46,.aload_n 1,1),(47,.getfield 28,3),(50,.arraylength,1),(51,.istore 6,2),(53,.iload 5,2),(55,.bipush 80,2),(57,.if_icmp .lt 10,3),(60,.iload 6,2),(62,.bipush 80,2),(64,.if_icmp .ge 108,3),(67,.aload_n 0,1),(68,.getfield 32,3),(71,.aload_n 1,1),(72,.getfield 32,3),(75,.if_icmp .ne 7,3),(78,.iconst 1,1),(79,.goto 4,3),(82,.iconst (-1),1),(83,.istore 7,2),(85,.aload_n 1,1),(86,.getfield 28,3),(89,.arraylength,1),(90,.iconst 1,1),(91,.if_icmp .ne 19,3),(94,.aload_n 0,1),(95,.getfield 28,3),(98,.aload_n 1,1),(99,.getfield 28,3),(102,.iconst 0,1),(103,.iaload,1),(104,.iload 7,2),(106,.invokestatic 403,3),(109,.areturn,1),(110,.aload_n 0,1),(111,.getfield 28,3),(114,.arraylength,1),(115,.iconst 1,1),(116,.if_icmp .ne 19,3),(119,.aload_n 1,1),(120,.getfield 28,3),(123,.aload_n 0,1),(124,.getfield 28,3),(127,.iconst 0,1),(128,.iaload,1),(129,.iload 7,2),(131,.invokestatic 403,3),(134,.areturn,1),(135,.aload_n 0,1),(136,.getfield 28,3),(139,.iload 5,2),(141,.aload_n 1,1),(142,.getfield 28,3),(145,.iload 6,2),(147,.aconst_null,1),(148,.invokestatic 407,3),(151,.astore 8,2),(153,.aload 8,2),(155,.invokestatic 53,3),(158,.astore 8,2),(160,.new 23,3),(163,.dup,1),(164,.aload 8,2),(166,.iload 7,2),(168,.invokespecial 175,3),(171,.areturn,1),(172,.iload 5,2),(174,.sipush 240,3),(177,.if_icmp .ge 17,3),(180,.iload 6,2),(182,.sipush 240,3),(185,.if_icmp .ge 9,3),(188,.aload_n 0,1),(189,.aload_n 1,1),(190,.invokestatic 411,3),(193,.areturn,1),(194,.iload_n 2,1),(195,.ifCond .ne 40,3),(198,.aload_n 0,1),(199,.getfield 28,3),(202,.aload_n 0,1),(203,.getfield 28,3),(206,.arraylength,1),(207,.invokestatic 414,3),(210,.i2l,1),(211,.aload_n 1,1),(212,.getfield 28,3),(215,.aload_n 1,1),(216,.getfield 28,3),(219,.arraylength,1),(220,.invokestatic 414,3),(223,.i2l,1),(224,.ladd,1),(225,.ldc2_w 417,3),(228,.lcmp,1),(229,.ifCond .le 6,3),(232,.invokestatic 101,3),(235,.aload_n 0,1),(236,.aload_n 1,1),(237,.iload_n 3,1),(238,.iload 4,2),(240,.invokestatic 419,3),(243,.areturn,1)]
theorem Nj: ∀x∈(tY).take 40,decode jdk_2097_method_42_code x.1= .ok (x.2.1,x.2.2):=by decide+kernel
theorem Nk: ∀x∈((tY).drop 40).take 40,decode jdk_2097_method_42_code x.1= .ok (x.2.1,x.2.2):=by decide+kernel
theorem Nl: ∀x∈(((tY).drop 40).drop 40).take 40,decode jdk_2097_method_42_code x.1= .ok (x.2.1,x.2.2):=by decide+kernel
theorem Nm: ∀x∈(((tY).drop 40).drop 40).drop 40,decode jdk_2097_method_42_code x.1= .ok (x.2.1,x.2.2):=by decide+kernel
theorem qF: ∀x∈tY,decode jdk_2097_method_42_code x.1= .ok (x.2.1,x.2.2):=(gJ 40 Nj (gJ 40 Nk (gJ 40 Nl Nm)))
def Nq:List (Nat×Jvm.ClassFile.Instr×Nat):= [(0,.aload_n 0,1),(1,.aload_n 1,1),(2,.iconst 0,1),(3,.iconst 0,1),(4,.iconst 0,1),(5,.invokevirtual 397,3),(8,.areturn,1)]
theorem Nr: ∀x∈Nq,decode jdk_2097_method_40_code x.1= .ok (x.2.1,x.2.2):=by decide+kernel
def Ns:List (Nat×Jvm.ClassFile.Instr×Nat):= [(0,.iload_n 0,1),(1,.ifCond .gt 14,3),(4,.iload_n 0,1),(5,.ifCond .ne 8,3),(8,.bipush 32,2),(10,.goto 4,3),(13,.iconst 0,1),(14,.ireturn,1),(15,.bipush 31,2),(17,.istore_n 1,1),(18,.iload_n 0,1),(19,.ldc_w 264,3),(22,.if_icmp .lt 11,3),(25,.iinc 1 (-16),3),(28,.iload_n 0,1),(29,.bipush 16,2),(31,.iushr,1),(32,.istore_n 0,1),(33,.iload_n 0,1),(34,.sipush 256,3),(37,.if_icmp .lt 11,3),(40,.iinc 1 (-8),3),(43,.iload_n 0,1),(44,.bipush 8,2),(46,.iushr,1),(47,.istore_n 0,1),(48,.iload_n 0,1),(49,.bipush 16,2),(51,.if_icmp .lt 10,3),(54,.iinc 1 (-4),3),(57,.iload_n 0,1),(58,.iconst 4,1),(59,.iushr,1),(60,.istore_n 0,1),(61,.iload_n 0,1),(62,.iconst 4,1),(63,.if_icmp .lt 10,3),(66,.iinc 1 (-2),3),(69,.iload_n 0,1),(70,.iconst 2,1),(71,.iushr,1),(72,.istore_n 0,1),(73,.iload_n 1,1),(74,.iload_n 0,1),(75,.iconst 1,1),(76,.iushr,1),(77,.isub,1),(78,.ireturn,1)]
theorem Nt: ∀x∈Ns,decode jdk_33_method_47_code x.1= .ok (x.2.1,x.2.2):=by decide+kernel
def Nu:List (Nat×Jvm.ClassFile.Instr×Nat):= [(0,.lload_n 1,1),(1,.ldc2_w 79,3),(4,.ladd,1),(5,.lload_n 3,1),(6,.ldc2_w 79,3),(9,.ladd,1),(10,.lcmp,1),(11,.ifCond .le 7,3),(14,.iconst 1,1),(15,.goto 4,3),(18,.iconst 0,1),(19,.ireturn,1)]
theorem Dd: ∀x∈Nu,decode jdk_2101_method_69_code x.1= .ok (x.2.1,x.2.2):=by decide+kernel
def Nv:List (Nat×Jvm.ClassFile.Instr×Nat):= [(0,.iload_n 2,1),(1,.i2l,1),(2,.ldc2_w 52,3),(5,.land,1),(6,.lstore_n 3,1),(7,.lload_n 3,1),(8,.lconst 1,1),(9,.lcmp,1),(10,.ifCond .ne 24,3),(13,.lload_n 0,1),(14,.l2i,1),(15,.i2l,1),(16,.lstore 7,2),(18,.lconst 0,1),(19,.lstore 5,2),(21,.lload 5,2),(23,.bipush 32,2),(25,.lshl,1),(26,.lload 7,2),(28,.ldc2_w 52,3),(31,.land,1),(32,.lor,1),(33,.lreturn,1),(34,.lload_n 0,1),(35,.iconst 1,1),(36,.lushr,1),(37,.lload_n 3,1),(38,.iconst 1,1),(39,.lushr,1),(40,.ldiv,1),(41,.lstore 7,2),(43,.lload_n 0,1),(44,.lload 7,2),(46,.lload_n 3,1),(47,.lmul,1),(48,.lsub,1),(49,.lstore 5,2),(51,.lload 5,2),(53,.lconst 0,1),(54,.lcmp,1),(55,.ifCond .ge 18,3),(58,.lload 5,2),(60,.lload_n 3,1),(61,.ladd,1),(62,.lstore 5,2),(64,.lload 7,2),(66,.lconst 1,1),(67,.lsub,1),(68,.lstore 7,2),(70,.goto (-19),3),(73,.lload 5,2),(75,.lload_n 3,1),(76,.lcmp,1),(77,.ifCond .lt 18,3),(80,.lload 5,2),(82,.lload_n 3,1),(83,.lsub,1),(84,.lstore 5,2),(86,.lload 7,2),(88,.lconst 1,1),(89,.ladd,1),(90,.lstore 7,2),(92,.goto (-19),3),(95,.lload 5,2),(97,.bipush 32,2),(99,.lshl,1),(100,.lload 7,2),(102,.ldc2_w 52,3),(105,.land,1),(106,.lor,1),(107,.lreturn,1)]
theorem Df: ∀x∈Nv,decode jdk_2101_method_70_code x.1= .ok (x.2.1,x.2.2):=by decide+kernel
def Nw:List (Nat×Jvm.ClassFile.Instr×Nat):= [(0,.aload_n 0,1),(1,.invokespecial 5,3),(4,.aload_n 0,1),(5,.iconst 0,1),(6,.putfield 11,3),(9,.aload_n 0,1),(10,.iconst 1,1),(11,.newarray .int,2),(13,.putfield 17,3),(16,.aload_n 0,1),(17,.iconst 0,1),(18,.putfield 21,3),(21,.return_,1)]
theorem Dh: ∀x∈Nw,decode jdk_2101_method_1_code x.1= .ok (x.2.1,x.2.2):=by decide+kernel
def Nx:List (Nat×Jvm.ClassFile.Instr×Nat):= [(0,.aload_n 0,1),(1,.invokespecial 5,3),(4,.aload_n 0,1),(5,.iconst 0,1),(6,.putfield 11,3),(9,.aload_n 0,1),(10,.aload_n 1,1),(11,.putfield 17,3),(14,.aload_n 0,1),(15,.aload_n 1,1),(16,.arraylength,1),(17,.putfield 21,3),(20,.return_,1)]
theorem Dj: ∀x∈Nx,decode jdk_2101_method_3_code x.1= .ok (x.2.1,x.2.2):=by decide+kernel
def Ny:List (Nat×Jvm.ClassFile.Instr×Nat):= [(0,.aload_n 0,1),(1,.invokespecial 5,3),(4,.aload_n 0,1),(5,.iconst 0,1),(6,.putfield 11,3),(9,.aload_n 0,1),(10,.iconst 1,1),(11,.newarray .int,2),(13,.putfield 17,3),(16,.aload_n 0,1),(17,.iconst 1,1),(18,.putfield 21,3),(21,.aload_n 0,1),(22,.getfield 17,3),(25,.iconst 0,1),(26,.iload_n 1,1),(27,.iastore,1),(28,.return_,1)]
theorem Dm: ∀x∈Ny,decode jdk_2101_method_2_code x.1= .ok (x.2.1,x.2.2):=by decide+kernel
def Nz:List (Nat×Jvm.ClassFile.Instr×Nat):= [(0,.aload_n 0,1),(1,.invokespecial 5,3),(4,.aload_n 0,1),(5,.iconst 0,1),(6,.putfield 11,3),(9,.aload_n 0,1),(10,.aload_n 1,1),(11,.getfield 21,3),(14,.putfield 21,3),(17,.aload_n 0,1),(18,.aload_n 1,1),(19,.getfield 17,3),(22,.aload_n 1,1),(23,.getfield 11,3),(26,.aload_n 1,1),(27,.getfield 11,3),(30,.aload_n 0,1),(31,.getfield 21,3),(34,.iadd,1),(35,.invokestatic 33,3),(38,.putfield 17,3),(41,.return_,1)]
theorem wE: ∀x∈Nz,decode jdk_2101_method_5_code x.1= .ok (x.2.1,x.2.2):=by decide+kernel
def NA:List (Nat×Jvm.ClassFile.Instr×Nat):= [(0,.aload_n 1,1),(1,.getfield 21,3),(4,.istore_n 2,1),(5,.aload_n 0,1),(6,.getfield 21,3),(9,.iload_n 2,1),(10,.if_icmp .ge 5,3),(13,.iconst (-1),1),(14,.ireturn,1),(15,.aload_n 0,1),(16,.getfield 21,3),(19,.iload_n 2,1),(20,.if_icmp .le 5,3),(23,.iconst 1,1),(24,.ireturn,1),(25,.aload_n 1,1),(26,.getfield 17,3),(29,.astore_n 3,1),(30,.aload_n 0,1),(31,.getfield 11,3),(34,.istore 4,2),(36,.aload_n 1,1),(37,.getfield 11,3),(40,.istore 5,2),(42,.iload 4,2),(44,.aload_n 0,1),(45,.getfield 21,3),(48,.aload_n 0,1),(49,.getfield 11,3),(52,.iadd,1),(53,.if_icmp .ge 51,3),(56,.aload_n 0,1),(57,.getfield 17,3),(60,.iload 4,2),(62,.iaload,1),(63,.ldc 88,2),(65,.iadd,1),(66,.istore 6,2),(68,.aload_n 3,1),(69,.iload 5,2),(71,.iaload,1),(72,.ldc 88,2),(74,.iadd,1),(75,.istore 7,2),(77,.iload 6,2),(79,.iload 7,2),(81,.if_icmp .ge 5,3),(84,.iconst (-1),1),(85,.ireturn,1),(86,.iload 6,2),(88,.iload 7,2),(90,.if_icmp .le 5,3),(93,.iconst 1,1),(94,.ireturn,1),(95,.iinc 4 1,3),(98,.iinc 5 1,3),(101,.goto (-59),3),(104,.iconst 0,1),(105,.ireturn,1)]
theorem wF: ∀x∈NA,decode jdk_2101_method_15_code x.1= .ok (x.2.1,x.2.2):=by decide+kernel
def NG:List (Nat×Jvm.ClassFile.Instr×Nat):= [(0,.aload_n 0,1),(1,.getfield 32,3),(4,.ireturn,1)]
theorem NH: ∀x∈NG,decode jdk_2097_method_81_code x.1= .ok (x.2.1,x.2.2):=by decide+kernel
def NJ:List (Nat×Jvm.ClassFile.Instr×Nat):= [(0,.aload_n 0,1),(1,.getfield 32,3),(4,.ifCond .ge 7,3),(7,.iconst (-1),1),(8,.goto 4,3),(11,.iconst 0,1),(12,.ireturn,1)]
theorem NK: ∀x∈NJ,decode jdk_2097_method_147_code x.1= .ok (x.2.1,x.2.2):=by decide+kernel
def NQ:List (Nat×Jvm.ClassFile.Instr×Nat):= [(0,.iload_n 1,1),(1,.ifCond .ge 5,3),(4,.iconst 0,1),(5,.ireturn,1),(6,.iload_n 1,1),(7,.aload_n 0,1),(8,.getfield 28,3),(11,.arraylength,1),(12,.if_icmp .lt 8,3),(15,.aload_n 0,1),(16,.invokevirtual 860,3),(19,.ireturn,1),(20,.aload_n 0,1),(21,.getfield 28,3),(24,.aload_n 0,1),(25,.getfield 28,3),(28,.arraylength,1),(29,.iload_n 1,1),(30,.isub,1),(31,.iconst 1,1),(32,.isub,1),(33,.iaload,1),(34,.istore_n 2,1),(35,.aload_n 0,1),(36,.getfield 32,3),(39,.ifCond .lt 7,3),(42,.iload_n 2,1),(43,.goto 19,3),(46,.iload_n 1,1),(47,.aload_n 0,1),(48,.invokevirtual 863,3),(51,.if_icmp .gt 8,3),(54,.iload_n 2,1),(55,.ineg,1),(56,.goto 6,3),(59,.iload_n 2,1),(60,.iconst (-1),1),(61,.ixor,1),(62,.ireturn,1)]
theorem wJ: ∀x∈NQ,decode jdk_2097_method_148_code x.1= .ok (x.2.1,x.2.2):=by decide+kernel
def NU:List (Nat×Jvm.ClassFile.Instr×Nat):= [(0,.lconst 0,1),(1,.lstore_n 1,1),(2,.iconst 1,1),(3,.istore_n 3,1),(4,.iload_n 3,1),(5,.ifCond .lt 25,3),(8,.lload_n 1,1),(9,.bipush 32,2),(11,.lshl,1),(12,.aload_n 0,1),(13,.iload_n 3,1),(14,.invokevirtual 736,3),(17,.i2l,1),(18,.ldc2_w 130,3),(21,.land,1),(22,.ladd,1),(23,.lstore_n 1,1),(24,.iinc 3 (-1),3),(27,.goto (-23),3),(30,.lload_n 1,1),(31,.lreturn,1)]
theorem Dp: ∀x∈NU,decode jdk_2097_method_136_code x.1= .ok (x.2.1,x.2.2):=by decide+kernel
def NV:List (Nat×Jvm.ClassFile.Instr×Nat):= [(0,.aload_n 0,1),(1,.aload_n 0,1),(2,.iconst 0,1),(3,.dup_x1,1),(4,.putfield 21,3),(7,.putfield 11,3),(10,.iconst 0,1),(11,.istore_n 1,1),(12,.aload_n 0,1),(13,.getfield 17,3),(16,.arraylength,1),(17,.istore_n 2,1),(18,.iload_n 1,1),(19,.iload_n 2,1),(20,.if_icmp .ge 16,3),(23,.aload_n 0,1),(24,.getfield 17,3),(27,.iload_n 1,1),(28,.iconst 0,1),(29,.iastore,1),(30,.iinc 1 1,3),(33,.goto (-15),3),(36,.return_,1)]
theorem Dq: ∀x∈NV,decode jdk_2101_method_13_code x.1= .ok (x.2.1,x.2.2):=by decide+kernel
def jY:List (Nat×Jvm.ClassFile.Instr×Nat):= [(0,.aload_n 1,1),(1,.getfield 17,3),(4,.aload_n 1,1),(5,.getfield 11,3),(8,.iaload,1),(9,.invokestatic 152,3),(12,.istore 4,2),(14,.aload_n 1,1),(15,.getfield 21,3),(18,.istore 5,2),(20,.iload 4,2),(22,.ifCond .le 226,3),(25,.iload 5,2),(27,.newarray .int,2),(29,.astore 6,2),(31,.aload_n 1,1),(32,.getfield 17,3),(35,.aload_n 1,1),(36,.getfield 11,3),(39,.iload 5,2),(41,.aload 6,2),(43,.iconst 0,1),(44,.iload 4,2),(46,.invokestatic 269,3),(49,.aload_n 0,1),(50,.getfield 17,3),(53,.aload_n 0,1),(54,.getfield 11,3),(57,.iaload,1),(58,.invokestatic 152,3),(61,.iload 4,2),(63,.if_icmp .lt 62,3),(66,.aload_n 0,1),(67,.getfield 21,3),(70,.iconst 1,1),(71,.iadd,1),(72,.newarray .int,2),(74,.astore 8,2),(76,.new 12,3),(79,.dup,1),(80,.aload 8,2),(82,.invokespecial 259,3),(85,.astore 7,2),(87,.aload 7,2),(89,.aload_n 0,1),(90,.getfield 21,3),(93,.putfield 21,3),(96,.aload 7,2),(98,.iconst 1,1),(99,.putfield 11,3),(102,.aload_n 0,1),(103,.getfield 17,3),(106,.aload_n 0,1),(107,.getfield 11,3),(110,.aload_n 0,1),(111,.getfield 21,3),(114,.aload 8,2),(116,.iconst 1,1),(117,.iload 4,2),(119,.invokestatic 269,3),(122,.goto 201,3),(125,.aload_n 0,1),(126,.getfield 21,3),(129,.iconst 2,1),(130,.iadd,1),(131,.newarray .int,2),(133,.astore 8,2),(135,.new 12,3),(138,.dup,1),(139,.aload 8,2),(141,.invokespecial 259,3),(144,.astore 7,2),(146,.aload 7,2),(148,.aload_n 0,1),(149,.getfield 21,3),(152,.iconst 1,1),(153,.iadd,1),(154,.putfield 21,3),(157,.aload 7,2),(159,.iconst 1,1),(160,.putfield 11,3),(163,.aload_n 0,1),(164,.getfield 11,3),(167,.istore 9,2),(169,.iconst 0,1),(170,.istore 10,2),(172,.bipush 32,2),(174,.iload 4,2),(176,.isub,1),(177,.istore 11,2),(179,.iconst 1,1),(180,.istore 12,2),(182,.iload 12,2),(184,.aload_n 0,1),(185,.getfield 21,3),(188,.iconst 1,1),(189,.iadd,1),(190,.if_icmp .ge 41,3),(193,.iload 10,2),(195,.istore 13,2),(197,.aload_n 0,1),(198,.getfield 17,3),(201,.iload 9,2),(203,.iaload,1),(204,.istore 10,2),(206,.aload 8,2),(208,.iload 12,2),(210,.iload 13,2),(212,.iload 4,2),(214,.ishl,1),(215,.iload 10,2),(217,.iload 11,2),(219,.iushr,1),(220,.ior,1),(221,.iastore,1),(222,.iinc 12 1,3),(225,.iinc 9 1,3),(228,.goto (-46),3),(231,.aload 8,2),(233,.aload_n 0,1),(234,.getfield 21,3),(237,.iconst 1,1),(238,.iadd,1),(239,.iload 10,2),(241,.iload 4,2),(243,.ishl,1),(244,.iastore,1),(245,.goto 78,3),(248,.aload_n 1,1),(249,.getfield 17,3),(252,.aload_n 1,1),(253,.getfield 11,3),(256,.aload_n 1,1),(257,.getfield 11,3),(260,.aload_n 1,1),(261,.getfield 21,3),(264,.iadd,1),(265,.invokestatic 33,3),(268,.astore 6,2),(270,.new 12,3),(273,.dup,1),(274,.aload_n 0,1),(275,.getfield 21,3),(278,.iconst 1,1),(279,.iadd,1),(280,.newarray .int,2),(282,.invokespecial 259,3),(285,.astore 7,2),(287,.aload_n 0,1),(288,.getfield 17,3),(291,.aload_n 0,1),(292,.getfield 11,3),(295,.aload 7,2),(297,.getfield 17,3),(300,.iconst 1,1),(301,.aload_n 0,1),(302,.getfield 21,3),(305,.invokestatic 95,3),(308,.aload 7,2),(310,.aload_n 0,1),(311,.getfield 21,3),(314,.putfield 21,3),(317,.aload 7,2),(319,.iconst 1,1),(320,.putfield 11,3),(323,.aload 7,2),(325,.getfield 21,3),(328,.istore 8,2),(330,.iload 8,2),(332,.iload 5,2),(334,.isub,1),(335,.iconst 1,1),(336,.iadd,1),(337,.istore 9,2),(339,.aload_n 2,1),(340,.getfield 17,3),(343,.arraylength,1),(344,.iload 9,2),(346,.if_icmp .ge 16,3),(349,.aload_n 2,1),(350,.iload 9,2),(352,.newarray .int,2),(354,.putfield 17,3),(357,.aload_n 2,1),(358,.iconst 0,1),(359,.putfield 11,3),(362,.aload_n 2,1),(363,.iload 9,2),(365,.putfield 21,3),(368,.aload_n 2,1),(369,.getfield 17,3),(372,.astore 10,2),(374,.aload 7,2),(376,.iconst 0,1),(377,.putfield 11,3),(380,.aload 7,2),(382,.getfield 17,3),(385,.iconst 0,1),(386,.iconst 0,1),(387,.iastore,1),(388,.aload 7,2),(390,.dup,1),(391,.getfield 21,3),(394,.iconst 1,1),(395,.iadd,1),(396,.putfield 21,3),(399,.aload 6,2),(401,.iconst 0,1),(402,.iaload,1),(403,.istore 11,2),(405,.iload 11,2),(407,.i2l,1),(408,.ldc2_w 52,3),(411,.land,1),(412,.lstore 12,2),(414,.aload 6,2),(416,.iconst 1,1),(417,.iaload,1),(418,.istore 14,2),(420,.iconst 0,1),(421,.istore 15,2),(423,.iload 15,2),(425,.iload 9,2),(427,.iconst 1,1),(428,.isub,1),(429,.if_icmp .ge 399,3),(432,.iconst 0,1),(433,.istore 16,2),(435,.iconst 0,1),(436,.istore 17,2),(438,.iconst 0,1),(439,.istore 18,2),(441,.aload 7,2),(443,.getfield 17,3),(446,.iload 15,2),(448,.aload 7,2),(450,.getfield 11,3),(453,.iadd,1),(454,.iaload,1),(455,.istore 19,2),(457,.iload 19,2),(459,.ldc 88,2),(461,.iadd,1),(462,.istore 20,2),(464,.aload 7,2),(466,.getfield 17,3),(469,.iload 15,2),(471,.iconst 1,1),(472,.iadd,1),(473,.aload 7,2),(475,.getfield 11,3),(478,.iadd,1),(479,.iaload,1),(480,.istore 21,2),(482,.iload 19,2),(484,.iload 11,2),(486,.if_icmp .ne 33,3),(489,.iconst (-1),1),(490,.istore 16,2),(492,.iload 19,2),(494,.iload 21,2),(496,.iadd,1),(497,.istore 17,2),(499,.iload 17,2),(501,.ldc 88,2),(503,.iadd,1),(504,.iload 20,2),(506,.if_icmp .ge 7,3),(509,.iconst 1,1),(510,.goto 4,3),(513,.iconst 0,1),(514,.istore 18,2),(516,.goto 75,3),(519,.iload 19,2),(521,.i2l,1),(522,.bipush 32,2),(524,.lshl,1),(525,.iload 21,2),(527,.i2l,1),(528,.ldc2_w 52,3),(531,.land,1),(532,.lor,1),(533,.lstore 22,2),(535,.lload 22,2),(537,.lconst 0,1),(538,.lcmp,1),(539,.ifCond .lt 26,3),(542,.lload 22,2),(544,.lload 12,2),(546,.ldiv,1),(547,.l2i,1),(548,.istore 16,2),(550,.lload 22,2),(552,.iload 16,2),(554,.i2l,1),(555,.lload 12,2),(557,.lmul,1),(558,.lsub,1),(559,.l2i,1),(560,.istore 17,2),(562,.goto 29,3),(565,.lload 22,2),(567,.iload 11,2),(569,.invokestatic 155,3),(572,.lstore 24,2),(574,.lload 24,2),(576,.ldc2_w 52,3),(579,.land,1),(580,.l2i,1),(581,.istore 16,2),(583,.lload 24,2),(585,.bipush 32,2),(587,.lushr,1),(588,.l2i,1),(589,.istore 17,2),(591,.iload 16,2),(593,.ifCond .ne 6,3),(596,.goto 226,3),(599,.iload 18,2),(601,.ifCond .ne 139,3),(604,.aload 7,2),(606,.getfield 17,3),(609,.iload 15,2),(611,.iconst 2,1),(612,.iadd,1),(613,.aload 7,2),(615,.getfield 11,3),(618,.iadd,1),(619,.iaload,1),(620,.i2l,1),(621,.ldc2_w 52,3),(624,.land,1),(625,.lstore 22,2),(627,.iload 17,2),(629,.i2l,1),(630,.ldc2_w 52,3),(633,.land,1),(634,.bipush 32,2),(636,.lshl,1),(637,.lload 22,2),(639,.lor,1),(640,.lstore 24,2),(642,.iload 14,2),(644,.i2l,1),(645,.ldc2_w 52,3),(648,.land,1),(649,.iload 16,2),(651,.i2l,1),(652,.ldc2_w 52,3),(655,.land,1),(656,.lmul,1),(657,.lstore 26,2),(659,.aload_n 0,1),(660,.lload 26,2),(662,.lload 24,2),(664,.invokevirtual 273,3),(667,.ifCond .eq 73,3),(670,.iinc 16 (-1),3),(673,.iload 17,2),(675,.i2l,1),(676,.ldc2_w 52,3),(679,.land,1),(680,.lload 12,2),(682,.ladd,1),(683,.l2i,1),(684,.istore 17,2),(686,.iload 17,2),(688,.i2l,1),(689,.ldc2_w 52,3),(692,.land,1),(693,.lload 12,2),(695,.lcmp,1),(696,.ifCond .lt 44,3),(699,.lload 26,2),(701,.iload 14,2),(703,.i2l,1),(704,.ldc2_w 52,3),(707,.land,1),(708,.lsub,1),(709,.lstore 26,2),(711,.iload 17,2),(713,.i2l,1),(714,.ldc2_w 52,3),(717,.land,1),(718,.bipush 32,2),(720,.lshl,1),(721,.lload 22,2),(723,.lor,1),(724,.lstore 24,2),(726,.aload_n 0,1),(727,.lload 26,2),(729,.lload 24,2),(731,.invokevirtual 273,3),(734,.ifCond .eq 6,3),(737,.iinc 16 (-1),3),(740,.aload 7,2),(742,.getfield 17,3),(745,.iload 15,2),(747,.aload 7,2),(749,.getfield 11,3),(752,.iadd,1),(753,.iconst 0,1),(754,.iastore,1),(755,.aload_n 0,1),(756,.aload 7,2),(758,.getfield 17,3),(761,.aload 6,2),(763,.iload 16,2),(765,.iload 5,2),(767,.iload 15,2),(769,.aload 7,2),(771,.getfield 11,3),(774,.iadd,1),(775,.invokevirtual 277,3),(778,.istore 22,2),(780,.iload 22,2),(782,.ldc 88,2),(784,.iadd,1),(785,.iload 20,2),(787,.if_icmp .le 28,3),(790,.aload_n 0,1),(791,.aload 6,2),(793,.aload 7,2),(795,.getfield 17,3),(798,.iload 15,2),(800,.iconst 1,1),(801,.iadd,1),(802,.aload 7,2),(804,.getfield 11,3),(807,.iadd,1),(808,.invokevirtual 281,3),(811,.pop,1),(812,.iinc 16 (-1),3),(815,.aload 10,2),(817,.iload 15,2),(819,.iload 16,2),(821,.iastore,1),(822,.iinc 15 1,3),(825,.goto (-402),3),(828,.iconst 0,1),(829,.istore 15,2),(831,.iconst 0,1),(832,.istore 16,2),(834,.iconst 0,1),(835,.istore 17,2),(837,.aload 7,2),(839,.getfield 17,3),(842,.iload 9,2),(844,.iconst 1,1),(845,.isub,1),(846,.aload 7,2),(848,.getfield 11,3),(851,.iadd,1),(852,.iaload,1),(853,.istore 18,2),(855,.iload 18,2),(857,.ldc 88,2),(859,.iadd,1),(860,.istore 19,2),(862,.aload 7,2),(864,.getfield 17,3),(867,.iload 9,2),(869,.aload 7,2),(871,.getfield 11,3),(874,.iadd,1),(875,.iaload,1),(876,.istore 20,2),(878,.iload 18,2),(880,.iload 11,2),(882,.if_icmp .ne 33,3),(885,.iconst (-1),1),(886,.istore 15,2),(888,.iload 18,2),(890,.iload 20,2),(892,.iadd,1),(893,.istore 16,2),(895,.iload 16,2),(897,.ldc 88,2),(899,.iadd,1),(900,.iload 19,2),(902,.if_icmp .ge 7,3),(905,.iconst 1,1),(906,.goto 4,3),(909,.iconst 0,1),(910,.istore 17,2),(912,.goto 75,3),(915,.iload 18,2),(917,.i2l,1),(918,.bipush 32,2),(920,.lshl,1),(921,.iload 20,2),(923,.i2l,1),(924,.ldc2_w 52,3),(927,.land,1),(928,.lor,1),(929,.lstore 21,2),(931,.lload 21,2),(933,.lconst 0,1),(934,.lcmp,1),(935,.ifCond .lt 26,3),(938,.lload 21,2),(940,.lload 12,2),(942,.ldiv,1),(943,.l2i,1),(944,.istore 15,2),(946,.lload 21,2),(948,.iload 15,2),(950,.i2l,1),(951,.lload 12,2),(953,.lmul,1),(954,.lsub,1),(955,.l2i,1),(956,.istore 16,2),(958,.goto 29,3),(961,.lload 21,2),(963,.iload 11,2),(965,.invokestatic 155,3),(968,.lstore 23,2),(970,.lload 23,2),(972,.ldc2_w 52,3),(975,.land,1),(976,.l2i,1),(977,.istore 15,2),(979,.lload 23,2),(981,.bipush 32,2),(983,.lushr,1),(984,.l2i,1),(985,.istore 16,2),(987,.iload 15,2),(989,.ifCond .eq 272,3),(992,.iload 17,2),(994,.ifCond .ne 139,3),(997,.aload 7,2),(999,.getfield 17,3),(1002,.iload 9,2),(1004,.iconst 1,1),(1005,.iadd,1),(1006,.aload 7,2),(1008,.getfield 11,3),(1011,.iadd,1),(1012,.iaload,1),(1013,.i2l,1),(1014,.ldc2_w 52,3),(1017,.land,1),(1018,.lstore 21,2),(1020,.iload 16,2),(1022,.i2l,1),(1023,.ldc2_w 52,3),(1026,.land,1),(1027,.bipush 32,2),(1029,.lshl,1),(1030,.lload 21,2),(1032,.lor,1),(1033,.lstore 23,2),(1035,.iload 14,2),(1037,.i2l,1),(1038,.ldc2_w 52,3),(1041,.land,1),(1042,.iload 15,2),(1044,.i2l,1),(1045,.ldc2_w 52,3),(1048,.land,1),(1049,.lmul,1),(1050,.lstore 25,2),(1052,.aload_n 0,1),(1053,.lload 25,2),(1055,.lload 23,2),(1057,.invokevirtual 273,3),(1060,.ifCond .eq 73,3),(1063,.iinc 15 (-1),3),(1066,.iload 16,2),(1068,.i2l,1),(1069,.ldc2_w 52,3),(1072,.land,1),(1073,.lload 12,2),(1075,.ladd,1),(1076,.l2i,1),(1077,.istore 16,2),(1079,.iload 16,2),(1081,.i2l,1),(1082,.ldc2_w 52,3),(1085,.land,1),(1086,.lload 12,2),(1088,.lcmp,1),(1089,.ifCond .lt 44,3),(1092,.lload 25,2),(1094,.iload 14,2),(1096,.i2l,1),(1097,.ldc2_w 52,3),(1100,.land,1),(1101,.lsub,1),(1102,.lstore 25,2),(1104,.iload 16,2),(1106,.i2l,1),(1107,.ldc2_w 52,3),(1110,.land,1),(1111,.bipush 32,2),(1113,.lshl,1),(1114,.lload 21,2),(1116,.lor,1),(1117,.lstore 23,2),(1119,.aload_n 0,1),(1120,.lload 25,2),(1122,.lload 23,2),(1124,.invokevirtual 273,3),(1127,.ifCond .eq 6,3),(1130,.iinc 15 (-1),3),(1133,.aload 7,2),(1135,.getfield 17,3),(1138,.iload 9,2),(1140,.iconst 1,1),(1141,.isub,1),(1142,.aload 7,2),(1144,.getfield 11,3),(1147,.iadd,1),(1148,.iconst 0,1),(1149,.iastore,1),(1150,.iload_n 3,1),(1151,.ifCond .eq 33,3),(1154,.aload_n 0,1),(1155,.aload 7,2),(1157,.getfield 17,3),(1160,.aload 6,2),(1162,.iload 15,2),(1164,.iload 5,2),(1166,.iload 9,2),(1168,.iconst 1,1),(1169,.isub,1),(1170,.aload 7,2),(1172,.getfield 11,3),(1175,.iadd,1),(1176,.invokevirtual 277,3),(1179,.istore 21,2),(1181,.goto 30,3),(1184,.aload_n 0,1),(1185,.aload 7,2),(1187,.getfield 17,3),(1190,.aload 6,2),(1192,.iload 15,2),(1194,.iload 5,2),(1196,.iload 9,2),(1198,.iconst 1,1),(1199,.isub,1),(1200,.aload 7,2),(1202,.getfield 11,3),(1205,.iadd,1),(1206,.invokevirtual 285,3),(1209,.istore 21,2),(1211,.iload 21,2),(1213,.ldc 88,2),(1215,.iadd,1),(1216,.iload 19,2),(1218,.if_icmp .le 34,3),(1221,.iload_n 3,1),(1222,.ifCond .eq 27,3),(1225,.aload_n 0,1),(1226,.aload 6,2),(1228,.aload 7,2),(1230,.getfield 17,3),(1233,.iload 9,2),(1235,.iconst 1,1),(1236,.isub,1),(1237,.iconst 1,1),(1238,.iadd,1),(1239,.aload 7,2),(1241,.getfield 11,3),(1244,.iadd,1),(1245,.invokevirtual 281,3),(1248,.pop,1),(1249,.iinc 15 (-1),3),(1252,.aload 10,2),(1254,.iload 9,2),(1256,.iconst 1,1),(1257,.isub,1),(1258,.iload 15,2),(1260,.iastore,1),(1261,.iload_n 3,1),(1262,.ifCond .eq 20,3),(1265,.iload 4,2),(1267,.ifCond .le 10,3),(1270,.aload 7,2),(1272,.iload 4,2),(1274,.invokevirtual 108,3),(1277,.aload 7,2),(1279,.invokevirtual 64,3),(1282,.aload_n 2,1),(1283,.invokevirtual 64,3),(1286,.iload_n 3,1),(1287,.ifCond .eq 8,3),(1290,.aload 7,2),(1292,.goto 4,3),(1295,.aconst_null,1),(1296,.areturn,1)]
theorem NY: ∀x∈(jY).take 40,decode jdk_2101_method_65_code x.1= .ok (x.2.1,x.2.2):=by decide+kernel
theorem NZ: ∀x∈((jY).drop 40).take 40,decode jdk_2101_method_65_code x.1= .ok (x.2.1,x.2.2):=by decide+kernel
theorem N_: ∀x∈(((jY).drop 40).drop 40).take 40,decode jdk_2101_method_65_code x.1= .ok (x.2.1,x.2.2):=by decide+kernel
theorem Oa: ∀x∈((((jY).drop 40).drop 40).drop 40).take 40,decode jdk_2101_method_65_code x.1= .ok (x.2.1,x.2.2):=by decide+kernel
theorem Oc: ∀x∈(((((jY).drop 40).drop 40).drop 40).drop 40).take 40,decode jdk_2101_method_65_code x.1= .ok (x.2.1,x.2.2):=by decide+kernel
theorem Oe: ∀x∈((((((jY).drop 40).drop 40).drop 40).drop 40).drop 40).take 40,decode jdk_2101_method_65_code x.1= .ok (x.2.1,x.2.2):=by decide+kernel
theorem Og: ∀x∈(((((((jY).drop 40).drop 40).drop 40).drop 40).drop 40).drop 40).take 40,decode jdk_2101_method_65_code x.1= .ok (x.2.1,x.2.2):=by decide+kernel
theorem Oh: ∀x∈((((((((jY).drop 40).drop 40).drop 40).drop 40).drop 40).drop 40).drop 40).take 40,decode jdk_2101_method_65_code x.1= .ok (x.2.1,x.2.2):=by decide+kernel
theorem Oi: ∀x∈(((((((((jY).drop 40).drop 40).drop 40).drop 40).drop 40).drop 40).drop 40).drop 40).take 40,decode jdk_2101_method_65_code x.1= .ok (x.2.1,x.2.2):=by decide+kernel
theorem Oj: ∀x∈((((((((((jY).drop 40).drop 40).drop 40).drop 40).drop 40).drop 40).drop 40).drop 40).drop 40).take 40,decode jdk_2101_method_65_code x.1= .ok (x.2.1,x.2.2):=by decide+kernel
theorem Ol: ∀x∈(((((((((((jY).drop 40).drop 40).drop 40).drop 40).drop 40).drop 40).drop 40).drop 40).drop 40).drop 40).take 40,decode jdk_2101_method_65_code x.1= .ok (x.2.1,x.2.2):=by decide+kernel
theorem Om: ∀x∈((((((((((((jY).drop 40).drop 40).drop 40).drop 40).drop 40).drop 40).drop 40).drop 40).drop 40).drop 40).drop 40).take 40,decode jdk_2101_method_65_code x.1= .ok (x.2.1,x.2.2):=by decide+kernel
theorem Oq: ∀x∈(((((((((((((jY).drop 40).drop 40).drop 40).drop 40).drop 40).drop 40).drop 40).drop 40).drop 40).drop 40).drop 40).drop 40).take 40,decode jdk_2101_method_65_code x.1= .ok (x.2.1,x.2.2):=by decide+kernel
theorem Ot: ∀x∈((((((((((((((jY).drop 40).drop 40).drop 40).drop 40).drop 40).drop 40).drop 40).drop 40).drop 40).drop 40).drop 40).drop 40).drop 40).take 40,decode jdk_2101_method_65_code x.1= .ok (x.2.1,x.2.2):=by decide+kernel
theorem Ou: ∀x∈(((((((((((((((jY).drop 40).drop 40).drop 40).drop 40).drop 40).drop 40).drop 40).drop 40).drop 40).drop 40).drop 40).drop 40).drop 40).drop 40).take 40,decode jdk_2101_method_65_code x.1= .ok (x.2.1,x.2.2):=by decide+kernel
theorem Ov: ∀x∈((((((((((((((((jY).drop 40).drop 40).drop 40).drop 40).drop 40).drop 40).drop 40).drop 40).drop 40).drop 40).drop 40).drop 40).drop 40).drop 40).drop 40).take 40,decode jdk_2101_method_65_code x.1= .ok (x.2.1,x.2.2):=by decide+kernel
theorem Ow: ∀x∈(((((((((((((((((jY).drop 40).drop 40).drop 40).drop 40).drop 40).drop 40).drop 40).drop 40).drop 40).drop 40).drop 40).drop 40).drop 40).drop 40).drop 40).drop 40).take 40,decode jdk_2101_method_65_code x.1= .ok (x.2.1,x.2.2):=by decide+kernel
theorem Ox: ∀x∈(((((((((((((((((jY).drop 40).drop 40).drop 40).drop 40).drop 40).drop 40).drop 40).drop 40).drop 40).drop 40).drop 40).drop 40).drop 40).drop 40).drop 40).drop 40).drop 40,decode jdk_2101_method_65_code x.1= .ok (x.2.1,x.2.2):=by decide+kernel
theorem rP: ∀x∈jY,decode jdk_2101_method_65_code x.1= .ok (x.2.1,x.2.2):=(gJ 40 NY (gJ 40 NZ (gJ 40 N_ (gJ 40 Oa (gJ 40 Oc (gJ 40 Oe (gJ 40 Og (gJ 40 Oh (gJ 40 Oi (gJ 40 Oj (gJ 40 Ol (gJ 40 Om (gJ 40 Oq (gJ 40 Ot (gJ 40 Ou (gJ 40 Ov (gJ 40 Ow Ox)))))))))))))))))
def Oy:List (Nat×Jvm.ClassFile.Instr×Nat):= [(0,.iload_n 3,1),(1,.i2l,1),(2,.ldc2_w 52,3),(5,.land,1),(6,.lstore 6,2),(8,.lconst 0,1),(9,.lstore 8,2),(11,.iload 5,2),(13,.iload 4,2),(15,.iadd,1),(16,.istore 5,2),(18,.iload 4,2),(20,.iconst 1,1),(21,.isub,1),(22,.istore 10,2),(24,.iload 10,2),(26,.ifCond .lt 80,3),(29,.aload_n 2,1),(30,.iload 10,2),(32,.iaload,1),(33,.i2l,1),(34,.ldc2_w 52,3),(37,.land,1),(38,.lload 6,2),(40,.lmul,1),(41,.lload 8,2),(43,.ladd,1),(44,.lstore 11,2),(46,.aload_n 1,1),(47,.iload 5,2),(49,.iaload,1),(50,.i2l,1),(51,.lload 11,2),(53,.lsub,1),(54,.lstore 13,2),(56,.aload_n 1,1),(57,.iload 5,2),(59,.iinc 5 (-1),3),(62,.lload 13,2),(64,.l2i,1),(65,.iastore,1),(66,.lload 11,2),(68,.bipush 32,2),(70,.lushr,1),(71,.lload 13,2),(73,.ldc2_w 52,3),(76,.land,1),(77,.lload 11,2),(79,.l2i,1),(80,.iconst (-1),1),(81,.ixor,1),(82,.i2l,1),(83,.ldc2_w 52,3),(86,.land,1),(87,.lcmp,1),(88,.ifCond .le 7,3),(91,.iconst 1,1),(92,.goto 4,3),(95,.iconst 0,1),(96,.i2l,1),(97,.ladd,1),(98,.lstore 8,2),(100,.iinc 10 (-1),3),(103,.goto (-79),3),(106,.lload 8,2),(108,.l2i,1),(109,.ireturn,1)]
theorem Ds: ∀x∈Oy,decode jdk_2101_method_39_code x.1= .ok (x.2.1,x.2.2):=by decide+kernel
def Oz:List (Nat×Jvm.ClassFile.Instr×Nat):= [(0,.bipush 32,2),(2,.iload_n 0,1),(3,.invokestatic 602,3),(6,.isub,1),(7,.ireturn,1)]
theorem OB: ∀x∈Oz,decode jdk_2097_method_74_code x.1= .ok (x.2.1,x.2.2):=by decide+kernel
def OG:List (Nat×Jvm.ClassFile.Instr×Nat):= [(0,.aload_n 0,1),(1,.getfield 17,3),(4,.astore_n 2,1),(5,.bipush 32,2),(7,.iload_n 1,1),(8,.isub,1),(9,.istore_n 3,1),(10,.aload_n 0,1),(11,.getfield 11,3),(14,.istore 4,2),(16,.aload_n 2,1),(17,.iload 4,2),(19,.iaload,1),(20,.istore 5,2),(22,.iload 4,2),(24,.aload_n 0,1),(25,.getfield 21,3),(28,.iadd,1),(29,.iconst 1,1),(30,.isub,1),(31,.istore 6,2),(33,.iload 4,2),(35,.iload 6,2),(37,.if_icmp .ge 34,3),(40,.iload 5,2),(42,.istore 7,2),(44,.aload_n 2,1),(45,.iload 4,2),(47,.iconst 1,1),(48,.iadd,1),(49,.iaload,1),(50,.istore 5,2),(52,.aload_n 2,1),(53,.iload 4,2),(55,.iload 7,2),(57,.iload_n 1,1),(58,.ishl,1),(59,.iload 5,2),(61,.iload_n 3,1),(62,.iushr,1),(63,.ior,1),(64,.iastore,1),(65,.iinc 4 1,3),(68,.goto (-35),3),(71,.aload_n 2,1),(72,.aload_n 0,1),(73,.getfield 11,3),(76,.aload_n 0,1),(77,.getfield 21,3),(80,.iadd,1),(81,.iconst 1,1),(82,.isub,1),(83,.dup2,1),(84,.iaload,1),(85,.iload_n 1,1),(86,.ishl,1),(87,.iastore,1),(88,.return_,1)]
theorem Du: ∀x∈OG,decode jdk_2101_method_42_code x.1= .ok (x.2.1,x.2.2):=by decide+kernel
def OI:List (Nat×Jvm.ClassFile.Instr×Nat):= [(0,.aload_n 0,1),(1,.getfield 21,3),(4,.ifCond .ne 4,3),(7,.return_,1),(8,.iload_n 1,1),(9,.iconst 5,1),(10,.iushr,1),(11,.istore_n 2,1),(12,.iload_n 1,1),(13,.bipush 31,2),(15,.iand,1),(16,.istore_n 3,1),(17,.aload_n 0,1),(18,.dup,1),(19,.getfield 21,3),(22,.iload_n 2,1),(23,.isub,1),(24,.putfield 21,3),(27,.iload_n 3,1),(28,.ifCond .ne 4,3),(31,.return_,1),(32,.aload_n 0,1),(33,.getfield 17,3),(36,.aload_n 0,1),(37,.getfield 11,3),(40,.iaload,1),(41,.invokestatic 112,3),(44,.istore 4,2),(46,.iload_n 3,1),(47,.iload 4,2),(49,.if_icmp .lt 24,3),(52,.aload_n 0,1),(53,.bipush 32,2),(55,.iload_n 3,1),(56,.isub,1),(57,.invokevirtual 115,3),(60,.aload_n 0,1),(61,.dup,1),(62,.getfield 21,3),(65,.iconst 1,1),(66,.isub,1),(67,.putfield 21,3),(70,.goto 8,3),(73,.aload_n 0,1),(74,.iload_n 3,1),(75,.invokevirtual 118,3),(78,.return_,1)]
theorem Dv: ∀x∈OI,decode jdk_2101_method_35_code x.1= .ok (x.2.1,x.2.2):=by decide+kernel
def OJ:List (Nat×Jvm.ClassFile.Instr×Nat):= [(0,.aload_n 0,1),(1,.getfield 21,3),(4,.ifCond .ne 9,3),(7,.aload_n 0,1),(8,.iconst 0,1),(9,.putfield 11,3),(12,.return_,1),(13,.aload_n 0,1),(14,.getfield 11,3),(17,.istore_n 1,1),(18,.aload_n 0,1),(19,.getfield 17,3),(22,.iload_n 1,1),(23,.iaload,1),(24,.ifCond .eq 4,3),(27,.return_,1),(28,.iload_n 1,1),(29,.aload_n 0,1),(30,.getfield 21,3),(33,.iadd,1),(34,.istore_n 2,1),(35,.iinc 1 1,3),(38,.iload_n 1,1),(39,.iload_n 2,1),(40,.if_icmp .ge 12,3),(43,.aload_n 0,1),(44,.getfield 17,3),(47,.iload_n 1,1),(48,.iaload,1),(49,.ifCond .eq (-14),3),(52,.iload_n 1,1),(53,.aload_n 0,1),(54,.getfield 11,3),(57,.isub,1),(58,.istore_n 3,1),(59,.aload_n 0,1),(60,.dup,1),(61,.getfield 21,3),(64,.iload_n 3,1),(65,.isub,1),(66,.putfield 21,3),(69,.aload_n 0,1),(70,.aload_n 0,1),(71,.getfield 21,3),(74,.ifCond .ne 7,3),(77,.iconst 0,1),(78,.goto 9,3),(81,.aload_n 0,1),(82,.getfield 11,3),(85,.iload_n 3,1),(86,.iadd,1),(87,.putfield 11,3),(90,.return_,1)]
theorem Dx: ∀x∈OJ,decode jdk_2101_method_21_code x.1= .ok (x.2.1,x.2.2):=by decide+kernel
def OM:List (Nat×Jvm.ClassFile.Instr×Nat):= [(0,.bipush 32,2),(2,.iload 5,2),(4,.isub,1),(5,.istore 6,2),(7,.aload_n 0,1),(8,.iload_n 1,1),(9,.iaload,1),(10,.istore 7,2),(12,.iconst 0,1),(13,.istore 8,2),(15,.iload 8,2),(17,.iload_n 2,1),(18,.iconst 1,1),(19,.isub,1),(20,.if_icmp .ge 39,3),(23,.iload 7,2),(25,.istore 9,2),(27,.aload_n 0,1),(28,.iinc 1 1,3),(31,.iload_n 1,1),(32,.iaload,1),(33,.istore 7,2),(35,.aload_n 3,1),(36,.iload 4,2),(38,.iload 8,2),(40,.iadd,1),(41,.iload 9,2),(43,.iload 5,2),(45,.ishl,1),(46,.iload 7,2),(48,.iload 6,2),(50,.iushr,1),(51,.ior,1),(52,.iastore,1),(53,.iinc 8 1,3),(56,.goto (-41),3),(59,.aload_n 3,1),(60,.iload 4,2),(62,.iload_n 2,1),(63,.iadd,1),(64,.iconst 1,1),(65,.isub,1),(66,.iload 7,2),(68,.iload 5,2),(70,.ishl,1),(71,.iastore,1),(72,.return_,1)]
theorem Dz: ∀x∈OM,decode jdk_2101_method_64_code x.1= .ok (x.2.1,x.2.2):=by decide+kernel
def OO:List (Nat×Jvm.ClassFile.Instr×Nat):= [(0,.iconst 0,1),(1,.istore_n 2,1),(2,.aload_n 0,1),(3,.arraylength,1),(4,.istore_n 3,1),(5,.iload_n 2,1),(6,.iload_n 3,1),(7,.if_icmp .ge 13,3),(10,.aload_n 0,1),(11,.iload_n 2,1),(12,.iload_n 1,1),(13,.iastore,1),(14,.iinc 2 1,3),(17,.goto (-12),3),(20,.return_,1)]
theorem DA: ∀x∈OO,decode jdk_65_method_103_code x.1= .ok (x.2.1,x.2.2):=by decide+kernel
def OQ:List (Nat×Jvm.ClassFile.Instr×Nat):= [(0,.aload_n 0,1),(1,.getfield 11,3),(4,.ifCond .gt 15,3),(7,.aload_n 0,1),(8,.getfield 17,3),(11,.arraylength,1),(12,.aload_n 0,1),(13,.getfield 21,3),(16,.if_icmp .eq 48,3),(19,.aload_n 0,1),(20,.getfield 17,3),(23,.aload_n 0,1),(24,.getfield 11,3),(27,.aload_n 0,1),(28,.getfield 11,3),(31,.aload_n 0,1),(32,.getfield 21,3),(35,.iadd,1),(36,.invokestatic 33,3),(39,.astore_n 1,1),(40,.aload_n 0,1),(41,.getfield 17,3),(44,.iconst 0,1),(45,.invokestatic 37,3),(48,.aload_n 0,1),(49,.iconst 0,1),(50,.putfield 11,3),(53,.aload_n 0,1),(54,.aload_n 1,1),(55,.arraylength,1),(56,.putfield 21,3),(59,.aload_n 0,1),(60,.aload_n 1,1),(61,.putfield 17,3),(64,.aload_n 0,1),(65,.getfield 17,3),(68,.areturn,1)]
theorem OU: ∀x∈OQ,decode jdk_2101_method_7_code x.1= .ok (x.2.1,x.2.2):=by decide+kernel
def OV:List (Nat×Jvm.ClassFile.Instr×Nat):= [(0,.aload_n 0,1),(1,.getfield 21,3),(4,.ifCond .eq 7,3),(7,.iload_n 1,1),(8,.ifCond .ne 7,3),(11,.getstatic 54,3),(14,.areturn,1),(15,.new 1,3),(18,.dup,1),(19,.aload_n 0,1),(20,.invokevirtual 58,3),(23,.iload_n 1,1),(24,.invokespecial 62,3),(27,.areturn,1)]
theorem wQ: ∀x∈OV,decode jdk_2101_method_9_code x.1= .ok (x.2.1,x.2.2):=by decide+kernel
def rQ:List (Nat×Jvm.ClassFile.Instr×Nat):= [(0,.iload_n 1,1),(1,.i2l,1),(2,.ldc2_w 52,3),(5,.land,1),(6,.lstore_n 3,1),(7,.aload_n 0,1),(8,.getfield 21,3),(11,.iconst 1,1),(12,.if_icmp .ne 67,3),(15,.aload_n 0,1),(16,.getfield 17,3),(19,.aload_n 0,1),(20,.getfield 11,3),(23,.iaload,1),(24,.i2l,1),(25,.ldc2_w 52,3),(28,.land,1),(29,.lstore 5,2),(31,.lload 5,2),(33,.lload_n 3,1),(34,.ldiv,1),(35,.l2i,1),(36,.istore 7,2),(38,.lload 5,2),(40,.iload 7,2),(42,.i2l,1),(43,.lload_n 3,1),(44,.lmul,1),(45,.lsub,1),(46,.l2i,1),(47,.istore 8,2),(49,.aload_n 2,1),(50,.getfield 17,3),(53,.iconst 0,1),(54,.iload 7,2),(56,.iastore,1),(57,.aload_n 2,1),(58,.iload 7,2),(60,.ifCond .ne 7,3),(63,.iconst 0,1),(64,.goto 4,3),(67,.iconst 1,1),(68,.putfield 21,3),(71,.aload_n 2,1),(72,.iconst 0,1),(73,.putfield 11,3),(76,.iload 8,2),(78,.ireturn,1),(79,.aload_n 2,1),(80,.getfield 17,3),(83,.arraylength,1),(84,.aload_n 0,1),(85,.getfield 21,3),(88,.if_icmp .ge 13,3),(91,.aload_n 2,1),(92,.aload_n 0,1),(93,.getfield 21,3),(96,.newarray .int,2),(98,.putfield 17,3),(101,.aload_n 2,1),(102,.iconst 0,1),(103,.putfield 11,3),(106,.aload_n 2,1),(107,.aload_n 0,1),(108,.getfield 21,3),(111,.putfield 21,3),(114,.iload_n 1,1),(115,.invokestatic 152,3),(118,.istore 5,2),(120,.aload_n 0,1),(121,.getfield 17,3),(124,.aload_n 0,1),(125,.getfield 11,3),(128,.iaload,1),(129,.istore 6,2),(131,.iload 6,2),(133,.i2l,1),(134,.ldc2_w 52,3),(137,.land,1),(138,.lstore 7,2),(140,.lload 7,2),(142,.lload_n 3,1),(143,.lcmp,1),(144,.ifCond .ge 13,3),(147,.aload_n 2,1),(148,.getfield 17,3),(151,.iconst 0,1),(152,.iconst 0,1),(153,.iastore,1),(154,.goto 38,3),(157,.aload_n 2,1),(158,.getfield 17,3),(161,.iconst 0,1),(162,.lload 7,2),(164,.lload_n 3,1),(165,.ldiv,1),(166,.l2i,1),(167,.iastore,1),(168,.lload 7,2),(170,.aload_n 2,1),(171,.getfield 17,3),(174,.iconst 0,1),(175,.iaload,1),(176,.i2l,1),(177,.lload_n 3,1),(178,.lmul,1),(179,.lsub,1),(180,.l2i,1),(181,.istore 6,2),(183,.iload 6,2),(185,.i2l,1),(186,.ldc2_w 52,3),(189,.land,1),(190,.lstore 7,2),(192,.aload_n 0,1),(193,.getfield 21,3),(196,.istore 9,2),(198,.iinc 9 (-1),3),(201,.iload 9,2),(203,.ifCond .le 112,3),(206,.lload 7,2),(208,.bipush 32,2),(210,.lshl,1),(211,.aload_n 0,1),(212,.getfield 17,3),(215,.aload_n 0,1),(216,.getfield 11,3),(219,.aload_n 0,1),(220,.getfield 21,3),(223,.iadd,1),(224,.iload 9,2),(226,.isub,1),(227,.iaload,1),(228,.i2l,1),(229,.ldc2_w 52,3),(232,.land,1),(233,.lor,1),(234,.lstore 10,2),(236,.lload 10,2),(238,.lconst 0,1),(239,.lcmp,1),(240,.ifCond .lt 24,3),(243,.lload 10,2),(245,.lload_n 3,1),(246,.ldiv,1),(247,.l2i,1),(248,.istore 12,2),(250,.lload 10,2),(252,.iload 12,2),(254,.i2l,1),(255,.lload_n 3,1),(256,.lmul,1),(257,.lsub,1),(258,.l2i,1),(259,.istore 6,2),(261,.goto 28,3),(264,.lload 10,2),(266,.iload_n 1,1),(267,.invokestatic 155,3),(270,.lstore 13,2),(272,.lload 13,2),(274,.ldc2_w 52,3),(277,.land,1),(278,.l2i,1),(279,.istore 12,2),(281,.lload 13,2),(283,.bipush 32,2),(285,.lushr,1),(286,.l2i,1),(287,.istore 6,2),(289,.aload_n 2,1),(290,.getfield 17,3),(293,.aload_n 0,1),(294,.getfield 21,3),(297,.iload 9,2),(299,.isub,1),(300,.iload 12,2),(302,.iastore,1),(303,.iload 6,2),(305,.i2l,1),(306,.ldc2_w 52,3),(309,.land,1),(310,.lstore 7,2),(312,.goto (-114),3),(315,.aload_n 2,1),(316,.invokevirtual 64,3),(319,.iload 5,2),(321,.ifCond .le 8,3),(324,.iload 6,2),(326,.iload_n 1,1),(327,.irem,1),(328,.ireturn,1),(329,.iload 6,2),(331,.ireturn,1)]
theorem OW: ∀x∈(rQ).take 40,decode jdk_2101_method_53_code x.1= .ok (x.2.1,x.2.2):=by decide+kernel
theorem OX: ∀x∈((rQ).drop 40).take 40,decode jdk_2101_method_53_code x.1= .ok (x.2.1,x.2.2):=by decide+kernel
theorem OY: ∀x∈(((rQ).drop 40).drop 40).take 40,decode jdk_2101_method_53_code x.1= .ok (x.2.1,x.2.2):=by decide+kernel
theorem OZ: ∀x∈((((rQ).drop 40).drop 40).drop 40).take 40,decode jdk_2101_method_53_code x.1= .ok (x.2.1,x.2.2):=by decide+kernel
theorem O6: ∀x∈((((rQ).drop 40).drop 40).drop 40).drop 40,decode jdk_2101_method_53_code x.1= .ok (x.2.1,x.2.2):=by decide+kernel
theorem wX: ∀x∈rQ,decode jdk_2101_method_53_code x.1= .ok (x.2.1,x.2.2):=(gJ 40 OW (gJ 40 OX (gJ 40 OY (gJ 40 OZ O6))))
def t_:List (Nat×Jvm.ClassFile.Instr×Nat):= [(0,.aload_n 1,1),(1,.getfield 21,3),(4,.ifCond .ne 13,3),(7,.new 170,3),(10,.dup,1),(11,.ldc 172,2),(13,.invokespecial 174,3),(16,.athrow,1),(17,.aload_n 0,1),(18,.getfield 21,3),(21,.ifCond .ne 29,3),(24,.aload_n 2,1),(25,.aload_n 2,1),(26,.iconst 0,1),(27,.dup_x1,1),(28,.putfield 11,3),(31,.putfield 21,3),(34,.iload_n 3,1),(35,.ifCond .eq 13,3),(38,.new 12,3),(41,.dup,1),(42,.invokespecial 177,3),(45,.goto 4,3),(48,.aconst_null,1),(49,.areturn,1),(50,.aload_n 0,1),(51,.aload_n 1,1),(52,.invokevirtual 142,3),(55,.istore 4,2),(57,.iload 4,2),(59,.ifCond .ge 30,3),(62,.aload_n 2,1),(63,.aload_n 2,1),(64,.iconst 0,1),(65,.dup_x1,1),(66,.putfield 11,3),(69,.putfield 21,3),(72,.iload_n 3,1),(73,.ifCond .eq 14,3),(76,.new 12,3),(79,.dup,1),(80,.aload_n 0,1),(81,.invokespecial 136,3),(84,.goto 4,3),(87,.aconst_null,1),(88,.areturn,1),(89,.iload 4,2),(91,.ifCond .ne 36,3),(94,.aload_n 2,1),(95,.getfield 17,3),(98,.iconst 0,1),(99,.aload_n 2,1),(100,.iconst 1,1),(101,.dup_x1,1),(102,.putfield 21,3),(105,.iastore,1),(106,.aload_n 2,1),(107,.iconst 0,1),(108,.putfield 11,3),(111,.iload_n 3,1),(112,.ifCond .eq 13,3),(115,.new 12,3),(118,.dup,1),(119,.invokespecial 177,3),(122,.goto 4,3),(125,.aconst_null,1),(126,.areturn,1),(127,.aload_n 2,1),(128,.invokevirtual 149,3),(131,.aload_n 1,1),(132,.getfield 21,3),(135,.iconst 1,1),(136,.if_icmp .ne 48,3),(139,.aload_n 0,1),(140,.aload_n 1,1),(141,.getfield 17,3),(144,.aload_n 1,1),(145,.getfield 11,3),(148,.iaload,1),(149,.aload_n 2,1),(150,.invokevirtual 178,3),(153,.istore 5,2),(155,.iload_n 3,1),(156,.ifCond .eq 26,3),(159,.iload 5,2),(161,.ifCond .ne 11,3),(164,.new 12,3),(167,.dup,1),(168,.invokespecial 177,3),(171,.areturn,1),(172,.new 12,3),(175,.dup,1),(176,.iload 5,2),(178,.invokespecial 182,3),(181,.areturn,1),(182,.aconst_null,1),(183,.areturn,1),(184,.aload_n 0,1),(185,.getfield 21,3),(188,.bipush 6,2),(190,.if_icmp .lt 74,3),(193,.aload_n 0,1),(194,.invokevirtual 184,3),(197,.aload_n 1,1),(198,.invokevirtual 184,3),(201,.invokestatic 130,3),(204,.istore 5,2),(206,.iload 5,2),(208,.bipush 96,2),(210,.if_icmp .lt 54,3),(213,.new 12,3),(216,.dup,1),(217,.aload_n 0,1),(218,.invokespecial 136,3),(221,.astore 6,2),(223,.new 12,3),(226,.dup,1),(227,.aload_n 1,1),(228,.invokespecial 136,3),(231,.astore_n 1,1),(232,.aload 6,2),(234,.iload 5,2),(236,.invokevirtual 108,3),(239,.aload_n 1,1),(240,.iload 5,2),(242,.invokevirtual 108,3),(245,.aload 6,2),(247,.aload_n 1,1),(248,.aload_n 2,1),(249,.invokevirtual 188,3),(252,.astore 7,2),(254,.aload 7,2),(256,.iload 5,2),(258,.invokevirtual 121,3),(261,.aload 7,2),(263,.areturn,1),(264,.aload_n 0,1),(265,.aload_n 1,1),(266,.aload_n 2,1),(267,.iload_n 3,1),(268,.invokevirtual 190,3),(271,.areturn,1)]
theorem O7: ∀x∈(t_).take 40,decode jdk_2101_method_57_code x.1= .ok (x.2.1,x.2.2):=by decide+kernel
theorem O8: ∀x∈((t_).drop 40).take 40,decode jdk_2101_method_57_code x.1= .ok (x.2.1,x.2.2):=by decide+kernel
theorem O9: ∀x∈(((t_).drop 40).drop 40).take 40,decode jdk_2101_method_57_code x.1= .ok (x.2.1,x.2.2):=by decide+kernel
theorem O_: ∀x∈(((t_).drop 40).drop 40).drop 40,decode jdk_2101_method_57_code x.1= .ok (x.2.1,x.2.2):=by decide+kernel
theorem DE: ∀x∈t_,decode jdk_2101_method_57_code x.1= .ok (x.2.1,x.2.2):=(gJ 40 O7 (gJ 40 O8 (gJ 40 O9 O_)))
def Pf:List (Nat×Jvm.ClassFile.Instr×Nat):= [(0,.aload_n 0,1),(1,.aload_n 1,1),(2,.aload_n 2,1),(3,.iconst 1,1),(4,.invokevirtual 163,3),(7,.areturn,1)]
theorem Pg: ∀x∈Pf,decode jdk_2101_method_56_code x.1= .ok (x.2.1,x.2.2):=by decide+kernel
def Ph:List (Nat×Jvm.ClassFile.Instr×Nat):= [(0,.iconst 2,1),(1,.anewarray 23,3),(4,.astore_n 2,1),(5,.new 541,3),(8,.dup,1),(9,.invokespecial 543,3),(12,.astore_n 3,1),(13,.new 541,3),(16,.dup,1),(17,.aload_n 0,1),(18,.getfield 28,3),(21,.invokespecial 544,3),(24,.astore 4,2),(26,.new 541,3),(29,.dup,1),(30,.aload_n 1,1),(31,.getfield 28,3),(34,.invokespecial 544,3),(37,.astore 5,2),(39,.aload 4,2),(41,.aload 5,2),(43,.aload_n 3,1),(44,.invokevirtual 558,3),(47,.astore 6,2),(49,.aload_n 2,1),(50,.iconst 0,1),(51,.aload_n 3,1),(52,.aload_n 0,1),(53,.getfield 32,3),(56,.aload_n 1,1),(57,.getfield 32,3),(60,.if_icmp .ne 7,3),(63,.iconst 1,1),(64,.goto 4,3),(67,.iconst (-1),1),(68,.invokevirtual 548,3),(71,.aastore,1),(72,.aload_n 2,1),(73,.iconst 1,1),(74,.aload 6,2),(76,.aload_n 0,1),(77,.getfield 32,3),(80,.invokevirtual 548,3),(83,.aastore,1),(84,.aload_n 2,1),(85,.areturn,1)]
theorem DF: ∀x∈Ph,decode jdk_2097_method_64_code x.1= .ok (x.2.1,x.2.2):=by decide+kernel
def Pj:List (Nat×Jvm.ClassFile.Instr×Nat):= [(0,.aload_n 1,1),(1,.getfield 28,3),(4,.arraylength,1),(5,.bipush 80,2),(7,.if_icmp .lt 19,3),(10,.aload_n 0,1),(11,.getfield 28,3),(14,.arraylength,1),(15,.aload_n 1,1),(16,.getfield 28,3),(19,.arraylength,1),(20,.isub,1),(21,.bipush 40,2),(23,.if_icmp .ge 9,3),(26,.aload_n 0,1),(27,.aload_n 1,1),(28,.invokevirtual 551,3),(31,.areturn,1),(32,.aload_n 0,1),(33,.aload_n 1,1),(34,.invokevirtual 555,3),(37,.areturn,1)]
theorem Pk: ∀x∈Pj,decode jdk_2097_method_63_code x.1= .ok (x.2.1,x.2.2):=by decide+kernel
def ug:List (Nat×Jvm.ClassFile.Instr×Nat):= [(0,.aload_n 0,1),(1,.arraylength,1),(2,.aload_n 1,1),(3,.arraylength,1),(4,.if_icmp .ge 9,3),(7,.aload_n 0,1),(8,.astore_n 2,1),(9,.aload_n 1,1),(10,.astore_n 0,1),(11,.aload_n 2,1),(12,.astore_n 1,1),(13,.aload_n 0,1),(14,.arraylength,1),(15,.istore_n 2,1),(16,.aload_n 1,1),(17,.arraylength,1),(18,.istore_n 3,1),(19,.iload_n 2,1),(20,.newarray .int,2),(22,.astore 4,2),(24,.lconst 0,1),(25,.lstore 5,2),(27,.iload_n 3,1),(28,.iconst 1,1),(29,.if_icmp .ne 35,3),(32,.aload_n 0,1),(33,.iinc 2 (-1),3),(36,.iload_n 2,1),(37,.iaload,1),(38,.i2l,1),(39,.ldc2_w 130,3),(42,.land,1),(43,.aload_n 1,1),(44,.iconst 0,1),(45,.iaload,1),(46,.i2l,1),(47,.ldc2_w 130,3),(50,.land,1),(51,.ladd,1),(52,.lstore 5,2),(54,.aload 4,2),(56,.iload_n 2,1),(57,.lload 5,2),(59,.l2i,1),(60,.iastore,1),(61,.goto 48,3),(64,.iload_n 3,1),(65,.ifCond .le 44,3),(68,.aload_n 0,1),(69,.iinc 2 (-1),3),(72,.iload_n 2,1),(73,.iaload,1),(74,.i2l,1),(75,.ldc2_w 130,3),(78,.land,1),(79,.aload_n 1,1),(80,.iinc 3 (-1),3),(83,.iload_n 3,1),(84,.iaload,1),(85,.i2l,1),(86,.ldc2_w 130,3),(89,.land,1),(90,.ladd,1),(91,.lload 5,2),(93,.bipush 32,2),(95,.lushr,1),(96,.ladd,1),(97,.lstore 5,2),(99,.aload 4,2),(101,.iload_n 2,1),(102,.lload 5,2),(104,.l2i,1),(105,.iastore,1),(106,.goto (-42),3),(109,.lload 5,2),(111,.bipush 32,2),(113,.lushr,1),(114,.lconst 0,1),(115,.lcmp,1),(116,.ifCond .eq 7,3),(119,.iconst 1,1),(120,.goto 4,3),(123,.iconst 0,1),(124,.istore 7,2),(126,.iload_n 2,1),(127,.ifCond .le 34,3),(130,.iload 7,2),(132,.ifCond .eq 29,3),(135,.aload 4,2),(137,.iinc 2 (-1),3),(140,.iload_n 2,1),(141,.aload_n 0,1),(142,.iload_n 2,1),(143,.iaload,1),(144,.iconst 1,1),(145,.iadd,1),(146,.dup_x2,1),(147,.iastore,1),(148,.ifCond .ne 7,3),(151,.iconst 1,1),(152,.goto 4,3),(155,.iconst 0,1),(156,.istore 7,2),(158,.goto (-32),3),(161,.iload_n 2,1),(162,.ifCond .le 16,3),(165,.aload 4,2),(167,.iinc 2 (-1),3),(170,.iload_n 2,1),(171,.aload_n 0,1),(172,.iload_n 2,1),(173,.iaload,1),(174,.iastore,1),(175,.goto (-14),3),(178,.iload 7,2),(180,.ifCond .eq 32,3),(183,.aload 4,2),(185,.arraylength,1),(186,.iconst 1,1),(187,.iadd,1),(188,.newarray .int,2),(190,.astore 8,2),(192,.aload 4,2),(194,.iconst 0,1),(195,.aload 8,2),(197,.iconst 1,1),(198,.aload 4,2),(200,.arraylength,1),(201,.invokestatic 388,3),(204,.aload 8,2),(206,.iconst 0,1),(207,.iconst 1,1),(208,.iastore,1),(209,.aload 8,2),(211,.areturn,1),(212,.aload 4,2),(214,.areturn,1)]
theorem Pu: ∀x∈(ug).take 40,decode jdk_2097_method_35_code x.1= .ok (x.2.1,x.2.2):=by decide+kernel
theorem Pv: ∀x∈((ug).drop 40).take 40,decode jdk_2097_method_35_code x.1= .ok (x.2.1,x.2.2):=by decide+kernel
theorem Pw: ∀x∈(((ug).drop 40).drop 40).take 40,decode jdk_2097_method_35_code x.1= .ok (x.2.1,x.2.2):=by decide+kernel
theorem Px: ∀x∈(((ug).drop 40).drop 40).drop 40,decode jdk_2097_method_35_code x.1= .ok (x.2.1,x.2.2):=by decide+kernel
theorem wY: ∀x∈ug,decode jdk_2097_method_35_code x.1= .ok (x.2.1,x.2.2):=(gJ 40 Pu (gJ 40 Pv (gJ 40 Pw Px)))
def Py:List (Nat×Jvm.ClassFile.Instr×Nat):= [(0,.aload_n 1,1),(1,.getfield 32,3),(4,.ifCond .ne 5,3),(7,.aload_n 0,1),(8,.areturn,1),(9,.aload_n 0,1),(10,.getfield 32,3),(13,.ifCond .ne 5,3),(16,.aload_n 1,1),(17,.areturn,1),(18,.aload_n 1,1),(19,.getfield 32,3),(22,.aload_n 0,1),(23,.getfield 32,3),(26,.if_icmp .ne 26,3),(29,.new 23,3),(32,.dup,1),(33,.aload_n 0,1),(34,.getfield 28,3),(37,.aload_n 1,1),(38,.getfield 28,3),(41,.invokestatic 362,3),(44,.aload_n 0,1),(45,.getfield 32,3),(48,.invokespecial 175,3),(51,.areturn,1),(52,.aload_n 0,1),(53,.aload_n 1,1),(54,.invokevirtual 365,3),(57,.istore_n 2,1),(58,.iload_n 2,1),(59,.ifCond .ne 7,3),(62,.getstatic 22,3),(65,.areturn,1),(66,.iload_n 2,1),(67,.ifCond .le 17,3),(70,.aload_n 0,1),(71,.getfield 28,3),(74,.aload_n 1,1),(75,.getfield 28,3),(78,.invokestatic 368,3),(81,.goto 14,3),(84,.aload_n 1,1),(85,.getfield 28,3),(88,.aload_n 0,1),(89,.getfield 28,3),(92,.invokestatic 368,3),(95,.astore_n 3,1),(96,.aload_n 3,1),(97,.invokestatic 53,3),(100,.astore_n 3,1),(101,.new 23,3),(104,.dup,1),(105,.aload_n 3,1),(106,.iload_n 2,1),(107,.aload_n 0,1),(108,.getfield 32,3),(111,.if_icmp .ne 7,3),(114,.iconst 1,1),(115,.goto 4,3),(118,.iconst (-1),1),(119,.invokespecial 175,3),(122,.areturn,1)]
theorem uh: ∀x∈Py,decode jdk_2097_method_32_code x.1= .ok (x.2.1,x.2.2):=by decide+kernel
def PJ:List (Nat×Jvm.ClassFile.Instr×Nat):= [(0,.aload_n 0,1),(1,.getfield 28,3),(4,.astore_n 2,1),(5,.aload_n 2,1),(6,.arraylength,1),(7,.istore_n 3,1),(8,.aload_n 1,1),(9,.getfield 28,3),(12,.astore 4,2),(14,.aload 4,2),(16,.arraylength,1),(17,.istore 5,2),(19,.iload_n 3,1),(20,.iload 5,2),(22,.if_icmp .ge 5,3),(25,.iconst (-1),1),(26,.ireturn,1),(27,.iload_n 3,1),(28,.iload 5,2),(30,.if_icmp .le 5,3),(33,.iconst 1,1),(34,.ireturn,1),(35,.iconst 0,1),(36,.istore 6,2),(38,.iload 6,2),(40,.iload_n 3,1),(41,.if_icmp .ge 53,3),(44,.aload_n 2,1),(45,.iload 6,2),(47,.iaload,1),(48,.istore 7,2),(50,.aload 4,2),(52,.iload 6,2),(54,.iaload,1),(55,.istore 8,2),(57,.iload 7,2),(59,.iload 8,2),(61,.if_icmp .eq 27,3),(64,.iload 7,2),(66,.i2l,1),(67,.ldc2_w 130,3),(70,.land,1),(71,.iload 8,2),(73,.i2l,1),(74,.ldc2_w 130,3),(77,.land,1),(78,.lcmp,1),(79,.ifCond .ge 7,3),(82,.iconst (-1),1),(83,.goto 4,3),(86,.iconst 1,1),(87,.ireturn,1),(88,.iinc 6 1,3),(91,.goto (-53),3),(94,.iconst 0,1),(95,.ireturn,1)]
theorem DH: ∀x∈PJ,decode jdk_2097_method_122_code x.1= .ok (x.2.1,x.2.2):=by decide+kernel
def PO:List (Nat×Jvm.ClassFile.Instr×Nat):= [(0,.aload_n 0,1),(1,.getfield 32,3),(4,.aload_n 1,1),(5,.getfield 32,3),(8,.if_icmp .ne 50,3),(11,.aload_n 0,1),(12,.getfield 32,3),(40,.aload_n 0,1),(41,.aload_n 1,1),(42,.invokevirtual 365,3),(45,.goto 12,3),(48,.aload_n 1,1),(49,.aload_n 0,1),(50,.invokevirtual 365,3),(53,.goto 4,3),(56,.iconst 0,1),(57,.ireturn,1),(58,.aload_n 0,1),(59,.getfield 32,3),(62,.aload_n 1,1),(63,.getfield 32,3),(66,.if_icmp .le 7,3),(69,.iconst 1,1),(70,.goto 4,3),(73,.iconst (-1),1),(74,.ireturn,1),(15,.lookupswitch 41 #[(-1,33),(1,25)],25)]
theorem DJ: ∀x∈PO,decode jdk_2097_method_121_code x.1= .ok (x.2.1,x.2.2):=by decide+kernel
def P7:List (Nat×Jvm.ClassFile.Instr×Nat):= [(0,.lload_n 0,1),(1,.invokestatic 35,3),(4,.lload 4,2),(6,.invokestatic 35,3),(9,.invokevirtual 41,3),(12,.lload_n 2,1),(13,.invokestatic 35,3),(16,.invokevirtual 45,3),(19,.astore 6,2),(21,.aload 6,2),(23,.iconst 1,1),(24,.aaload,1),(25,.invokevirtual 49,3),(28,.ifCond .ne 10,3),(31,.aload 6,2),(33,.iconst 0,1),(34,.aaload,1),(35,.goto 13,3),(38,.aload 6,2),(40,.iconst 0,1),(41,.aaload,1),(42,.getstatic 53,3),(45,.invokevirtual 57,3),(48,.astore 7,2),(50,.aload 7,2),(52,.ldc2_w 60,3),(55,.invokestatic 35,3),(58,.invokevirtual 62,3),(61,.ifCond .le 20,3),(64,.new 19,3),(67,.dup,1),(68,.lload_n 0,1),(69,.lload_n 2,1),(70,.lload 4,2),(77,.invokespecial 25,3),(80,.athrow,1),(81,.aload 7,2),(83,.invokevirtual 69,3),(86,.lreturn,1)]
theorem DL: ∀x∈P7,decode prog_1_method_4_code x.1= .ok (x.2.1,x.2.2):=by decide+kernel
theorem qY:parseMethodDescriptor "(JJ)J"=some ⟨[.long,.long],some .long⟩:=by decide+kernel
theorem pJ:parseMethodDescriptor "()V"=some ⟨[],none⟩:=by decide+kernel
theorem P9:parseMethodDescriptor "(J)V"=some ⟨[.long],none⟩:=by decide+kernel
theorem P_:parseMethodDescriptor "(IIILjava/util/function/BiFunction;)I"=some ⟨[.int,.int,.int,(.object "java/util/function/BiFunction")],some .int⟩:=by decide+kernel
theorem w_:parseMethodDescriptor "(II)V"=some ⟨[.int,.int],none⟩:=by decide+kernel
theorem xg:parseMethodDescriptor "(II)I"=some ⟨[.int,.int],some .int⟩:=by decide+kernel
theorem pL:parseMethodDescriptor "([III)[I"=some ⟨[(.array .int),.int,.int],some (.array .int)⟩:=by decide+kernel
theorem qG:parseMethodDescriptor "(III)I"=some ⟨[.int,.int,.int],some .int⟩:=by decide+kernel
theorem xt:parseMethodDescriptor "([I[IIII)V"=some ⟨[(.array .int),(.array .int),.int,.int,.int],none⟩:=by decide+kernel
theorem mX:parseMethodDescriptor "(I)I"=some ⟨[.int],some .int⟩:=by decide+kernel
theorem DV:parseMethodDescriptor "([II)[I"=some ⟨[(.array .int),.int],some (.array .int)⟩:=by decide+kernel
theorem ke:parseMethodDescriptor "([II)V"=some ⟨[(.array .int),.int],none⟩:=by decide+kernel
theorem Qa:parseMethodDescriptor "(Ljava/lang/Object;)Ljava/lang/Object;"=some ⟨[(.object "java/lang/Object")],some (.object "java/lang/Object")⟩:=by decide+kernel
theorem DW:parseMethodDescriptor "([II[II[I)[I"=some ⟨[(.array .int),.int,(.array .int),.int,(.array .int)],some (.array .int)⟩:=by decide+kernel
theorem zh:parseMethodDescriptor "([III)Ljava/math/BigInteger;"=some ⟨[(.array .int),.int,.int],some (.object "java/math/BigInteger")⟩:=by decide+kernel
theorem DX:parseMethodDescriptor "([I)[I"=some ⟨[(.array .int)],some (.array .int)⟩:=by decide+kernel
theorem Qb:parseMethodDescriptor "(Ljava/math/BigInteger;ZZI)Ljava/math/BigInteger;"=some ⟨[(.object "java/math/BigInteger"),.boolean,.boolean,.int],some (.object "java/math/BigInteger")⟩:=by decide+kernel
theorem DY:parseMethodDescriptor "()I"=some ⟨[],some .int⟩:=by decide+kernel
theorem zj:parseMethodDescriptor "(JI)J"=some ⟨[.long,.int],some .long⟩:=by decide+kernel
theorem xu:parseMethodDescriptor "(JJ)Z"=some ⟨[.long,.long],some .boolean⟩:=by decide+kernel
theorem DZ:parseMethodDescriptor "([I[IIII)I"=some ⟨[(.array .int),(.array .int),.int,.int,.int],some .int⟩:=by decide+kernel
theorem xB:parseMethodDescriptor "(I)V"=some ⟨[.int],none⟩:=by decide+kernel
theorem Qd:parseMethodDescriptor "()[I"=some ⟨[],some (.array .int)⟩:=by decide+kernel
theorem D_:parseMethodDescriptor "([III[III)V"=some ⟨[(.array .int),.int,.int,(.array .int),.int,.int],none⟩:=by decide+kernel
theorem xD:parseMethodDescriptor "([I)V"=some ⟨[(.array .int)],none⟩:=by decide+kernel
theorem Ea:parseMethodDescriptor "(Ljava/math/MutableBigInteger;)V"=some ⟨[(.object "java/math/MutableBigInteger")],none⟩:=by decide+kernel
theorem Eb:parseMethodDescriptor "(Ljava/math/MutableBigInteger;Ljava/math/MutableBigInteger;Z)Ljava/math/MutableBigInteger;"=some ⟨[(.object "java/math/MutableBigInteger"),(.object "java/math/MutableBigInteger"),.boolean],some (.object "java/math/MutableBigInteger")⟩:=by decide+kernel
theorem Ec:parseMethodDescriptor "(ILjava/math/MutableBigInteger;)I"=some ⟨[.int,(.object "java/math/MutableBigInteger")],some .int⟩:=by decide+kernel
theorem xG:parseMethodDescriptor "(Ljava/math/MutableBigInteger;)I"=some ⟨[(.object "java/math/MutableBigInteger")],some .int⟩:=by decide+kernel
theorem Qe:parseMethodDescriptor "(Ljava/math/MutableBigInteger;Ljava/math/MutableBigInteger;)Ljava/math/MutableBigInteger;"=some ⟨[(.object "java/math/MutableBigInteger"),(.object "java/math/MutableBigInteger")],some (.object "java/math/MutableBigInteger")⟩:=by decide+kernel
theorem xH:parseMethodDescriptor "(I)Ljava/math/BigInteger;"=some ⟨[.int],some (.object "java/math/BigInteger")⟩:=by decide+kernel
theorem Ed:parseMethodDescriptor "(Ljava/math/BigInteger;)[Ljava/math/BigInteger;"=some ⟨[(.object "java/math/BigInteger")],some (.array (.object "java/math/BigInteger"))⟩:=by decide+kernel
theorem Ef:parseMethodDescriptor "([I[I)[I"=some ⟨[(.array .int),(.array .int)],some (.array .int)⟩:=by decide+kernel
theorem Eh:parseMethodDescriptor "(Ljava/math/BigInteger;)I"=some ⟨[(.object "java/math/BigInteger")],some .int⟩:=by decide+kernel
theorem xI:parseMethodDescriptor "(J)Ljava/math/BigInteger;"=some ⟨[.long],some (.object "java/math/BigInteger")⟩:=by decide+kernel
theorem Ei:parseMethodDescriptor "(Ljava/math/BigInteger;)Ljava/math/BigInteger;"=some ⟨[(.object "java/math/BigInteger")],some (.object "java/math/BigInteger")⟩:=by decide+kernel
theorem Qf:parseMethodDescriptor "()J"=some ⟨[],some .long⟩:=by decide+kernel
theorem zk:parseMethodDescriptor "(JJJJ)I"=some ⟨[.long,.long,.long,.long],some .int⟩:=by decide+kernel
theorem Qg:parseMethodDescriptor "(JJJ)J"=some ⟨[.long,.long,.long],some .long⟩:=by decide+kernel
theorem xJ:plainName "com/example/nuthatch/nuthatch/ArgumentsRequireFillMillisPinLaw"=true:=by first|(simp[plainName,overriddenIn];done)|decide+kernel
theorem Qh:plainName "java/lang/Number"=true:=by first|(simp[plainName,overriddenIn];done)|decide+kernel
theorem gF:plainName "java/math/BigInteger"=true:=by first|(simp[plainName,overriddenIn];done)|decide+kernel
theorem zm:plainName "java/lang/Integer"=true:=by first|(simp[plainName,overriddenIn];done)|decide+kernel
theorem og:plainName "java/util/Arrays"=true:=by first|(simp[plainName,overriddenIn];done)|decide+kernel
theorem Qi:plainName "jdk/internal/util/Preconditions"=true:=by first|(simp[plainName,overriddenIn];done)|decide+kernel
theorem Ej:plainName "java/util/Objects"=true:=by first|(simp[plainName,overriddenIn];done)|decide+kernel
theorem jy:plainName "java/math/MutableBigInteger"=true:=by first|(simp[plainName,overriddenIn];done)|decide+kernel
theorem Qj:plainName "com/example/nuthatch/nuthatch/Arguments"=true:=by first|(simp[plainName,overriddenIn];done)|decide+kernel
theorem Qk (m:MethodId)(x0:Int64)(x1:Int64):entryFrame m #[(.long x0),(.long x1)] 4=mkF m 0 #[.val (.long x0),.second,.val (.long x1),.second] []:=by first|(simp[entryFrame,mkF,argsToLocals,Value.category];done)|rfl
theorem Ql (m:MethodId)(x0:Int64)(x1:Int64):entryFrame m #[(.long x0),(.long x1)] 20=mkF m 0 #[.val (.long x0),.second,.val (.long x1),.second,.unset,.unset,.unset,.unset,.unset,.unset,.unset,.unset,.unset,.unset,.unset,.unset,.unset,.unset,.unset,.unset] []:=by first|(simp[entryFrame,mkF,argsToLocals,Value.category];done)|rfl
theorem Qm (m:MethodId)(x0:Int64)(x1:Int64):entryFrame m #[(.long x0),(.long x1)] 18=mkF m 0 #[.val (.long x0),.second,.val (.long x1),.second,.unset,.unset,.unset,.unset,.unset,.unset,.unset,.unset,.unset,.unset,.unset,.unset,.unset,.unset] []:=by first|(simp[entryFrame,mkF,argsToLocals,Value.category];done)|rfl
theorem Qn (m:MethodId)(x0:Int64)(x1:Int64)(x2:Int64)(x3:Int64):entryFrame m #[(.long x0),(.long x1),(.long x2),(.long x3)] 16=mkF m 0 #[.val (.long x0),.second,.val (.long x1),.second,.val (.long x2),.second,.val (.long x3),.second,.unset,.unset,.unset,.unset,.unset,.unset,.unset,.unset] []:=by first|(simp[entryFrame,mkF,argsToLocals,Value.category];done)|rfl
theorem Qo (m:MethodId)(x0:Addr):entryFrame m #[(.ref x0)] 1=mkF m 0 #[.val (.ref x0)] []:=by first|(simp[entryFrame,mkF,argsToLocals,Value.category];done)|rfl
theorem Qp (m:MethodId)(x0:Addr)(x1:Int64):entryFrame m #[(.ref x0),(.long x1)] 4=mkF m 0 #[.val (.ref x0),.val (.long x1),.second,.unset] []:=by first|(simp[entryFrame,mkF,argsToLocals,Value.category];done)|rfl
theorem Qs (m:MethodId)(x0:Int64):entryFrame m #[(.long x0)] 2=mkF m 0 #[.val (.long x0),.second] []:=by first|(simp[entryFrame,mkF,argsToLocals,Value.category];done)|rfl
theorem Qt (m:MethodId)(x0:Int32):entryFrame m #[(.int x0)] 1=mkF m 0 #[.val (.int x0)] []:=by first|(simp[entryFrame,mkF,argsToLocals,Value.category];done)|rfl
theorem Qu (m:MethodId)(x0:Int32):entryFrame m #[(.int x0)] 2=mkF m 0 #[.val (.int x0),.unset] []:=by first|(simp[entryFrame,mkF,argsToLocals,Value.category];done)|rfl
theorem Qv (m:MethodId)(x0:Int32)(x1:Int32):entryFrame m #[(.int x0),(.int x1)] 2=mkF m 0 #[.val (.int x0),.val (.int x1)] []:=by first|(simp[entryFrame,mkF,argsToLocals,Value.category];done)|rfl
theorem Qw (m:MethodId)(x0:Int32)(x1:Int32):entryFrame m #[(.int x0),(.int x1)] 2=mkF m 0 #[.val (.int x0),.val (.int x1)] []:=by first|(simp[entryFrame,mkF,argsToLocals,Value.category];done)|rfl
theorem Qx (m:MethodId)(x0:Int32)(x1:Int32)(x2:Int32):entryFrame m #[(.int x0),(.int x1),(.int x2),.null] 4=mkF m 0 #[.val (.int x0),.val (.int x1),.val (.int x2),.val .null] []:=by first|(simp[entryFrame,mkF,argsToLocals,Value.category];done)|rfl
theorem Qy (m:MethodId)(x0:Int32)(x1:Int32)(x2:Int32):entryFrame m #[(.int x0),(.int x1),(.int x2)] 3=mkF m 0 #[.val (.int x0),.val (.int x1),.val (.int x2)] []:=by first|(simp[entryFrame,mkF,argsToLocals,Value.category];done)|rfl
theorem Qz (m:MethodId)(x0:Addr)(x1:Int32)(x2:Int32):entryFrame m #[(.ref x0),(.int x1),(.int x2)] 5=mkF m 0 #[.val (.ref x0),.val (.int x1),.val (.int x2),.unset,.unset] []:=by first|(simp[entryFrame,mkF,argsToLocals,Value.category];done)|rfl
theorem QI (m:MethodId)(x0:Addr)(x1:Int32)(x2:Int32):entryFrame m #[(.ref x0),(.int x1),(.int x2)] 3=mkF m 0 #[.val (.ref x0),.val (.int x1),.val (.int x2)] []:=by first|(simp[entryFrame,mkF,argsToLocals,Value.category];done)|rfl
theorem QJ (m:MethodId)(x0:Addr)(x1:Int32)(x2:Int32):entryFrame m #[(.ref x0),(.int x1),(.int x2)] 5=mkF m 0 #[.val (.ref x0),.val (.int x1),.val (.int x2),.unset,.unset] []:=by first|(simp[entryFrame,mkF,argsToLocals,Value.category];done)|rfl
theorem QO (m:MethodId)(x0:Addr)(x1:Int32)(x2:Int32):entryFrame m #[(.ref x0),(.int x1),(.int x2)] 3=mkF m 0 #[.val (.ref x0),.val (.int x1),.val (.int x2)] []:=by first|(simp[entryFrame,mkF,argsToLocals,Value.category];done)|rfl
theorem QV (m:MethodId)(x0:Addr)(x1:Int32)(x2:Int32):entryFrame m #[(.ref x0),(.int x1),(.int x2)] 5=mkF m 0 #[.val (.ref x0),.val (.int x1),.val (.int x2),.unset,.unset] []:=by first|(simp[entryFrame,mkF,argsToLocals,Value.category];done)|rfl
theorem QW (m:MethodId)(x0:Addr)(x1:Int32)(x2:Int32):entryFrame m #[(.ref x0),(.int x1),(.int x2)] 3=mkF m 0 #[.val (.ref x0),.val (.int x1),.val (.int x2)] []:=by first|(simp[entryFrame,mkF,argsToLocals,Value.category];done)|rfl
theorem QZ (m:MethodId)(x0:Addr)(x1:Addr)(x2:Int32):entryFrame m #[(.ref x0),(.ref x1),(.int x2)] 3=mkF m 0 #[.val (.ref x0),.val (.ref x1),.val (.int x2)] []:=by first|(simp[entryFrame,mkF,argsToLocals,Value.category];done)|rfl
theorem Q5 (m:MethodId)(x0:Addr)(x1:Addr)(x2:Int32)(x3:Int32)(x4:Int32):entryFrame m #[(.ref x0),(.ref x1),(.int x2),(.int x3),(.int x4)] 7=mkF m 0 #[.val (.ref x0),.val (.ref x1),.val (.int x2),.val (.int x3),.val (.int x4),.unset,.unset] []:=by first|(simp[entryFrame,mkF,argsToLocals,Value.category];done)|rfl
theorem Q7 (m:MethodId)(x0:Addr)(x1:Addr)(x2:Int32)(x3:Int32)(x4:Int32):entryFrame m #[(.ref x0),(.ref x1),(.int x2),(.int x3),(.int x4)] 7=mkF m 0 #[.val (.ref x0),.val (.ref x1),.val (.int x2),.val (.int x3),.val (.int x4),.unset,.unset] []:=by first|(simp[entryFrame,mkF,argsToLocals,Value.category];done)|rfl
theorem Q_ (m:MethodId)(x0:Addr)(x1:Addr)(x2:Int32)(x3:Int32)(x4:Int32):entryFrame m #[(.ref x0),(.ref x1),(.int x2),(.int x3),(.int x4)] 7=mkF m 0 #[.val (.ref x0),.val (.ref x1),.val (.int x2),.val (.int x3),.val (.int x4),.unset,.unset] []:=by first|(simp[entryFrame,mkF,argsToLocals,Value.category];done)|rfl
theorem Rg (m:MethodId)(x0:Addr)(x1:Addr)(x2:Int32)(x3:Int32)(x4:Int32):entryFrame m #[(.ref x0),(.ref x1),(.int x2),(.int x3),(.int x4)] 7=mkF m 0 #[.val (.ref x0),.val (.ref x1),.val (.int x2),.val (.int x3),.val (.int x4),.unset,.unset] []:=by first|(simp[entryFrame,mkF,argsToLocals,Value.category];done)|rfl
theorem Rh (m:MethodId)(x0:Addr)(x1:Int32):entryFrame m #[(.ref x0),(.int x1)] 10=mkF m 0 #[.val (.ref x0),.val (.int x1),.unset,.unset,.unset,.unset,.unset,.unset,.unset,.unset] []:=by first|(simp[entryFrame,mkF,argsToLocals,Value.category];done)|rfl
theorem Ri (m:MethodId)(x0:Addr)(x1:Int32):entryFrame m #[(.ref x0),(.int x1)] 10=mkF m 0 #[.val (.ref x0),.val (.int x1),.unset,.unset,.unset,.unset,.unset,.unset,.unset,.unset] []:=by first|(simp[entryFrame,mkF,argsToLocals,Value.category];done)|rfl
theorem Rj (m:MethodId)(x0:Addr)(x1:Int32)(x2:Int32):entryFrame m #[(.ref x0),(.int x1),(.int x2)] 13=mkF m 0 #[.val (.ref x0),.val (.int x1),.val (.int x2),.unset,.unset,.unset,.unset,.unset,.unset,.unset,.unset,.unset,.unset] []:=by first|(simp[entryFrame,mkF,argsToLocals,Value.category];done)|rfl
theorem Rn (m:MethodId)(x0:Addr)(x1:Int32)(x2:Int32):entryFrame m #[(.ref x0),(.int x1),(.int x2)] 13=mkF m 0 #[.val (.ref x0),.val (.int x1),.val (.int x2),.unset,.unset,.unset,.unset,.unset,.unset,.unset,.unset,.unset,.unset] []:=by first|(simp[entryFrame,mkF,argsToLocals,Value.category];done)|rfl
theorem Ro (m:MethodId)(x0:Addr):entryFrame m #[(.ref x0)] 1=mkF m 0 #[.val (.ref x0)] []:=by first|(simp[entryFrame,mkF,argsToLocals,Value.category];done)|rfl
theorem Rp (m:MethodId)(x0:Addr)(x1:Int32):entryFrame m #[(.ref x0),(.int x1)] 2=mkF m 0 #[.val (.ref x0),.val (.int x1)] []:=by first|(simp[entryFrame,mkF,argsToLocals,Value.category];done)|rfl
theorem Rq (m:MethodId)(x0:Addr)(x1:Int32)(x2:Addr)(x3:Int32):entryFrame m #[(.ref x0),(.int x1),(.ref x2),(.int x3),.null] 14=mkF m 0 #[.val (.ref x0),.val (.int x1),.val (.ref x2),.val (.int x3),.val .null,.unset,.unset,.unset,.unset,.unset,.unset,.unset,.unset,.unset] []:=by first|(simp[entryFrame,mkF,argsToLocals,Value.category];done)|rfl
theorem Rr (m:MethodId)(x0:Addr)(x1:Int32)(x2:Addr)(x3:Int32):entryFrame m #[(.ref x0),(.int x1),(.ref x2),(.int x3),.null] 5=mkF m 0 #[.val (.ref x0),.val (.int x1),.val (.ref x2),.val (.int x3),.val .null] []:=by first|(simp[entryFrame,mkF,argsToLocals,Value.category];done)|rfl
theorem Rt (m:MethodId)(x0:Addr):entryFrame m #[(.ref x0)] 3=mkF m 0 #[.val (.ref x0),.unset,.unset] []:=by first|(simp[entryFrame,mkF,argsToLocals,Value.category];done)|rfl
theorem Rx (m:MethodId)(x0:Addr):entryFrame m #[(.ref x0)] 3=mkF m 0 #[.val (.ref x0),.unset,.unset] []:=by first|(simp[entryFrame,mkF,argsToLocals,Value.category];done)|rfl
theorem Ry (m:MethodId)(x0:Addr)(x1:Addr)(x2:Int32)(x3:Int32)(x4:Int32):entryFrame m #[(.ref x0),(.ref x1),(.int x2),(.int x3),(.int x4)] 9=mkF m 0 #[.val (.ref x0),.val (.ref x1),.val (.int x2),.val (.int x3),.val (.int x4),.unset,.unset,.unset,.unset] []:=by first|(simp[entryFrame,mkF,argsToLocals,Value.category];done)|rfl
theorem RD (m:MethodId)(x0:Addr)(x1:Addr)(x2:Int32)(x3:Int32)(x4:Int32):entryFrame m #[(.ref x0),(.ref x1),(.int x2),(.int x3),(.int x4)] 9=mkF m 0 #[.val (.ref x0),.val (.ref x1),.val (.int x2),.val (.int x3),.val (.int x4),.unset,.unset,.unset,.unset] []:=by first|(simp[entryFrame,mkF,argsToLocals,Value.category];done)|rfl
theorem RJ (m:MethodId)(x0:Addr)(x1:Addr)(x2:Int32)(x3:Int32)(x4:Int32):entryFrame m #[(.ref x0),(.ref x1),(.int x2),(.int x3),(.int x4)] 9=mkF m 0 #[.val (.ref x0),.val (.ref x1),.val (.int x2),.val (.int x3),.val (.int x4),.unset,.unset,.unset,.unset] []:=by first|(simp[entryFrame,mkF,argsToLocals,Value.category];done)|rfl
theorem RK (m:MethodId)(x0:Addr)(x1:Addr)(x2:Int32)(x3:Int32)(x4:Int32):entryFrame m #[(.ref x0),(.ref x1),(.int x2),(.int x3),(.int x4)] 9=mkF m 0 #[.val (.ref x0),.val (.ref x1),.val (.int x2),.val (.int x3),.val (.int x4),.unset,.unset,.unset,.unset] []:=by first|(simp[entryFrame,mkF,argsToLocals,Value.category];done)|rfl
theorem RO (m:MethodId)(x0:Addr)(x1:Addr):entryFrame m #[(.ref x0),(.ref x1)] 2=mkF m 0 #[.val (.ref x0),.val (.ref x1)] []:=by first|(simp[entryFrame,mkF,argsToLocals,Value.category];done)|rfl
theorem RQ (m:MethodId)(x0:Int32):entryFrame m #[(.int x0)] 2=mkF m 0 #[.val (.int x0),.unset] []:=by first|(simp[entryFrame,mkF,argsToLocals,Value.category];done)|rfl
theorem RU (m:MethodId)(x0:Addr)(x1:Int64)(x2:Int64):entryFrame m #[(.ref x0),(.long x1),(.long x2)] 5=mkF m 0 #[.val (.ref x0),.val (.long x1),.second,.val (.long x2),.second] []:=by first|(simp[entryFrame,mkF,argsToLocals,Value.category];done)|rfl
theorem RV (m:MethodId)(x0:Int64)(x1:Int32):entryFrame m #[(.long x0),(.int x1)] 9=mkF m 0 #[.val (.long x0),.second,.val (.int x1),.unset,.unset,.unset,.unset,.unset,.unset] []:=by first|(simp[entryFrame,mkF,argsToLocals,Value.category];done)|rfl
theorem RX (m:MethodId)(x0:Addr):entryFrame m #[(.ref x0)] 1=mkF m 0 #[.val (.ref x0)] []:=by first|(simp[entryFrame,mkF,argsToLocals,Value.category];done)|rfl
theorem RZ (m:MethodId)(x0:Addr)(x1:Addr):entryFrame m #[(.ref x0),(.ref x1)] 2=mkF m 0 #[.val (.ref x0),.val (.ref x1)] []:=by first|(simp[entryFrame,mkF,argsToLocals,Value.category];done)|rfl
theorem R_ (m:MethodId)(x0:Addr)(x1:Int32):entryFrame m #[(.ref x0),(.int x1)] 2=mkF m 0 #[.val (.ref x0),.val (.int x1)] []:=by first|(simp[entryFrame,mkF,argsToLocals,Value.category];done)|rfl
theorem Sb (m:MethodId)(x0:Addr)(x1:Int32)(x2:Int32):entryFrame m #[(.ref x0),(.int x1),(.int x2)] 3=mkF m 0 #[.val (.ref x0),.val (.int x1),.val (.int x2)] []:=by first|(simp[entryFrame,mkF,argsToLocals,Value.category];done)|rfl
theorem Sc (m:MethodId)(x0:Addr)(x1:Addr):entryFrame m #[(.ref x0),(.ref x1)] 2=mkF m 0 #[.val (.ref x0),.val (.ref x1)] []:=by first|(simp[entryFrame,mkF,argsToLocals,Value.category];done)|rfl
theorem Sf (m:MethodId)(x0:Addr)(x1:Int32)(x2:Int32):entryFrame m #[(.ref x0),(.int x1),(.int x2)] 3=mkF m 0 #[.val (.ref x0),.val (.int x1),.val (.int x2)] []:=by first|(simp[entryFrame,mkF,argsToLocals,Value.category];done)|rfl
theorem Sg (m:MethodId)(x0:Addr)(x1:Addr):entryFrame m #[(.ref x0),(.ref x1)] 2=mkF m 0 #[.val (.ref x0),.val (.ref x1)] []:=by first|(simp[entryFrame,mkF,argsToLocals,Value.category];done)|rfl
theorem Si (m:MethodId)(x0:Addr)(x1:Addr):entryFrame m #[(.ref x0),(.ref x1)] 8=mkF m 0 #[.val (.ref x0),.val (.ref x1),.unset,.unset,.unset,.unset,.unset,.unset] []:=by first|(simp[entryFrame,mkF,argsToLocals,Value.category];done)|rfl
theorem Sj (m:MethodId)(x0:Addr)(x1:Addr):entryFrame m #[(.ref x0),(.ref x1)] 8=mkF m 0 #[.val (.ref x0),.val (.ref x1),.unset,.unset,.unset,.unset,.unset,.unset] []:=by first|(simp[entryFrame,mkF,argsToLocals,Value.category];done)|rfl
theorem Sm (m:MethodId)(x0:Addr)(x1:Addr):entryFrame m #[(.ref x0),(.ref x1)] 8=mkF m 0 #[.val (.ref x0),.val (.ref x1),.unset,.unset,.unset,.unset,.unset,.unset] []:=by first|(simp[entryFrame,mkF,argsToLocals,Value.category];done)|rfl
theorem Sn (m:MethodId)(x0:Addr)(x1:Addr):entryFrame m #[(.ref x0),(.ref x1)] 8=mkF m 0 #[.val (.ref x0),.val (.ref x1),.unset,.unset,.unset,.unset,.unset,.unset] []:=by first|(simp[entryFrame,mkF,argsToLocals,Value.category];done)|rfl
theorem Sr (m:MethodId)(x0:Addr):entryFrame m #[(.ref x0)] 1=mkF m 0 #[.val (.ref x0)] []:=by first|(simp[entryFrame,mkF,argsToLocals,Value.category];done)|rfl
theorem SR (m:MethodId)(x0:Addr):entryFrame m #[(.ref x0)] 1=mkF m 0 #[.val (.ref x0)] []:=by first|(simp[entryFrame,mkF,argsToLocals,Value.category];done)|rfl
theorem S8 (m:MethodId)(x0:Addr)(x1:Int32):entryFrame m #[(.ref x0),(.int x1)] 3=mkF m 0 #[.val (.ref x0),.val (.int x1),.unset] []:=by first|(simp[entryFrame,mkF,argsToLocals,Value.category];done)|rfl
theorem S9 (m:MethodId)(x0:Addr)(x1:Int32):entryFrame m #[(.ref x0),(.int x1)] 3=mkF m 0 #[.val (.ref x0),.val (.int x1),.unset] []:=by first|(simp[entryFrame,mkF,argsToLocals,Value.category];done)|rfl
theorem S_ (m:MethodId)(x0:Addr):entryFrame m #[(.ref x0)] 4=mkF m 0 #[.val (.ref x0),.unset,.unset,.unset] []:=by first|(simp[entryFrame,mkF,argsToLocals,Value.category];done)|rfl
theorem Te (m:MethodId)(x0:Addr)(x1:Int32):entryFrame m #[(.ref x0),(.int x1)] 3=mkF m 0 #[.val (.ref x0),.val (.int x1),.unset] []:=by first|(simp[entryFrame,mkF,argsToLocals,Value.category];done)|rfl
theorem Tf (m:MethodId)(x0:Addr)(x1:Int32):entryFrame m #[(.ref x0),(.int x1)] 3=mkF m 0 #[.val (.ref x0),.val (.int x1),.unset] []:=by first|(simp[entryFrame,mkF,argsToLocals,Value.category];done)|rfl
theorem Tg (m:MethodId)(x0:Addr):entryFrame m #[(.ref x0)] 4=mkF m 0 #[.val (.ref x0),.unset,.unset,.unset] []:=by first|(simp[entryFrame,mkF,argsToLocals,Value.category];done)|rfl
theorem Ti (m:MethodId)(x0:Addr):entryFrame m #[(.ref x0)] 3=mkF m 0 #[.val (.ref x0),.unset,.unset] []:=by first|(simp[entryFrame,mkF,argsToLocals,Value.category];done)|rfl
theorem Tj (m:MethodId)(x0:Addr)(x1:Addr)(x2:Addr)(x3:Int32)(x4:Int32)(x5:Int32):entryFrame m #[(.ref x0),(.ref x1),(.ref x2),(.int x3),(.int x4),(.int x5)] 15=mkF m 0 #[.val (.ref x0),.val (.ref x1),.val (.ref x2),.val (.int x3),.val (.int x4),.val (.int x5),.unset,.unset,.unset,.unset,.unset,.unset,.unset,.unset,.unset] []:=by first|(simp[entryFrame,mkF,argsToLocals,Value.category];done)|rfl
theorem Tk (m:MethodId)(x0:Int32):entryFrame m #[(.int x0)] 1=mkF m 0 #[.val (.int x0)] []:=by first|(simp[entryFrame,mkF,argsToLocals,Value.category];done)|rfl
theorem Tq (m:MethodId)(x0:Addr)(x1:Int32):entryFrame m #[(.ref x0),(.int x1)] 8=mkF m 0 #[.val (.ref x0),.val (.int x1),.unset,.unset,.unset,.unset,.unset,.unset] []:=by first|(simp[entryFrame,mkF,argsToLocals,Value.category];done)|rfl
theorem Tv (m:MethodId)(x0:Addr)(x1:Int32):entryFrame m #[(.ref x0),(.int x1)] 5=mkF m 0 #[.val (.ref x0),.val (.int x1),.unset,.unset,.unset] []:=by first|(simp[entryFrame,mkF,argsToLocals,Value.category];done)|rfl
theorem Tw (m:MethodId)(x0:Addr):entryFrame m #[(.ref x0)] 4=mkF m 0 #[.val (.ref x0),.unset,.unset,.unset] []:=by first|(simp[entryFrame,mkF,argsToLocals,Value.category];done)|rfl
theorem Tx (m:MethodId)(x0:Addr)(x1:Int32)(x2:Int32)(x3:Addr)(x4:Int32)(x5:Int32):entryFrame m #[(.ref x0),(.int x1),(.int x2),(.ref x3),(.int x4),(.int x5)] 10=mkF m 0 #[.val (.ref x0),.val (.int x1),.val (.int x2),.val (.ref x3),.val (.int x4),.val (.int x5),.unset,.unset,.unset,.unset] []:=by first|(simp[entryFrame,mkF,argsToLocals,Value.category];done)|rfl
theorem Tz (m:MethodId)(x0:Addr)(x1:Int32):entryFrame m #[(.ref x0),(.int x1)] 4=mkF m 0 #[.val (.ref x0),.val (.int x1),.unset,.unset] []:=by first|(simp[entryFrame,mkF,argsToLocals,Value.category];done)|rfl
theorem TF (m:MethodId)(x0:Addr)(x1:Int32)(x2:Int32):entryFrame m #[(.ref x0),(.int x1),(.int x2)] 5=mkF m 0 #[.val (.ref x0),.val (.int x1),.val (.int x2),.unset,.unset] []:=by first|(simp[entryFrame,mkF,argsToLocals,Value.category];done)|rfl
theorem TJ (m:MethodId)(x0:Addr)(x1:Int32)(x2:Int32):entryFrame m #[(.ref x0),(.int x1),(.int x2)] 3=mkF m 0 #[.val (.ref x0),.val (.int x1),.val (.int x2)] []:=by first|(simp[entryFrame,mkF,argsToLocals,Value.category];done)|rfl
theorem TT (m:MethodId)(x0:Addr):entryFrame m #[(.ref x0)] 2=mkF m 0 #[.val (.ref x0),.unset] []:=by first|(simp[entryFrame,mkF,argsToLocals,Value.category];done)|rfl
theorem Ua (m:MethodId)(x0:Addr)(x1:Int32):entryFrame m #[(.ref x0),(.int x1)] 2=mkF m 0 #[.val (.ref x0),.val (.int x1)] []:=by first|(simp[entryFrame,mkF,argsToLocals,Value.category];done)|rfl
theorem Ub (m:MethodId)(x0:Addr)(x1:Addr)(x2:Addr)(x3:Int32):entryFrame m #[(.ref x0),(.ref x1),(.ref x2),(.int x3)] 28=mkF m 0 #[.val (.ref x0),.val (.ref x1),.val (.ref x2),.val (.int x3),.unset,.unset,.unset,.unset,.unset,.unset,.unset,.unset,.unset,.unset,.unset,.unset,.unset,.unset,.unset,.unset,.unset,.unset,.unset,.unset,.unset,.unset,.unset,.unset] []:=by first|(simp[entryFrame,mkF,argsToLocals,Value.category];done)|rfl
theorem Uc (m:MethodId)(x0:Addr)(x1:Int32)(x2:Addr):entryFrame m #[(.ref x0),(.int x1),(.ref x2)] 15=mkF m 0 #[.val (.ref x0),.val (.int x1),.val (.ref x2),.unset,.unset,.unset,.unset,.unset,.unset,.unset,.unset,.unset,.unset,.unset,.unset] []:=by first|(simp[entryFrame,mkF,argsToLocals,Value.category];done)|rfl
theorem Ud (m:MethodId)(x0:Addr)(x1:Int32)(x2:Addr):entryFrame m #[(.ref x0),(.int x1),(.ref x2)] 15=mkF m 0 #[.val (.ref x0),.val (.int x1),.val (.ref x2),.unset,.unset,.unset,.unset,.unset,.unset,.unset,.unset,.unset,.unset,.unset,.unset] []:=by first|(simp[entryFrame,mkF,argsToLocals,Value.category];done)|rfl
theorem Uf (m:MethodId)(x0:Addr)(x1:Addr)(x2:Addr)(x3:Int32):entryFrame m #[(.ref x0),(.ref x1),(.ref x2),(.int x3)] 8=mkF m 0 #[.val (.ref x0),.val (.ref x1),.val (.ref x2),.val (.int x3),.unset,.unset,.unset,.unset] []:=by first|(simp[entryFrame,mkF,argsToLocals,Value.category];done)|rfl
theorem Ug (m:MethodId)(x0:Addr)(x1:Addr)(x2:Addr):entryFrame m #[(.ref x0),(.ref x1),(.ref x2)] 3=mkF m 0 #[.val (.ref x0),.val (.ref x1),.val (.ref x2)] []:=by first|(simp[entryFrame,mkF,argsToLocals,Value.category];done)|rfl
theorem Uh (m:MethodId)(x0:Addr)(x1:Int32):entryFrame m #[(.ref x0),(.int x1)] 2=mkF m 0 #[.val (.ref x0),.val (.int x1)] []:=by first|(simp[entryFrame,mkF,argsToLocals,Value.category];done)|rfl
theorem Ui (m:MethodId)(x0:Addr)(x1:Addr):entryFrame m #[(.ref x0),(.ref x1)] 7=mkF m 0 #[.val (.ref x0),.val (.ref x1),.unset,.unset,.unset,.unset,.unset] []:=by first|(simp[entryFrame,mkF,argsToLocals,Value.category];done)|rfl
theorem Uj (m:MethodId)(x0:Addr)(x1:Addr):entryFrame m #[(.ref x0),(.ref x1)] 2=mkF m 0 #[.val (.ref x0),.val (.ref x1)] []:=by first|(simp[entryFrame,mkF,argsToLocals,Value.category];done)|rfl
theorem Uk (m:MethodId)(x0:Addr)(x1:Addr):entryFrame m #[(.ref x0),(.ref x1)] 9=mkF m 0 #[.val (.ref x0),.val (.ref x1),.unset,.unset,.unset,.unset,.unset,.unset,.unset] []:=by first|(simp[entryFrame,mkF,argsToLocals,Value.category];done)|rfl
theorem Ul (m:MethodId)(x0:Addr)(x1:Addr):entryFrame m #[(.ref x0),(.ref x1)] 9=mkF m 0 #[.val (.ref x0),.val (.ref x1),.unset,.unset,.unset,.unset,.unset,.unset,.unset] []:=by first|(simp[entryFrame,mkF,argsToLocals,Value.category];done)|rfl
theorem Um (m:MethodId)(x0:Addr)(x1:Addr):entryFrame m #[(.ref x0),(.ref x1)] 4=mkF m 0 #[.val (.ref x0),.val (.ref x1),.unset,.unset] []:=by first|(simp[entryFrame,mkF,argsToLocals,Value.category];done)|rfl
theorem Un (m:MethodId)(x0:Addr)(x1:Addr):entryFrame m #[(.ref x0),(.ref x1)] 4=mkF m 0 #[.val (.ref x0),.val (.ref x1),.unset,.unset] []:=by first|(simp[entryFrame,mkF,argsToLocals,Value.category];done)|rfl
theorem Uo (m:MethodId)(x0:Addr)(x1:Addr):entryFrame m #[(.ref x0),(.ref x1)] 4=mkF m 0 #[.val (.ref x0),.val (.ref x1),.unset,.unset] []:=by first|(simp[entryFrame,mkF,argsToLocals,Value.category];done)|rfl
theorem Uq (m:MethodId)(x0:Addr)(x1:Addr):entryFrame m #[(.ref x0),(.ref x1)] 9=mkF m 0 #[.val (.ref x0),.val (.ref x1),.unset,.unset,.unset,.unset,.unset,.unset,.unset] []:=by first|(simp[entryFrame,mkF,argsToLocals,Value.category];done)|rfl
theorem Ur (m:MethodId)(x0:Addr)(x1:Addr):entryFrame m #[(.ref x0),(.ref x1)] 9=mkF m 0 #[.val (.ref x0),.val (.ref x1),.unset,.unset,.unset,.unset,.unset,.unset,.unset] []:=by first|(simp[entryFrame,mkF,argsToLocals,Value.category];done)|rfl
theorem Us (m:MethodId)(x0:Addr)(x1:Addr):entryFrame m #[(.ref x0),(.ref x1)] 2=mkF m 0 #[.val (.ref x0),.val (.ref x1)] []:=by first|(simp[entryFrame,mkF,argsToLocals,Value.category];done)|rfl
theorem Uu (m:MethodId)(x0:Int64)(x1:Int64)(x2:Int64):entryFrame m #[(.long x0),(.long x1),(.long x2)] 8=mkF m 0 #[.val (.long x0),.second,.val (.long x1),.second,.val (.long x2),.second,.unset,.unset] []:=by first|(simp[entryFrame,mkF,argsToLocals,Value.category];done)|rfl
theorem Uv (m:MethodId)(x0:Int64)(x1:Int64)(x2:Int64)(x3:Int32):entryFrame m #[(.long x0),(.long x1),(.long x2),(.int x3)] maxLocals=mkF m 0 #[.val (.long x0),.second,.val (.long x1),.second,.val (.long x2),.second,.val (.int x3),.unset,.unset,.unset,.unset,.unset,.unset,.unset,.unset] []:=by first|(simp[entryFrame,mkF,argsToLocals,Value.category,maxLocals];done)|rfl
def Uw (Z:State)(a b:Int64)(h0:Heap)(n0:Nat)(v:Option Value)(h:Heap)(L:List Loc):Prop:= ∃r:Int64,v=some (.long r)∧Fr n0 L∧h=h0∧uG a b r
theorem zn (l:Launch)(Z:State)(a0:Array Value)(hw: ∀d∈tables_1,d.before a0 Z=true)(ws:List Jvm.Cond)(a b:Int64)(h0:Heap)(n0:Nat)(Z0:n0≤h0.size)(k:Old Z n0 h0):
  bp l (⟨"java/lang/Math","max","(JJ)J"⟩:MethodName) (Jvm.Cond.code (⟨"java/lang/Math","max","(JJ)J"⟩:MethodName) jdk_29_method_66_code 4 (some .long)::ws) ({frames:=0,cells:=0,slots:=0,locals:=0}:Room) #[(.long a),(.long b)] Z h0 (Uw Z a b h0 n0):=by
 refine bI (Jvm.Free.JP.mathPlain rfl (by decide+kernel)) (fun m=>Qk m a b) fun p e s m n o c s₁ hx h g i (j:s.vm.findClass "java/lang/Math"=some m.cls) hnm hret X0 hZ e0=> ?_
 have f:=bG hx h KJ j hZ i hw
 have N0:=Fr.nil n0
 refine eW 1 0 X0 f ?_
 refine eW 2 1 X0 f ?_
 refine iq 3 2 X0 f ?_
 by_cases h1:(lcmpW a b)<(0:Int32)
 ·refine bk 10 3 X0 f rfl ((if0 _ _).trans (tlt h1).1) ?_
  refine eW 11 6 X0 f ?_
  exact ou 7 X0 f hret g (by rw[e0];exact ⟨_,rfl,N0,rfl,FY h1⟩)
 ·refine bw 6 3 X0 f rfl ((if0 _ _).trans (flt h1).1) ?_
  refine eW 7 4 X0 f ?_
  refine bL 11 5 X0 f ?_
  exact ou 7 X0 f hret g (by rw[e0];exact ⟨_,rfl,N0,rfl,FW h1⟩)
def Ux (Z:State)(a b:Int64)(h0:Heap)(n0:Nat)(v:Option Value)(h:Heap)(L:List Loc):Prop:= ∃r:Int64,v=some (.long r)∧Fr n0 L∧h=h0∧r.toInt=a.toInt*b.toInt/4503599627370496
theorem Ek (l:Launch)(Z:State)(a0:Array Value)(hw: ∀d∈tables_1,d.before a0 Z=true)(ws:List Jvm.Cond)(a b:Int64)(h0:Heap)(n0:Nat)(Z0:n0≤h0.size)(z:Old Z n0 h0)(h:0≤a.toInt∧a.toInt<9007199254740992)(i:0≤b.toInt∧b.toInt<9007199254740992):
  bp l (⟨"com/example/nuthatch/nuthatch/ArgumentsRequireFillMillisPinLaw","high","(JJ)J"⟩:MethodName) (Jvm.Cond.code (⟨"com/example/nuthatch/nuthatch/ArgumentsRequireFillMillisPinLaw","high","(JJ)J"⟩:MethodName) method_2_code 20 (some .long)::ws) ({frames:=0,cells:=0,slots:=0,locals:=0}:Room) #[(.long a),(.long b)] Z h0 (Ux Z a b h0 n0):=by
 refine bI (plainFor_of_name xJ) (fun m=>Ql m a b) fun p e s m A B c s₁ hx j k n (o:s.vm.findClass "com/example/nuthatch/nuthatch/ArgumentsRequireFillMillisPinLaw"=some m.cls) hnm hret X0 hZ e0=> ?_
 have f:=bG hx j KW o hZ n hw
 have N0:=Fr.nil n0
 refine eW 1 0 X0 f ?_
 refine bT 3 1 26 X0 f ?_
 refine jD 4 2 X0 f ?_
 generalize q:((a.toUInt64>>>((26:Int32)&&&0x3f).toInt64.toUInt64).toInt64)=a1
 refine dN 6 3 #[_,_,_,_,_,_,_,_,_,_,_,_,_,_,_,_,_,_,_,_] X0 f ?_
 refine eW 7 4 X0 f ?_
 refine bO 10 13 5 X0 f ?_
 refine bR 11 6 X0 f ?_
 generalize r:(a&&&(67108863:Int64))=g
 refine dN 13 7 #[_,_,_,_,_,_,_,_,_,_,_,_,_,_,_,_,_,_,_,_] X0 f ?_
 refine eW 14 8 X0 f ?_
 refine bT 16 9 26 X0 f ?_
 refine jD 17 10 X0 f ?_
 generalize t:((b.toUInt64>>>((26:Int32)&&&0x3f).toInt64.toUInt64).toInt64)=b1
 refine dN 19 11 #[_,_,_,_,_,_,_,_,_,_,_,_,_,_,_,_,_,_,_,_] X0 f ?_
 refine eW 20 12 X0 f ?_
 refine bO 23 13 13 X0 f ?_
 refine bR 24 14 X0 f ?_
 generalize u:(b&&&(67108863:Int64))=b0
 refine dN 26 15 #[_,_,_,_,_,_,_,_,_,_,_,_,_,_,_,_,_,_,_,_] X0 f ?_
 refine aI 28 16 X0 f ?_
 refine aI 30 17 X0 f ?_
 refine jA 31 18 X0 f ?_
 generalize v:(a1*b1)=hi
 refine dN 33 19 #[_,_,_,_,_,_,_,_,_,_,_,_,_,_,_,_,_,_,_,_] X0 f ?_
 refine aI 35 20 X0 f ?_
 refine aI 37 21 X0 f ?_
 refine jA 38 22 X0 f ?_
 refine aI 40 23 X0 f ?_
 refine aI 42 24 X0 f ?_
 refine jA 43 25 X0 f ?_
 refine iu 44 26 X0 f ?_
 generalize w:((a1*b0)+(g*b1))=mid
 refine dN 46 27 #[_,_,_,_,_,_,_,_,_,_,_,_,_,_,_,_,_,_,_,_] X0 f ?_
 refine aI 48 28 X0 f ?_
 refine aI 50 29 X0 f ?_
 refine jA 51 30 X0 f ?_
 generalize x:(g*b0)=lo
 refine dN 53 31 #[_,_,_,_,_,_,_,_,_,_,_,_,_,_,_,_,_,_,_,_] X0 f ?_
 refine aI 55 32 X0 f ?_
 refine aI 57 33 X0 f ?_
 refine bO 60 13 34 X0 f ?_
 refine bR 61 35 X0 f ?_
 refine bT 63 36 26 X0 f ?_
 refine kj 64 37 X0 f ?_
 refine iu 65 38 X0 f ?_
 generalize y:(lo+((mid&&&(67108863:Int64))<<<((26:Int32)&&&0x3f).toInt64))=lo2
 refine dN 67 39 #[_,_,_,_,_,_,_,_,_,_,_,_,_,_,_,_,_,_,_,_] X0 f ?_
 refine aI 69 40 X0 f ?_
 refine aI 71 41 X0 f ?_
 refine bT 73 42 26 X0 f ?_
 refine jD 74 43 X0 f ?_
 refine iu 75 44 X0 f ?_
 refine aI 77 45 X0 f ?_
 refine bT 79 46 52 X0 f ?_
 refine jD 80 47 X0 f ?_
 refine iu 81 48 X0 f ?_
 exact ou 49 X0 f hret k (by rw[e0];exact ⟨_,rfl,N0,rfl,F8 (zV h i q r t u w x y) v⟩)
def Uy (Z:State)(a b:Int64)(h0:Heap)(n0:Nat)(v:Option Value)(h:Heap)(L:List Loc):Prop:= ∃r:Int64,v=some (.long r)∧Fr n0 L∧h=h0∧r.toInt=a.toInt*b.toInt%4503599627370496
theorem El (l:Launch)(Z:State)(a0:Array Value)(hw: ∀d∈tables_1,d.before a0 Z=true)(ws:List Jvm.Cond)(a b:Int64)(h0:Heap)(n0:Nat)(Z0:n0≤h0.size)(y:Old Z n0 h0)(h:0≤a.toInt∧a.toInt<9007199254740992)(i:0≤b.toInt∧b.toInt<9007199254740992):
  bp l (⟨"com/example/nuthatch/nuthatch/ArgumentsRequireFillMillisPinLaw","low","(JJ)J"⟩:MethodName) (Jvm.Cond.code (⟨"com/example/nuthatch/nuthatch/ArgumentsRequireFillMillisPinLaw","low","(JJ)J"⟩:MethodName) method_3_code 18 (some .long)::ws) ({frames:=0,cells:=0,slots:=0,locals:=0}:Room) #[(.long a),(.long b)] Z h0 (Uy Z a b h0 n0):=by
 refine bI (plainFor_of_name xJ) (fun m=>Qm m a b) fun p e s m z A c s₁ hx j k n (o:s.vm.findClass "com/example/nuthatch/nuthatch/ArgumentsRequireFillMillisPinLaw"=some m.cls) hnm hret X0 hZ e0=> ?_
 have f:=bG hx j K7 o hZ n hw
 have N0:=Fr.nil n0
 refine eW 1 0 X0 f ?_
 refine bT 3 1 26 X0 f ?_
 refine jD 4 2 X0 f ?_
 generalize q:((a.toUInt64>>>((26:Int32)&&&0x3f).toInt64.toUInt64).toInt64)=a1
 refine dN 6 3 #[_,_,_,_,_,_,_,_,_,_,_,_,_,_,_,_,_,_] X0 f ?_
 refine eW 7 4 X0 f ?_
 refine bO 10 13 5 X0 f ?_
 refine bR 11 6 X0 f ?_
 generalize r:(a&&&(67108863:Int64))=g
 refine dN 13 7 #[_,_,_,_,_,_,_,_,_,_,_,_,_,_,_,_,_,_] X0 f ?_
 refine eW 14 8 X0 f ?_
 refine bT 16 9 26 X0 f ?_
 refine jD 17 10 X0 f ?_
 generalize t:((b.toUInt64>>>((26:Int32)&&&0x3f).toInt64.toUInt64).toInt64)=b1
 refine dN 19 11 #[_,_,_,_,_,_,_,_,_,_,_,_,_,_,_,_,_,_] X0 f ?_
 refine eW 20 12 X0 f ?_
 refine bO 23 13 13 X0 f ?_
 refine bR 24 14 X0 f ?_
 generalize u:(b&&&(67108863:Int64))=b0
 refine dN 26 15 #[_,_,_,_,_,_,_,_,_,_,_,_,_,_,_,_,_,_] X0 f ?_
 refine aI 28 16 X0 f ?_
 refine aI 30 17 X0 f ?_
 refine jA 31 18 X0 f ?_
 refine aI 33 19 X0 f ?_
 refine aI 35 20 X0 f ?_
 refine jA 36 21 X0 f ?_
 refine iu 37 22 X0 f ?_
 generalize v:((a1*b0)+(g*b1))=mid
 refine dN 39 23 #[_,_,_,_,_,_,_,_,_,_,_,_,_,_,_,_,_,_] X0 f ?_
 refine aI 41 24 X0 f ?_
 refine aI 43 25 X0 f ?_
 refine jA 44 26 X0 f ?_
 generalize w:(g*b0)=lo
 refine dN 46 27 #[_,_,_,_,_,_,_,_,_,_,_,_,_,_,_,_,_,_] X0 f ?_
 refine aI 48 28 X0 f ?_
 refine aI 50 29 X0 f ?_
 refine bO 53 13 30 X0 f ?_
 refine bR 54 31 X0 f ?_
 refine bT 56 32 26 X0 f ?_
 refine kj 57 33 X0 f ?_
 refine iu 58 34 X0 f ?_
 generalize x:(lo+((mid&&&(67108863:Int64))<<<((26:Int32)&&&0x3f).toInt64))=lo2
 refine dN 60 35 #[_,_,_,_,_,_,_,_,_,_,_,_,_,_,_,_,_,_] X0 f ?_
 refine aI 62 36 X0 f ?_
 refine bO 65 17 37 X0 f ?_
 refine bR 66 38 X0 f ?_
 exact ou 39 X0 f hret k (by rw[e0];exact ⟨_,rfl,N0,rfl,Ga (zV h i q r t u v w x)⟩)
def Uz (Z:State)(a b xx y:Int64)(h0:Heap)(n0:Nat)(v:Option Value)(h:Heap)(L:List Loc):Prop:= ∃r:Int32,v=some (.int r)∧Fr n0 L∧h=h0∧uL a b xx y r
theorem zo (l:Launch)(Z:State)(a0:Array Value)(hw: ∀d∈tables_1,d.before a0 Z=true)(ws:List Jvm.Cond)(a b xx y:Int64)(h0:Heap)(n0:Nat)(Z0:n0≤h0.size)(j:Old Z n0 h0)(k:0≤a.toInt∧a.toInt<9007199254740992)(n:0≤b.toInt∧b.toInt<9007199254740992)(o:0≤xx.toInt∧xx.toInt<9007199254740992)(q:0≤y.toInt∧y.toInt<9007199254740992):
  bp l (⟨"com/example/nuthatch/nuthatch/ArgumentsRequireFillMillisPinLaw","cmp","(JJJJ)I"⟩:MethodName) (Jvm.Cond.code (⟨"com/example/nuthatch/nuthatch/ArgumentsRequireFillMillisPinLaw","cmp","(JJJJ)I"⟩:MethodName) method_4_code 16 (some .int)::ws) ({frames:=1,cells:=0,slots:=0,locals:=40}:Room) #[(.long a),(.long b),(.long xx),(.long y)] Z h0 (Uz Z a b xx y h0 n0):=by
 refine bI (plainFor_of_name xJ) (fun m=>Qn m a b xx y) fun p e s m A B c s₁ hx r g t (u:s.vm.findClass "com/example/nuthatch/nuthatch/ArgumentsRequireFillMillisPinLaw"=some m.cls) hnm hret X0 hZ e0=> ?_
 have f:=bG hx r Lh u hZ t hw
 have N0:=Fr.nil n0
 have KP:Keep h0 h0 []:=Keep.refl _ _
 refine eW 1 0 X0 f ?_
 refine eW 2 1 X0 f ?_
 refine bZ 5 2 0 0 0 2 10 11 8 12 X0 f (Ek l Z a0 hw [] a b h0 n0 (Nat.le_trans Z0 KP.1) j k n) qY e0 fun _ T1 C X1 hQ1=> ?_
 obtain ⟨h1,rfl,v,e1,h⟩:=hQ1
 have N1:=Fr.app N0 v
 refine aJ [_] ?_
 refine dN 7 3 #[_,_,_,_,_,_,_,_,_,_,_,_,_,_,_,_] X1 f ?_
 refine aI 9 4 X1 f ?_
 refine aI 11 5 X1 f ?_
 refine bZ 14 2 0 0 0 6 10 11 8 12 X1 f (Ek l Z a0 hw [] xx y h0 n0 (Nat.le_trans Z0 KP.1) j o q) qY e1 fun _ T2 D X2 hQ2=> ?_
 obtain ⟨h2,rfl,w,e2,i⟩:=hQ2
 have N2:=Fr.app N1 w
 refine aJ [_] ?_
 refine dN 16 7 #[_,_,_,_,_,_,_,_,_,_,_,_,_,_,_,_] X2 f ?_
 refine aI 18 8 X2 f ?_
 refine aI 20 9 X2 f ?_
 refine iq 21 10 X2 f ?_
 by_cases hc1:(lcmpW h1 h2)=(0:Int32)
 ·refine bk 38 11 X2 f rfl ((if0 _ _).trans (teq hc1).1) ?_
  refine eW 39 20 X2 f ?_
  refine eW 40 21 X2 f ?_
  refine bZ 43 2 0 0 0 22 14 15 8 16 X2 f (El l Z a0 hw [] a b h0 n0 (Nat.le_trans Z0 KP.1) j k n) qY e2 fun _ T3 E X3 hQ3=> ?_
  obtain ⟨l1,rfl,x,e3,el1⟩:=hQ3
  have N3:=Fr.app N2 x
  refine aJ [_] ?_
  refine dN 45 23 #[_,_,_,_,_,_,_,_,_,_,_,_,_,_,_,_] X3 f ?_
  refine aI 47 24 X3 f ?_
  refine aI 49 25 X3 f ?_
  refine bZ 52 2 0 0 0 26 14 15 8 16 X3 f (El l Z a0 hw [] xx y h0 n0 (Nat.le_trans Z0 KP.1) j o q) qY e3 fun _ T4 F X4 hQ4=> ?_
  obtain ⟨l2,rfl,z,e4,el2⟩:=hQ4
  have N4:=Fr.app N3 z
  refine aJ [_] ?_
  refine dN 54 27 #[_,_,_,_,_,_,_,_,_,_,_,_,_,_,_,_] X4 f ?_
  refine aI 56 28 X4 f ?_
  refine aI 58 29 X4 f ?_
  refine iq 59 30 X4 f ?_
  by_cases hc3:(lcmpW l1 l2)=(0:Int32)
  ·refine bk 76 31 X4 f rfl ((if0 _ _).trans (teq hc3).1) ?_
   refine aB 77 40 0 X4 f ?_
   exact gg 41 X4 f hret g (by rw[e4];exact ⟨_,rfl,N4,rfl,Or.inr (Or.inl ⟨rfl,Gh hc1 hc3 h i el1 el2⟩)⟩)
  ·refine bw 62 31 X4 f rfl ((if0 _ _).trans (feq hc3).1) ?_
   refine aI 64 32 X4 f ?_
   refine aI 66 33 X4 f ?_
   refine iq 67 34 X4 f ?_
   by_cases hc4:(lcmpW l1 l2)<(0:Int32)
   ·refine bw 70 35 X4 f rfl ((if0 _ _).trans (tlt hc4).2.1) ?_
    refine aB 71 36 (-1) X4 f ?_
    refine bL 75 37 X4 f ?_
    exact gg 39 X4 f hret g (by rw[e4];exact ⟨_,rfl,N4,rfl,Or.inl ⟨rfl,Gf hc1 hc4 h i el1 el2⟩⟩)
   ·refine bk 74 35 X4 f rfl ((if0 _ _).trans (flt hc4).2.1) ?_
    refine aB 75 38 1 X4 f ?_
    exact gg 39 X4 f hret g (by rw[e4];exact ⟨_,rfl,N4,rfl,Or.inr (Or.inr ⟨rfl,Gg hc1 hc3 hc4 h i el1 el2⟩)⟩)
 ·refine bw 24 11 X2 f rfl ((if0 _ _).trans (feq hc1).1) ?_
  refine aI 26 12 X2 f ?_
  refine aI 28 13 X2 f ?_
  refine iq 29 14 X2 f ?_
  by_cases hc2:(lcmpW h1 h2)<(0:Int32)
  ·refine bw 32 15 X2 f rfl ((if0 _ _).trans (tlt hc2).2.1) ?_
   refine aB 33 16 (-1) X2 f ?_
   refine bL 37 17 X2 f ?_
   exact gg 19 X2 f hret g (by rw[e2];exact ⟨_,rfl,N2,rfl,Or.inl ⟨rfl,Gb hc2 h i⟩⟩)
  ·refine bk 36 15 X2 f rfl ((if0 _ _).trans (flt hc2).2.1) ?_
   refine aB 37 18 1 X2 f ?_
   exact gg 19 X2 f hret g (by rw[e2];exact ⟨_,rfl,N2,rfl,Or.inr (Or.inr ⟨rfl,Gc hc1 hc2 h i⟩)⟩)
def UD (Z:State)(bx:Addr)(h0:Heap)(n0:Nat)(v:Option Value)(h:Heap)(L:List Loc):Prop:=v=none∧Fr n0 L∧h=h0
theorem Em (l:Launch)(Z:State)(a0:Array Value)(hw: ∀d∈tables_1,d.before a0 Z=true)(ws:List Jvm.Cond)(bx:Addr)(h0:Heap)(n0:Nat)(Z0:n0≤h0.size)(j:Old Z n0 h0):
  bp l (⟨"java/lang/Number","<init>","()V"⟩:MethodName) (Jvm.Cond.code (⟨"java/lang/Number","<init>","()V"⟩:MethodName) jdk_18_method_1_code 1 none::ws) ({frames:=1,cells:=0,slots:=0,locals:=12}:Room) #[(.ref bx)] Z h0 (UD Z bx h0 n0):=by
 refine bI (plainFor_of_name Qh) (fun m=>Qo m bx) fun p e s m k n c s₁ hx a i b (f:s.vm.findClass "java/lang/Number"=some m.cls) hnm hret X0 hZ e0=> ?_
 have D:=fj a CS
 have h:=bG hx a CS f hZ b hw
 have N0:=Fr.nil n0
 refine ak 1 0 X0 h ?_
 obtain ⟨T5,X5,e5,st5⟩:=initO X0 hx hZ f (aj hw 83 rfl) (aj hw 84 rfl) (aj hw 85 rfl) e0 (g:=(mkF m 1 #[rv bx] [(.ref bx)])) rfl (by rw[b];rfl) rfl (D 1 rfl) (by decide) (W:=0) (by show 2*0+_≤_;exact Nat.le_of_eq rfl) (by decide)
 refine aG (mkF m 4 #[rv bx] []) st5 ?_
 exact jE 2 X5 h hret i (by rw[e5];exact ⟨rfl,N0,rfl⟩)
def UE (Z:State)(bx:Addr)(val:Int64)(h0:Heap)(n0:Nat)(v:Option Value)(h:Heap)(L:List Loc):Prop:=v=none∧Fr n0 L∧Keep h0 h [bx]∧ ∃(a:Addr) (k:ClassId),n0≤a∧h0.size≤a∧jZ Z h bx a k val.toInt
theorem UF (l:Launch)(Z:State)(a0:Array Value)(hw: ∀d∈tables_1,d.before a0 Z=true)(ws:List Jvm.Cond)(bx:Addr)(val:Int64)(h0:Heap)(n0:Nat)(Z0:n0≤h0.size)(K:Old Z n0 h0)(A:n0≤bx)(b:Exa Z h0 bx "java/math/BigInteger")(h:Fld Z h0 bx "java/math/BigInteger" "signum" "I" (.int (0:Int32)))(f:Fld Z h0 bx "java/math/BigInteger" "mag" "[I" .null)(x:0≤val.toInt∧val.toInt<9007199254740992)(r0:0<val.toInt):
  bp l (⟨"java/math/BigInteger","<init>","(J)V"⟩:MethodName) (Jvm.Cond.code (⟨"java/math/BigInteger","<init>","(J)V"⟩:MethodName) jdk_2097_method_30_code 4 none::ws) ({frames:=2,cells:=1,slots:=2,locals:=30}:Room) #[(.ref bx),(.long val)] Z h0 (UE Z bx val h0 n0):=by
 refine bI (plainFor_of_name gF) (fun m=>Qp m bx val) fun p e s m X Y c s₁ hx F G L (M:s.vm.findClass "java/math/BigInteger"=some m.cls) hnm hret X0 hZ e0=> ?_
 have D:=fj F CU
 have a:=bG hx F CU M hZ L hw
 have N0:=Fr.nil n0
 have KP:Keep h0 h0 [bx]:=Keep.refl _ _
 refine ak 1 0 X0 a ?_
 refine iJ 4 0 0 0 0 1 77 78 81 82 X0 a (Em l Z a0 hw [] bx h0 n0 (Nat.le_trans Z0 KP.1) K) pJ e0 rfl fun _ T6 ae X6 N=> ?_
 obtain ⟨rfl,O,e6⟩:=N
 have N6:=Fr.app N0 O
 refine aJ [] ?_
 refine eW 5 2 X6 a ?_
 refine jl 6 3 0 X6 a ?_
 refine iq 7 4 X6 a ?_
 refine bk 21 5 X6 a rfl ((if0 _ _).trans (flt (zX x)).2.1) ?_
 refine ak 22 13 X6 a ?_
 refine aB 23 14 1 X6 a ?_
 refine fh 26 15 38 72 X6 a e6 h b (Or.inr ⟨(aj hw 39 rfl),rfl,hnm⟩) (ty:= .int) fun T7 h7 X7 e7 W7=> ?_
 have N7:=Fr.snoc X7 N6 A
 have P:Fld Z h7 bx "java/math/BigInteger" "signum" "I" (.int (1:Int32)):=h.same W7
 have KP:=KP.wr W7 (Or.inl (List.mem_of_getElem? (i:=0) rfl))
 have b:=b.wr W7
 have f:=f.other W7 (Or.inr (slot_ne (Or.inr (aj hw 41 rfl)) (Or.inr (aj hw 39 rfl)) (by decide) (t:=(.array .int)) (t':= .int) (by decide) (by decide)))
 have h:=P
 refine eW 27 16 X7 a ?_
 refine bT 29 17 32 X7 a ?_
 refine jD 30 18 X7 a ?_
 refine gn 31 19 X7 a ?_
 refine eO 32 20 #[_,_,_,_] X7 a ?_
 refine au 33 21 X7 a ?_
 by_cases hz:(((val.toUInt64>>>((32:Int32)&&&0x3f).toInt64.toUInt64).toInt64).toInt32)=(0:Int32)
 ·refine bw 36 22 X7 a rfl ((if0 _ _).trans (teq hz).2) ?_
  refine ak 37 23 X7 a ?_
  refine aB 38 24 1 X7 a ?_
  obtain ⟨T8,h8,k8,X8,e8,E8,A8,H,st8⟩:=newPE X7 hx hZ (aj hw 52 rfl) e7 (g:=(mkF m 38 #[rv bx,.val (.long val),.second,iv (((val.toUInt64>>>((32:Int32)&&&0x3f).toInt64.toUInt64).toInt64).toInt32)] [(.int (1:Int32)),(.ref bx)])) rfl (D 25 rfl) rfl (by decide) (cap:=1) (by decide) (by decide) (by decide) (by decide) (ad:="[I") (by decide)
  obtain ⟨b8,g8⟩: ∃z,z=h7.size:=⟨_,rfl⟩
  rw[←g8] at A8 H st8
  have B:h0.size≤b8:=Nat.le_trans KP.1 (Nat.le_of_eq g8.symm)
  have I:n0≤b8:=Nat.le_trans Z0 B
  have C:bx≠b8:=Nat.ne_of_lt (Nat.lt_of_lt_of_le b.lt (Nat.le_of_eq g8.symm))
  have KP:=KP.ext E8
  have b:=b.ext E8
  have h:=h.ext E8
  have f:=f.ext E8
  have o:Exa Z h8 b8 "[I":=H
  have q:Arv Z h8 b8 k8 .int (1:Int32) [(.int (0:Int32))] (.int (0:Int32)):=(Arv.new A8 (by decide)).pad (pad_rep [] (.int (0:Int32)) 1)
  refine aG (mkF m 40 #[rv bx,.val (.long val),.second,iv (((val.toUInt64>>>((32:Int32)&&&0x3f).toInt64.toUInt64).toInt64).toInt32)] [(.ref b8),(.ref bx)]) st8 ?_
  refine fh 43 26 40 72 X8 a e8 f b (Or.inr ⟨(aj hw 41 rfl),rfl,hnm⟩) (ty:=(.array .int)) fun T9 h9 X9 e9 W9=> ?_
  have N9:=Fr.snoc X9 N7 A
  have Q:Fld Z h9 bx "java/math/BigInteger" "mag" "[I" (.ref b8):=f.same W9
  have KP:=KP.wr W9 (Or.inl (List.mem_of_getElem? (i:=0) rfl))
  have b:=b.wr W9
  have h:=h.other W9 (Or.inr (slot_ne (Or.inr (aj hw 39 rfl)) (Or.inr (aj hw 41 rfl)) (by decide) (t:= .int) (t':=(.array .int)) (by decide) (by decide)))
  have o:=o.wr W9
  have q:=q.other W9 (Ne.symm C)
  have f:=Q
  refine ak 44 27 X9 a ?_
  refine aE 47 28 40 X9 a e9 f fun T10 X10 e10=> ?_
  refine aB 48 29 0 X10 a ?_
  refine eW 49 30 X10 a ?_
  refine gn 50 31 X10 a ?_
  refine iY 51 0 32 X10 a e10 q fun T11 h11 X11 e11 r R=> ?_
  have N11:=Fr.snoc X11 N9 I
  have KP:=KP.wr r (Or.inr B)
  have b:=b.wr r
  have h:=h.other r (Or.inl C)
  have f:=f.other r (Or.inl C)
  have o:=o.wr r
  have q:Arv Z h11 b8 k8 .int (1:Int32) [(.int (val.toInt32))] (.int (0:Int32)):=R
  refine bL 76 33 X11 a ?_
  exact jE 49 X11 a hret G (by rw[e11];exact ⟨rfl,N11,KP,b8,k8,I,B,Or.inl ⟨_,⟨b,h,f,q,o⟩,Gj (zW hz x) r0,zW hz x⟩⟩)
 ·refine bk 54 22 X7 a rfl ((if0 _ _).trans (feq hz).2) ?_
  refine ak 55 34 X7 a ?_
  refine aB 56 35 2 X7 a ?_
  obtain ⟨T12,h12,k12,X12,e12,E12,A12,J,st12⟩:=newPE X7 hx hZ (aj hw 52 rfl) e7 (g:=(mkF m 56 #[rv bx,.val (.long val),.second,iv (((val.toUInt64>>>((32:Int32)&&&0x3f).toInt64.toUInt64).toInt64).toInt32)] [(.int (2:Int32)),(.ref bx)])) rfl (D 36 rfl) rfl (by decide) (cap:=2) (by decide) (by decide) (by decide) (by decide) (ad:="[I") (by decide)
  obtain ⟨b12,g12⟩: ∃z,z=h7.size:=⟨_,rfl⟩
  rw[←g12] at A12 J st12
  have y:h0.size≤b12:=Nat.le_trans KP.1 (Nat.le_of_eq g12.symm)
  have E:n0≤b12:=Nat.le_trans Z0 y
  have u:bx≠b12:=Nat.ne_of_lt (Nat.lt_of_lt_of_le b.lt (Nat.le_of_eq g12.symm))
  have KP:=KP.ext E12
  have b:=b.ext E12
  have h:=h.ext E12
  have f:=f.ext E12
  have j:Exa Z h12 b12 "[I":=J
  have k:Arv Z h12 b12 k12 .int (2:Int32) [(.int (0:Int32)),(.int (0:Int32))] (.int (0:Int32)):=(Arv.new A12 (by decide)).pad (pad_rep [] (.int (0:Int32)) 2)
  refine aG (mkF m 58 #[rv bx,.val (.long val),.second,iv (((val.toUInt64>>>((32:Int32)&&&0x3f).toInt64.toUInt64).toInt64).toInt32)] [(.ref b12),(.ref bx)]) st12 ?_
  refine fh 61 37 40 72 X12 a e12 f b (Or.inr ⟨(aj hw 41 rfl),rfl,hnm⟩) (ty:=(.array .int)) fun T13 h13 X13 e13 n=> ?_
  have S:=Fr.snoc X13 N7 A
  have T:Fld Z h13 bx "java/math/BigInteger" "mag" "[I" (.ref b12):=f.same n
  have KP:=KP.wr n (Or.inl (List.mem_of_getElem? (i:=0) rfl))
  have b:=b.wr n
  have h:=h.other n (Or.inr (slot_ne (Or.inr (aj hw 39 rfl)) (Or.inr (aj hw 41 rfl)) (by decide) (t:= .int) (t':=(.array .int)) (by decide) (by decide)))
  have j:=j.wr n
  have k:=k.other n (Ne.symm u)
  have f:=T
  refine ak 62 38 X13 a ?_
  refine aE 65 39 40 X13 a e13 f fun T14 X14 e14=> ?_
  refine aB 66 40 0 X14 a ?_
  refine au 67 41 X14 a ?_
  refine iY 68 0 42 X14 a e14 k fun T15 h15 X15 e15 v U=> ?_
  have V:=Fr.snoc X15 S E
  have KP:=KP.wr v (Or.inr y)
  have b:=b.wr v
  have h:=h.other v (Or.inl u)
  have f:=f.other v (Or.inl u)
  have j:=j.wr v
  have k:Arv Z h15 b12 k12 .int (2:Int32) [(.int (((val.toUInt64>>>((32:Int32)&&&0x3f).toInt64.toUInt64).toInt64).toInt32)),(.int (0:Int32))] (.int (0:Int32)):=U
  refine ak 69 43 X15 a ?_
  refine aE 72 44 40 X15 a e15 f fun T16 X16 e16=> ?_
  refine aB 73 45 1 X16 a ?_
  refine eW 74 46 X16 a ?_
  refine gn 75 47 X16 a ?_
  refine iY 76 1 48 X16 a e16 k fun T17 h17 X17 e17 w W=> ?_
  have N17:=Fr.snoc X17 V E
  have KP:=KP.wr w (Or.inr y)
  have b:=b.wr w
  have h:=h.other w (Or.inl u)
  have f:=f.other w (Or.inl u)
  have j:=j.wr w
  have k:Arv Z h17 b12 k12 .int (2:Int32) [(.int (((val.toUInt64>>>((32:Int32)&&&0x3f).toInt64.toUInt64).toInt64).toInt32)),(.int (val.toInt32))] (.int (0:Int32)):=W
  exact jE 49 X17 a hret G (by rw[e17];exact ⟨rfl,N17,KP,b12,k12,E,y,Or.inr ⟨_,_,⟨b,h,f,k,j⟩,hz,Gi hz x⟩⟩)
def UH (Z:State)(val:Int64)(pc:Addr)(kp:ClassId)(b:List Value)(c:Value)(h0:Heap)(n0:Nat)(v:Option Value)(h:Heap)(L:List Loc):Prop:= ∃(x a:Addr) (k:ClassId),v=some (.ref x)∧Fr n0 L∧Keep h0 h []∧jZ Z h x a k val.toInt
theorem xK (l:Launch)(Z:State)(a0:Array Value)(hw: ∀d∈tables_1,d.before a0 Z=true)(ws:List Jvm.Cond)(val:Int64)(pc:Addr)(kp:ClassId)(k:List Value)(n:Value)(h0:Heap)(n0:Nat)(Z0:n0≤h0.size)(b:Old Z n0 h0)(o:0≤val.toInt∧val.toInt<9007199254740992)(r0:0<val.toInt)(SP:Sta Z Z.heap "java/math/BigInteger" "posConst" "[Ljava/math/BigInteger;" (.ref pc))(HP:uO Z pc kp k n):
  bp l (⟨"java/math/BigInteger","valueOf","(J)Ljava/math/BigInteger;"⟩:MethodName) (Jvm.Cond.code (⟨"java/math/BigInteger","valueOf","(J)Ljava/math/BigInteger;"⟩:MethodName) jdk_2097_method_29_code 2 (some (.object "java/math/BigInteger"))::ws) ({frames:=3,cells:=2,slots:=8,locals:=50}:Room) #[(.long val)] Z h0 (UH Z val pc kp k n h0 n0):=by
 refine bI (plainFor_of_name gF) (fun m=>Qs m val) fun p e s m J K c s₁ hx q r w (f:s.vm.findClass "java/math/BigInteger"=some m.cls) hnm hret X0 hZ e0=> ?_
 have D:=fj q CW
 have a:=bG hx q CW f hZ w hw
 have N0:=Fr.nil n0
 have KP:Keep h0 h0 []:=Keep.refl _ _
 refine eW 1 0 X0 a ?_
 refine jl 2 1 0 X0 a ?_
 refine iq 3 2 X0 a ?_
 refine bk 10 3 X0 a rfl ((if0 _ _).trans (feq (Gl r0)).2) ?_
 refine eW 11 6 X0 a ?_
 refine jl 12 7 0 X0 a ?_
 refine iq 13 8 X0 a ?_
 refine bw 16 9 X0 a rfl ((if0 _ _).trans (tlt (Gn r0)).2.2.2) ?_
 refine eW 17 10 X0 a ?_
 refine bO 20 26 11 X0 a ?_
 refine iq 21 12 X0 a ?_
 by_cases h16:(0:Int32)<(lcmpW val (16:Int64))
 ·refine bk 31 13 X0 a rfl ((if0 _ _).trans (tlt h16).2.2.1) ?_
  refine eW 32 19 X0 a ?_
  refine jl 33 20 0 X0 a ?_
  refine iq 34 21 X0 a ?_
  refine bk 53 22 X0 a rfl ((if0 _ _).trans (flt (zX o)).2.1) ?_
  obtain ⟨T20,h20,X20,e20,E20,A20,h,-,st20⟩:=newO X0 hx hZ f (aj hw 71 rfl) (aj hw 72 rfl) (aj hw 24 rfl) e0 (g:=(mkF m 53 #[.val (.long val),.second] [])) rfl (D 33 rfl) (by decide) (by decide)
  obtain ⟨b20,g20⟩: ∃z,z=h0.size:=⟨_,rfl⟩
  rw[←g20] at A20 h st20
  have t:h0.size≤b20:=Nat.le_trans KP.1 (Nat.le_of_eq g20.symm)
  have x:n0≤b20:=Nat.le_trans Z0 t
  have b:=b.ext E20
  have KP:=KP.ext E20
  have y:Exa Z h20 b20 "java/math/BigInteger":=A20
  have A:Fld Z h20 b20 "java/math/BigInteger" "signum" "I" (.int (0:Int32)):=h (Or.inr (aj hw 39 rfl)) (ty:= .int) (by decide)
  have B:Fld Z h20 b20 "java/math/BigInteger" "mag" "[I" .null:=h (Or.inr (aj hw 41 rfl)) (ty:=(.array .int)) (by decide)
  refine aG (mkF m 56 #[.val (.long val),.second] [(.ref b20)]) st20 ?_
  refine jh 57 34 X20 a ?_
  refine eW 58 35 X20 a ?_
  refine iJ 61 1 1 2 8 36 87 88 24 89 X20 a (UF l Z a0 hw [] b20 val h20 n0 (Nat.le_trans Z0 KP.1) b x y A B o r0) P9 e20 rfl fun _ T21 L X21 C=> ?_
  obtain ⟨rfl,E,F,ba,ka,-,-,G⟩:=C
  have H:=Fr.app N0 E
  have KP:=KP.trans F (allS (Or.inr t) all0)
  refine aJ [_] ?_
  exact dU 37 X21 a hret r (by exact ⟨b20,ba,ka,rfl,H,KP,G⟩)
 ·refine bw 24 13 X0 a rfl ((if0 _ _).trans (flt h16).2.2.1) ?_
  obtain ⟨T18,X18,e18,st18⟩:=getS2 X0 hx hZ f (host:="") (Or.inl (aj hw 27 rfl)) Via.refl e0 (SP.ext b.2) (g:=(mkF m 24 #[.val (.long val),.second] [])) rfl (D 14 rfl)
  refine aG (mkF m 27 #[.val (.long val),.second] [(.ref pc)]) st18 ?_
  refine eW 28 15 X18 a ?_
  refine gn 29 16 X18 a ?_
  obtain ⟨q1,q2,q3,q4,q5,q6⟩:=Gk r0 h16
  obtain ⟨px,pa,pk,pe,pB⟩:=HP.2 _ q1 q2
  have PA:=HP.1.ext b.2
  obtain ⟨M,i,-,I,-,H19,-⟩:=id PA
  have u:=inb_of I ⟨q4,q5⟩
  refine aG (mkF m 30 #[.val (.long val),.second] [(.ref px)]) (X18.aaload hx (j:=(val.toInt32)) (v:=(.ref px)) (by rw[e18];exact i.1) (State.isArrayOf_alike hZ.alike i.2.1) rfl i.2.2 u (H19.at u pe) (g:=(mkF m 29 #[.val (.long val),.second] [(.int (val.toInt32)),(.ref pc)])) rfl rfl (D 17 rfl)) ?_
  exact dU 18 X18 a hret r (by rw[e18];exact ⟨px,pa,pk,rfl,N0,KP,Or.inl ⟨_,pB.ext b.2,q6,q3⟩⟩)
def UJ (Z:State)(y:Int32)(h0:Heap)(n0:Nat)(v:Option Value)(h:Heap)(L:List Loc):Prop:= ∃r:Int32,v=some (.int r)∧Fr n0 L∧h=h0∧GK y r
theorem Eo (l:Launch)(Z:State)(a0:Array Value)(hw: ∀d∈tables_1,d.before a0 Z=true)(ws:List Jvm.Cond)(y:Int32)(h0:Heap)(n0:Nat)(Z0:n0≤h0.size)(r:Old Z n0 h0):
  bp l (⟨"java/lang/Integer","bitCount","(I)I"⟩:MethodName) (Jvm.Cond.code (⟨"java/lang/Integer","bitCount","(I)I"⟩:MethodName) jdk_33_method_49_code 1 (some .int)::ws) ({frames:=0,cells:=0,slots:=0,locals:=0}:Room) #[(.int y)] Z h0 (UJ Z y h0 n0):=by
 refine bI (plainFor_of_name zm) (fun m=>Qt m y) fun p e s m t u c s₁ hx b f g (h:s.vm.findClass "java/lang/Integer"=some m.cls) hnm hret X0 hZ e0=> ?_
 have a:=bG hx b Lv h hZ g hw
 have N0:=Fr.nil n0
 refine au 1 0 X0 a ?_
 refine au 2 1 X0 a ?_
 refine aB 3 2 1 X0 a ?_
 refine jw 4 3 X0 a ?_
 refine rj 7 49 4 X0 a ?_
 refine pz 8 5 X0 a ?_
 refine dQ 9 6 X0 a ?_
 generalize i:(y-(((y.toUInt32>>>((1:Int32)&&&31).toUInt32).toInt32)&&&(1431655765:Int32)))=i1
 refine eO 10 7 #[_] X0 a ?_
 refine au 11 8 X0 a ?_
 refine rj 14 50 9 X0 a ?_
 refine pz 15 10 X0 a ?_
 refine au 16 11 X0 a ?_
 refine aB 17 12 2 X0 a ?_
 refine jw 18 13 X0 a ?_
 refine rj 21 50 14 X0 a ?_
 refine pz 22 15 X0 a ?_
 refine bJ 23 16 X0 a ?_
 generalize j:((i1&&&(858993459:Int32))+(((i1.toUInt32>>>((2:Int32)&&&31).toUInt32).toInt32)&&&(858993459:Int32)))=i2
 refine eO 24 17 #[_] X0 a ?_
 refine au 25 18 X0 a ?_
 refine au 26 19 X0 a ?_
 refine aB 27 20 4 X0 a ?_
 refine jw 28 21 X0 a ?_
 refine bJ 29 22 X0 a ?_
 refine rj 32 51 23 X0 a ?_
 refine pz 33 24 X0 a ?_
 generalize k:((i2+((i2.toUInt32>>>((4:Int32)&&&31).toUInt32).toInt32))&&&(252645135:Int32))=i3
 refine eO 34 25 #[_] X0 a ?_
 refine au 35 26 X0 a ?_
 refine au 36 27 X0 a ?_
 refine bT 38 28 8 X0 a ?_
 refine jw 39 29 X0 a ?_
 refine bJ 40 30 X0 a ?_
 generalize n:(i3+((i3.toUInt32>>>((8:Int32)&&&31).toUInt32).toInt32))=i4
 refine eO 41 31 #[_] X0 a ?_
 refine au 42 32 X0 a ?_
 refine au 43 33 X0 a ?_
 refine bT 45 34 16 X0 a ?_
 refine jw 46 35 X0 a ?_
 refine bJ 47 36 X0 a ?_
 generalize o:(i4+((i4.toUInt32>>>((16:Int32)&&&31).toUInt32).toInt32))=i5
 refine eO 48 37 #[_] X0 a ?_
 refine au 49 38 X0 a ?_
 refine bT 51 39 63 X0 a ?_
 refine pz 52 40 X0 a ?_
 exact gg 41 X0 a hret f (by rw[e0];exact ⟨_,rfl,N0,rfl,fun q=>GA i j k n o q⟩)
def uj (Z:State)(y:Int32)(h0:Heap)(n0:Nat)(v:Option Value)(h:Heap)(L:List Loc):Prop:=v=some (.int (pR y))∧Fr n0 L∧h=h0
theorem Ep (l:Launch)(Z:State)(a0:Array Value)(hw: ∀d∈tables_1,d.before a0 Z=true)(ws:List Jvm.Cond)(y:Int32)(h0:Heap)(n0:Nat)(Z0:n0≤h0.size)(L:Old Z n0 h0):
  bp l (⟨"java/lang/Integer","numberOfTrailingZeros","(I)I"⟩:MethodName) (Jvm.Cond.code (⟨"java/lang/Integer","numberOfTrailingZeros","(I)I"⟩:MethodName) jdk_33_method_48_code 2 (some .int)::ws) ({frames:=0,cells:=0,slots:=0,locals:=0}:Room) #[(.int y)] Z h0 (uj Z y h0 n0):=by
 refine bI (plainFor_of_name zm) (fun m=>Qu m y) fun p e s m b M c s₁ hx n f o (t:s.vm.findClass "java/lang/Integer"=some m.cls) hnm hret X0 hZ e0=> ?_
 have a:=bG hx n LJ t hZ o hw
 have N0:=Fr.nil n0
 refine au 1 0 X0 a ?_
 refine aB 2 1 (-1) X0 a ?_
 refine yJ 3 2 X0 a ?_
 refine au 4 3 X0 a ?_
 refine aB 5 4 1 X0 a ?_
 refine dQ 6 5 X0 a ?_
 refine pz 7 6 X0 a ?_
 generalize g:((y^^^(-1:Int32))&&&(y-(1:Int32)))=i0
 refine eO 8 7 #[_,_] X0 a ?_
 refine au 9 8 X0 a ?_
 by_cases hp:(0:Int32)<i0
 ·refine bk 17 9 X0 a rfl ((if0 _ _).trans (tlt hp).2.2.1) ?_
  refine aB 18 14 1 X0 a ?_
  refine eO 19 15 #[_,_] X0 a ?_
  refine au 20 16 X0 a ?_
  refine rj 23 218 17 X0 a ?_
  suffices h: ∀i1:Int32,((65536:Int32)<i0→i1=((i0.toUInt32>>>((16:Int32)&&&31).toUInt32).toInt32))→(¬(65536:Int32)<i0→i1=i0)→ ∀n1:Int32,((65536:Int32)<i0→n1=(17:Int32))→(¬(65536:Int32)<i0→n1=(1:Int32))→ay p e b (gb s (uj Z y h0 n0) ({frames:=0,cells:=0,slots:=0,locals:=0}:Room).cells ({frames:=0,cells:=0,slots:=0,locals:=0}:Room).slots) s₁ (mkF m 34 #[iv i1,iv n1] []) from by
   by_cases hj0:(65536:Int32)<i0
   ·refine bY 26 18 X0 a rfl (tlt hj0).2.2.2 ?_
    refine dG 29 19 #[_,iv 17] X0 a ?_
    refine au 30 20 X0 a ?_
    refine bT 32 21 16 X0 a ?_
    refine jw 33 22 X0 a ?_
    refine eO 34 23 #[_,_] X0 a ?_
    exact h ((i0.toUInt32>>>((16:Int32)&&&31).toUInt32).toInt32) (fun _=>rfl) (fun q=>absurd hj0 q) (17:Int32) (fun _=>rfl) (fun q=>absurd hj0 q)
   ·refine bQ 34 18 X0 a rfl (flt hj0).2.2.2 ?_
    exact h i0 (fun q=>absurd q hj0) (fun _=>rfl) (1:Int32) (fun q=>absurd q hj0) (fun _=>rfl)
  intro i1 u v n1 w x
  refine au 35 24 X0 a ?_
  refine Av 38 25 256 X0 a ?_
  suffices i: ∀i2:Int32,((256:Int32)<i1→i2=((i1.toUInt32>>>((8:Int32)&&&31).toUInt32).toInt32))→(¬(256:Int32)<i1→i2=i1)→ ∀n2:Int32,((256:Int32)<i1→n2=(n1+(8:Int32)))→(¬(256:Int32)<i1→n2=n1)→ay p e b (gb s (uj Z y h0 n0) ({frames:=0,cells:=0,slots:=0,locals:=0}:Room).cells ({frames:=0,cells:=0,slots:=0,locals:=0}:Room).slots) s₁ (mkF m 49 #[iv i2,iv n2] []) from by
   by_cases hj1:(256:Int32)<i1
   ·refine bY 41 26 X0 a rfl (tlt hj1).2.2.2 ?_
    refine dG 44 27 #[_,iv (n1+(8:Int32))] X0 a ?_
    refine au 45 28 X0 a ?_
    refine bT 47 29 8 X0 a ?_
    refine jw 48 30 X0 a ?_
    refine eO 49 31 #[_,_] X0 a ?_
    exact i ((i1.toUInt32>>>((8:Int32)&&&31).toUInt32).toInt32) (fun _=>rfl) (fun q=>absurd hj1 q) (n1+(8:Int32)) (fun _=>rfl) (fun q=>absurd hj1 q)
   ·refine bQ 49 26 X0 a rfl (flt hj1).2.2.2 ?_
    exact i i1 (fun q=>absurd q hj1) (fun _=>rfl) n1 (fun q=>absurd q hj1) (fun _=>rfl)
  intro i2 z A n2 B C
  refine au 50 32 X0 a ?_
  refine bT 52 33 16 X0 a ?_
  suffices j: ∀i3:Int32,((16:Int32)<i2→i3=((i2.toUInt32>>>((4:Int32)&&&31).toUInt32).toInt32))→(¬(16:Int32)<i2→i3=i2)→ ∀n3:Int32,((16:Int32)<i2→n3=(n2+(4:Int32)))→(¬(16:Int32)<i2→n3=n2)→ay p e b (gb s (uj Z y h0 n0) ({frames:=0,cells:=0,slots:=0,locals:=0}:Room).cells ({frames:=0,cells:=0,slots:=0,locals:=0}:Room).slots) s₁ (mkF m 62 #[iv i3,iv n3] []) from by
   by_cases hj2:(16:Int32)<i2
   ·refine bY 55 34 X0 a rfl (tlt hj2).2.2.2 ?_
    refine dG 58 35 #[_,iv (n2+(4:Int32))] X0 a ?_
    refine au 59 36 X0 a ?_
    refine aB 60 37 4 X0 a ?_
    refine jw 61 38 X0 a ?_
    refine eO 62 39 #[_,_] X0 a ?_
    exact j ((i2.toUInt32>>>((4:Int32)&&&31).toUInt32).toInt32) (fun _=>rfl) (fun q=>absurd hj2 q) (n2+(4:Int32)) (fun _=>rfl) (fun q=>absurd hj2 q)
   ·refine bQ 62 34 X0 a rfl (flt hj2).2.2.2 ?_
    exact j i2 (fun q=>absurd q hj2) (fun _=>rfl) n2 (fun q=>absurd q hj2) (fun _=>rfl)
  intro i3 D E n3 F G
  refine au 63 40 X0 a ?_
  refine aB 64 41 4 X0 a ?_
  suffices k: ∀i4:Int32,((4:Int32)<i3→i4=((i3.toUInt32>>>((2:Int32)&&&31).toUInt32).toInt32))→(¬(4:Int32)<i3→i4=i3)→ ∀n4:Int32,((4:Int32)<i3→n4=(n3+(2:Int32)))→(¬(4:Int32)<i3→n4=n3)→ay p e b (gb s (uj Z y h0 n0) ({frames:=0,cells:=0,slots:=0,locals:=0}:Room).cells ({frames:=0,cells:=0,slots:=0,locals:=0}:Room).slots) s₁ (mkF m 74 #[iv i4,iv n4] []) from by
   by_cases hj3:(4:Int32)<i3
   ·refine bY 67 42 X0 a rfl (tlt hj3).2.2.2 ?_
    refine dG 70 43 #[_,iv (n3+(2:Int32))] X0 a ?_
    refine au 71 44 X0 a ?_
    refine aB 72 45 2 X0 a ?_
    refine jw 73 46 X0 a ?_
    refine eO 74 47 #[_,_] X0 a ?_
    exact k ((i3.toUInt32>>>((2:Int32)&&&31).toUInt32).toInt32) (fun _=>rfl) (fun q=>absurd hj3 q) (n3+(2:Int32)) (fun _=>rfl) (fun q=>absurd hj3 q)
   ·refine bQ 74 42 X0 a rfl (flt hj3).2.2.2 ?_
    exact k i3 (fun q=>absurd q hj3) (fun _=>rfl) n3 (fun q=>absurd q hj3) (fun _=>rfl)
  intro i4 H I n4 J K
  refine au 75 48 X0 a ?_
  refine au 76 49 X0 a ?_
  refine aB 77 50 1 X0 a ?_
  refine jw 78 51 X0 a ?_
  refine bJ 79 52 X0 a ?_
  exact gg 53 X0 a hret f (by rw[e0];exact ⟨congrArg (fun r=>some (Value.int r)) (GH g hp (uU u v w x) (uU z A B C) (uU D E F G) (uU H I J K)),N0,rfl⟩)
 ·refine bw 12 9 X0 a rfl ((if0 _ _).trans (flt hp).2.2.1) ?_
  refine au 13 10 X0 a ?_
  refine bT 15 11 32 X0 a ?_
  refine pz 16 12 X0 a ?_
  exact gg 13 X0 a hret f (by rw[e0];exact ⟨congrArg (fun r=>some (Value.int r)) (GI g hp),N0,rfl⟩)
def UK (Z:State)(fr to:Int32)(h0:Heap)(n0:Nat)(v:Option Value)(h:Heap)(L:List Loc):Prop:=v=none∧Fr n0 L∧h=h0
theorem xL (l:Launch)(Z:State)(a0:Array Value)(hw: ∀d∈tables_1,d.before a0 Z=true)(ws:List Jvm.Cond)(fr to:Int32)(h0:Heap)(n0:Nat)(Z0:n0≤h0.size)(i:Old Z n0 h0)(hft: ¬(to<fr)):
  bp l (⟨"java/util/Arrays","checkLength","(II)V"⟩:MethodName) (Jvm.Cond.code (⟨"java/util/Arrays","checkLength","(II)V"⟩:MethodName) jdk_65_method_131_code 2 none::ws) ({frames:=0,cells:=0,slots:=0,locals:=0}:Room) #[(.int fr),(.int to)] Z h0 (UK Z fr to h0 n0):=by
 refine bI (plainFor_of_name og) (fun m=>Qv m fr to) fun p e s m j k c s₁ hx b f g (h:s.vm.findClass "java/util/Arrays"=some m.cls) hnm hret X0 hZ e0=> ?_
 have a:=bG hx b Mf h hZ g hw
 have N0:=Fr.nil n0
 refine au 1 0 X0 a ?_
 refine au 2 1 X0 a ?_
 refine bQ 37 2 X0 a rfl (flt hft).2.1 ?_
 exact jE 17 X0 a hret f (by rw[e0];exact ⟨rfl,N0,rfl⟩)
def UM (Z:State)(aa bb:Int32)(h0:Heap)(n0:Nat)(v:Option Value)(h:Heap)(L:List Loc):Prop:=v=some (.int bb)∧Fr n0 L∧h=h0
theorem xM (l:Launch)(Z:State)(a0:Array Value)(hw: ∀d∈tables_1,d.before a0 Z=true)(ws:List Jvm.Cond)(aa bb:Int32)(h0:Heap)(n0:Nat)(Z0:n0≤h0.size)(i:Old Z n0 h0)(hab: ¬(aa<bb)):
  bp l (⟨"java/lang/Math","min","(II)I"⟩:MethodName) (Jvm.Cond.code (⟨"java/lang/Math","min","(II)I"⟩:MethodName) jdk_29_method_69_code 2 (some .int)::ws) ({frames:=0,cells:=0,slots:=0,locals:=0}:Room) #[(.int aa),(.int bb)] Z h0 (UM Z aa bb h0 n0):=by
 refine bI (Jvm.Free.JP.mathPlain rfl (by decide+kernel)) (fun m=>Qw m aa bb) fun p e s m j k c s₁ hx f b g (h:s.vm.findClass "java/lang/Math"=some m.cls) hnm hret X0 hZ e0=> ?_
 have a:=bG hx f Mh h hZ g hw
 have N0:=Fr.nil n0
 refine au 1 0 X0 a ?_
 refine au 2 1 X0 a ?_
 by_cases hm:bb<aa
 ·refine bQ 9 2 X0 a rfl (tlt hm).2.2.1 ?_
  refine au 10 5 X0 a ?_
  exact gg 6 X0 a hret b (by rw[e0];exact ⟨rfl,N0,rfl⟩)
 ·refine bY 5 2 X0 a rfl (flt hm).2.2.1 ?_
  refine au 6 3 X0 a ?_
  refine bL 10 4 X0 a ?_
  exact gg 6 X0 a hret b (by rw[e0];exact ⟨congrArg (fun r=>some (Value.int r)) (GN hm hab),N0,rfl⟩)
def UN (Z:State)(lo hi len:Int32)(h0:Heap)(n0:Nat)(v:Option Value)(h:Heap)(L:List Loc):Prop:=v=some (.int lo)∧Fr n0 L∧h=h0
theorem UO (l:Launch)(Z:State)(a0:Array Value)(hw: ∀d∈tables_1,d.before a0 Z=true)(ws:List Jvm.Cond)(lo hi len:Int32)(h0:Heap)(n0:Nat)(Z0:n0≤h0.size)(i:Old Z n0 h0)(q1: ¬(lo<(0:Int32)))(q2: ¬(hi<lo))(q3: ¬(len<hi)):
  bp l (⟨"jdk/internal/util/Preconditions","checkFromToIndex","(IIILjava/util/function/BiFunction;)I"⟩:MethodName) (Jvm.Cond.code (⟨"jdk/internal/util/Preconditions","checkFromToIndex","(IIILjava/util/function/BiFunction;)I"⟩:MethodName) jdk_41_method_12_code 4 (some .int)::ws) ({frames:=0,cells:=0,slots:=0,locals:=0}:Room) #[(.int lo),(.int hi),(.int len),.null] Z h0 (UN Z lo hi len h0 n0):=by
 refine bI (plainFor_of_name Qi) (fun m=>Qx m lo hi len) fun p e s m j k c s₁ hx b f g (h:s.vm.findClass "jdk/internal/util/Preconditions"=some m.cls) hnm hret X0 hZ e0=> ?_
 have a:=bG hx b Mj h hZ g hw
 have N0:=Fr.nil n0
 refine au 1 0 X0 a ?_
 refine bw 4 1 X0 a rfl ((if0 _ _).trans (flt q1).1) ?_
 refine au 5 2 X0 a ?_
 refine au 6 3 X0 a ?_
 refine bY 9 4 X0 a rfl (flt q2).2.2.1 ?_
 refine au 10 5 X0 a ?_
 refine au 11 6 X0 a ?_
 refine bQ 22 7 X0 a rfl (flt q3).2.2.2 ?_
 refine au 23 14 X0 a ?_
 exact gg 15 X0 a hret f (by rw[e0];exact ⟨rfl,N0,rfl⟩)
def UQ (Z:State)(lo hi len:Int32)(h0:Heap)(n0:Nat)(v:Option Value)(h:Heap)(L:List Loc):Prop:=v=some (.int lo)∧Fr n0 L∧h=h0
theorem qI (l:Launch)(Z:State)(a0:Array Value)(hw: ∀d∈tables_1,d.before a0 Z=true)(ws:List Jvm.Cond)(lo hi len:Int32)(h0:Heap)(n0:Nat)(Z0:n0≤h0.size)(b:Old Z n0 h0)(q1: ¬(lo<(0:Int32)))(q2: ¬(hi<lo))(q3: ¬(len<hi)):
  bp l (⟨"java/util/Objects","checkFromToIndex","(III)I"⟩:MethodName) (Jvm.Cond.code (⟨"java/util/Objects","checkFromToIndex","(III)I"⟩:MethodName) jdk_31_method_18_code 3 (some .int)::ws) ({frames:=1,cells:=0,slots:=0,locals:=16}:Room) #[(.int lo),(.int hi),(.int len)] Z h0 (UQ Z lo hi len h0 n0):=by
 refine bI (plainFor_of_name Ej) (fun m=>Qy m lo hi len) fun p e s m o q c s₁ hx f g h (i:s.vm.findClass "java/util/Objects"=some m.cls) hnm hret X0 hZ e0=> ?_
 have a:=bG hx f Mn i hZ h hw
 have N0:=Fr.nil n0
 have KP:Keep h0 h0 []:=Keep.refl _ _
 refine au 1 0 X0 a ?_
 refine au 2 1 X0 a ?_
 refine au 3 2 X0 a ?_
 refine vu 4 3 X0 a ?_
 refine bZ 7 4 0 0 0 4 236 237 238 239 X0 a (UO l Z a0 hw [] lo hi len h0 n0 (Nat.le_trans Z0 KP.1) b q1 q2 q3) P_ e0 fun _ T26 r X26 j=> ?_
 obtain ⟨rfl,k,e26⟩:=j
 have n:=Fr.app N0 k
 refine aJ [_] ?_
 exact gg 5 X26 a hret g (by rw[e26];exact ⟨rfl,n,rfl⟩)
def UW (Z:State)(a:Addr)(ka:ClassId)(u0 u1:Int32)(h0:Heap)(n0:Nat)(v:Option Value)(h:Heap)(L:List Loc):Prop:= ∃(b:Addr) (kb:ClassId),v=some (.ref b)∧Fr n0 L∧Keep h0 h []∧n0≤b∧h0.size≤b∧Arv Z h b kb .int (1:Int32) [(.int u1)] (.int (0:Int32))∧Exa Z h b "[I"
theorem UY (l:Launch)(Z:State)(a0:Array Value)(hw: ∀d∈tables_1,d.before a0 Z=true)(ws:List Jvm.Cond)(a:Addr)(ka:ClassId)(u0 u1:Int32)(h0:Heap)(n0:Nat)(Z0:n0≤h0.size)(h:Old Z n0 h0)(i:Arv Z h0 a ka .int (2:Int32) [(.int u0),(.int u1)] (.int (0:Int32))):
  bp l (⟨"java/util/Arrays","copyOfRangeInt","([III)[I"⟩:MethodName) (Jvm.Cond.code (⟨"java/util/Arrays","copyOfRangeInt","([III)[I"⟩:MethodName) jdk_65_method_137_code 5 (some (.array .int))::ws) ({frames:=1,cells:=1,slots:=1,locals:=40}:Room) #[(.ref a),(.int (1:Int32)),(.int (2:Int32))] Z h0 (UW Z a ka u0 u1 h0 n0):=by
 refine bI (plainFor_of_name og) (fun m=>Qz m a (1:Int32) (2:Int32)) fun p e s m L M c s₁ hx q A r (t:s.vm.findClass "java/util/Arrays"=some m.cls) hnm hret X0 hZ e0=> ?_
 have D:=fj q qB
 have b:=bG hx q qB t hZ r hw
 have N0:=Fr.nil n0
 have KP:Keep h0 h0 []:=Keep.refl _ _
 refine au 1 0 X0 b ?_
 refine au 2 1 X0 b ?_
 refine bZ 5 2 0 0 0 2 61 62 56 63 X0 b (xL l Z a0 hw [] (1:Int32) (2:Int32) h0 n0 (Nat.le_trans Z0 KP.1) h (by decide)) w_ e0 fun _ T27 N X27 B=> ?_
 obtain ⟨rfl,C,e27⟩:=B
 have E:=Fr.app N0 C
 refine aJ [] ?_
 refine au 6 3 X27 b ?_
 refine au 7 4 X27 b ?_
 refine dQ 8 5 X27 b (z:=(1:Int32)) ?_
 refine eO 9 6 #[_,_,_,_,_] X27 b ?_
 refine au 10 7 X27 b ?_
 obtain ⟨T28,h28,j,X28,e28,E28,u,v,st28⟩:=newPE X27 hx hZ (aj hw 52 rfl) e27 (g:=(mkF m 10 #[rv a,iv 1,iv 2,iv 1,.unset] [(.int (1:Int32))])) rfl (D 8 rfl) rfl (by decide) (cap:=1) (by decide) (by decide) (by decide) (by decide) (ad:="[I") (by decide)
 obtain ⟨f,g28⟩: ∃z,z=h0.size:=⟨_,rfl⟩
 rw[←g28] at u v st28
 have k:h0.size≤f:=Nat.le_trans KP.1 (Nat.le_of_eq g28.symm)
 have w:n0≤f:=Nat.le_trans Z0 k
 have h:=h.ext E28
 have KP:=KP.ext E28
 have i:=i.ext E28
 have n:Exa Z h28 f "[I":=v
 have o:Arv Z h28 f j .int (1:Int32) [(.int (0:Int32))] (.int (0:Int32)):=(Arv.new u (by decide)).pad (pad_rep [] (.int (0:Int32)) 1)
 refine aG (mkF m 12 #[rv a,iv 1,iv 2,iv 1,.unset] [(.ref f)]) st28 ?_
 refine gY 14 9 #[_,_,_,_,_] X28 b ?_
 refine ak 15 10 X28 b ?_
 refine au 16 11 X28 b ?_
 refine aR 18 12 X28 b ?_
 refine aB 19 13 0 X28 b ?_
 refine ak 20 14 X28 b ?_
 refine bU 21 15 X28 b e28 i ?_
 refine au 22 16 X28 b ?_
 refine dQ 23 17 X28 b (z:=(1:Int32)) ?_
 refine au 24 18 X28 b ?_
 refine bZ 27 2 4 1 1 19 64 65 3 66 X28 b (xM l Z a0 hw [] (1:Int32) (1:Int32) h28 n0 (Nat.le_trans Z0 KP.1) h (by decide)) xg e28 fun _ T29 O X29 F=> ?_
 obtain ⟨rfl,G,H⟩:=F
 have N29:=Fr.app E G
 refine aJ [_,_,_,_,_] ?_
 obtain ⟨P,h30,Q,x,e30,I,y,J,K⟩:=cpA X29 hx hZ t (aj hw 67 rfl) (aj hw 70 rfl) (aj hw 68 rfl) (aj hw 69 rfl) H i o (us:= [(.int u1)]) (Or.inl ⟨rfl,rfl⟩) (by decide) (by decide) (by decide) (by decide) (by decide) rfl (Nat.le_of_ble_eq_true rfl) N29 w (g:=(mkF m 27 #[rv a,iv 1,iv 2,iv 1,rv f] [(.int (1:Int32)),(.int (0:Int32)),(.ref f),(.int (1:Int32)),(.ref a)])) rfl (by rw[r];rfl) rfl (D 20 rfl) (by decide) (W:=0) (by show 2*0+_≤_;exact Nat.le_of_eq rfl) (by decide)
 have KP:=KP.trans y (allS (Or.inr k) all0)
 have n:=n.keep y
 have o:Arv Z h30 f j .int (1:Int32) [(.int u1)] (.int (0:Int32)):=J
 refine aG (mkF m 30 #[rv a,iv 1,iv 2,iv 1,rv f] []) K ?_
 refine aR 32 21 x b ?_
 exact dU 22 x b hret A (by rw[e30];exact ⟨f,j,rfl,I,KP,w,k,o,n⟩)
def UZ (Z:State)(a:Addr)(ka:ClassId)(u0 u1:Int32)(h0:Heap)(n0:Nat)(v:Option Value)(h:Heap)(L:List Loc):Prop:= ∃(b:Addr) (kb:ClassId),v=some (.ref b)∧Fr n0 L∧Keep h0 h []∧n0≤b∧h0.size≤b∧Arv Z h b kb .int (1:Int32) [(.int u1)] (.int (0:Int32))∧Exa Z h b "[I"
theorem U_ (l:Launch)(Z:State)(a0:Array Value)(hw: ∀d∈tables_1,d.before a0 Z=true)(ws:List Jvm.Cond)(a:Addr)(ka:ClassId)(u0 u1:Int32)(h0:Heap)(n0:Nat)(Z0:n0≤h0.size)(f:Old Z n0 h0)(g:Arv Z h0 a ka .int (2:Int32) [(.int u0),(.int u1)] (.int (0:Int32))):
  bp l (⟨"java/util/Arrays","copyOfRange","([III)[I"⟩:MethodName) (Jvm.Cond.code (⟨"java/util/Arrays","copyOfRange","([III)[I"⟩:MethodName) jdk_65_method_136_code 3 (some (.array .int))::ws) ({frames:=2,cells:=1,slots:=1,locals:=58}:Room) #[(.ref a),(.int (1:Int32)),(.int (2:Int32))] Z h0 (UZ Z a ka u0 u1 h0 n0):=by
 refine bI (plainFor_of_name og) (fun m=>QI m a (1:Int32) (2:Int32)) fun p e s m z A c s₁ hx h i j (k:s.vm.findClass "java/util/Arrays"=some m.cls) hnm hret X0 hZ e0=> ?_
 have b:=bG hx h qD k hZ j hw
 have N0:=Fr.nil n0
 have KP:Keep h0 h0 []:=Keep.refl _ _
 refine au 1 0 X0 b ?_
 refine bk 10 1 X0 b rfl ((if0 _ _).trans (feq (by decide: ¬((1:Int32)=(0:Int32)))).2) ?_
 refine ak 11 6 X0 b ?_
 refine au 12 7 X0 b ?_
 refine au 13 8 X0 b ?_
 have n:=KP
 refine bZ 16 3 0 1 1 9 58 59 56 60 X0 b (UY l Z a0 hw [] a ka u0 u1 h0 n0 (Nat.le_trans Z0 KP.1) f g) pL e0 fun _ T31 B X31 o=> ?_
 obtain ⟨bb,q,rfl,r,t,u,v,w⟩:=o
 have x:=Fr.app N0 r
 have KP:=KP.trans t all0
 refine aJ [_] ?_
 have y:h0.size≤bb:=Nat.le_trans n.1 v
 exact dU 10 X31 b hret i (by exact ⟨bb,q,rfl,x,KP,u,y,w⟩)
def Vd (Z:State)(a:Addr)(ka:ClassId)(u0 u1 u2:Int32)(h0:Heap)(n0:Nat)(v:Option Value)(h:Heap)(L:List Loc):Prop:= ∃(b:Addr) (kb:ClassId),v=some (.ref b)∧Fr n0 L∧Keep h0 h []∧n0≤b∧h0.size≤b∧Arv Z h b kb .int (2:Int32) [(.int u1),(.int u2)] (.int (0:Int32))∧Exa Z h b "[I"
theorem Ve (l:Launch)(Z:State)(a0:Array Value)(hw: ∀d∈tables_1,d.before a0 Z=true)(ws:List Jvm.Cond)(a:Addr)(ka:ClassId)(u0 u1 u2:Int32)(h0:Heap)(n0:Nat)(Z0:n0≤h0.size)(h:Old Z n0 h0)(i:Arv Z h0 a ka .int (3:Int32) [(.int u0),(.int u1),(.int u2)] (.int (0:Int32))):
  bp l (⟨"java/util/Arrays","copyOfRangeInt","([III)[I"⟩:MethodName) (Jvm.Cond.code (⟨"java/util/Arrays","copyOfRangeInt","([III)[I"⟩:MethodName) jdk_65_method_137_code 5 (some (.array .int))::ws) ({frames:=1,cells:=1,slots:=2,locals:=40}:Room) #[(.ref a),(.int (1:Int32)),(.int (3:Int32))] Z h0 (Vd Z a ka u0 u1 u2 h0 n0):=by
 refine bI (plainFor_of_name og) (fun m=>QJ m a (1:Int32) (3:Int32)) fun p e s m O P c s₁ hx t C u (v:s.vm.findClass "java/util/Arrays"=some m.cls) hnm hret X0 hZ e0=> ?_
 have D:=fj t qB
 have b:=bG hx t qB v hZ u hw
 have N0:=Fr.nil n0
 have KP:Keep h0 h0 []:=Keep.refl _ _
 refine au 1 0 X0 b ?_
 refine au 2 1 X0 b ?_
 refine bZ 5 2 0 0 0 2 61 62 56 63 X0 b (xL l Z a0 hw [] (1:Int32) (3:Int32) h0 n0 (Nat.le_trans Z0 KP.1) h (by decide)) w_ e0 fun _ T32 Q X32 E=> ?_
 obtain ⟨rfl,F,e32⟩:=E
 have G:=Fr.app N0 F
 refine aJ [] ?_
 refine au 6 3 X32 b ?_
 refine au 7 4 X32 b ?_
 refine dQ 8 5 X32 b (z:=(2:Int32)) ?_
 refine eO 9 6 #[_,_,_,_,_] X32 b ?_
 refine au 10 7 X32 b ?_
 obtain ⟨T33,j,k,X33,e33,n,w,x,st33⟩:=newPE X32 hx hZ (aj hw 52 rfl) e32 (g:=(mkF m 10 #[rv a,iv 1,iv 3,iv 2,.unset] [(.int (2:Int32))])) rfl (D 8 rfl) rfl (by decide) (cap:=2) (by decide) (by decide) (by decide) (by decide) (ad:="[I") (by decide)
 obtain ⟨f,y⟩: ∃z,z=h0.size:=⟨_,rfl⟩
 rw[←y] at w x st33
 have o:h0.size≤f:=Nat.le_trans KP.1 (Nat.le_of_eq y.symm)
 have A:n0≤f:=Nat.le_trans Z0 o
 have h:=h.ext n
 have KP:=KP.ext n
 have i:=i.ext n
 have q:Exa Z j f "[I":=x
 have r:Arv Z j f k .int (2:Int32) [(.int (0:Int32)),(.int (0:Int32))] (.int (0:Int32)):=(Arv.new w (by decide)).pad (pad_rep [] (.int (0:Int32)) 2)
 refine aG (mkF m 12 #[rv a,iv 1,iv 3,iv 2,.unset] [(.ref f)]) st33 ?_
 refine gY 14 9 #[_,_,_,_,_] X33 b ?_
 refine ak 15 10 X33 b ?_
 refine au 16 11 X33 b ?_
 refine aR 18 12 X33 b ?_
 refine aB 19 13 0 X33 b ?_
 refine ak 20 14 X33 b ?_
 refine bU 21 15 X33 b e33 i ?_
 refine au 22 16 X33 b ?_
 refine dQ 23 17 X33 b (z:=(2:Int32)) ?_
 refine au 24 18 X33 b ?_
 refine bZ 27 2 4 1 2 19 64 65 3 66 X33 b (xM l Z a0 hw [] (2:Int32) (2:Int32) j n0 (Nat.le_trans Z0 KP.1) h (by decide)) xg e33 fun _ T34 R X34 H=> ?_
 obtain ⟨rfl,I,J⟩:=H
 have K:=Fr.app G I
 refine aJ [_,_,_,_,_] ?_
 obtain ⟨T35,h35,S,X35,L,M,B,N,st35⟩:=cpA X34 hx hZ v (aj hw 67 rfl) (aj hw 70 rfl) (aj hw 68 rfl) (aj hw 69 rfl) J i r (us:= [(.int u1),(.int u2)]) (Or.inl ⟨rfl,rfl⟩) (by decide) (by decide) (by decide) (by decide) (by decide) rfl (Nat.le_of_ble_eq_true rfl) K A (g:=(mkF m 27 #[rv a,iv 1,iv 3,iv 2,rv f] [(.int (2:Int32)),(.int (0:Int32)),(.ref f),(.int (1:Int32)),(.ref a)])) rfl (by rw[u];rfl) rfl (D 20 rfl) (by decide) (W:=0) (by show 2*0+_≤_;exact Nat.le_of_eq rfl) (by decide)
 have KP:=KP.trans B (allS (Or.inr o) all0)
 have q:=q.keep B
 have r:Arv Z h35 f k .int (2:Int32) [(.int u1),(.int u2)] (.int (0:Int32)):=N
 refine aG (mkF m 30 #[rv a,iv 1,iv 3,iv 2,rv f] []) st35 ?_
 refine aR 32 21 X35 b ?_
 exact dU 22 X35 b hret C (by rw[L];exact ⟨f,k,rfl,M,KP,A,o,r,q⟩)
def Vf (Z:State)(a:Addr)(ka:ClassId)(u0 u1 u2:Int32)(h0:Heap)(n0:Nat)(v:Option Value)(h:Heap)(L:List Loc):Prop:= ∃(b:Addr) (kb:ClassId),v=some (.ref b)∧Fr n0 L∧Keep h0 h []∧n0≤b∧h0.size≤b∧Arv Z h b kb .int (2:Int32) [(.int u1),(.int u2)] (.int (0:Int32))∧Exa Z h b "[I"
theorem Vg (l:Launch)(Z:State)(a0:Array Value)(hw: ∀d∈tables_1,d.before a0 Z=true)(ws:List Jvm.Cond)(a:Addr)(ka:ClassId)(u0 u1 u2:Int32)(h0:Heap)(n0:Nat)(Z0:n0≤h0.size)(f:Old Z n0 h0)(g:Arv Z h0 a ka .int (3:Int32) [(.int u0),(.int u1),(.int u2)] (.int (0:Int32))):
  bp l (⟨"java/util/Arrays","copyOfRange","([III)[I"⟩:MethodName) (Jvm.Cond.code (⟨"java/util/Arrays","copyOfRange","([III)[I"⟩:MethodName) jdk_65_method_136_code 3 (some (.array .int))::ws) ({frames:=2,cells:=1,slots:=2,locals:=58}:Room) #[(.ref a),(.int (1:Int32)),(.int (3:Int32))] Z h0 (Vf Z a ka u0 u1 u2 h0 n0):=by
 refine bI (plainFor_of_name og) (fun m=>QO m a (1:Int32) (3:Int32)) fun p e s m A B c s₁ hx h i j (k:s.vm.findClass "java/util/Arrays"=some m.cls) hnm hret X0 hZ e0=> ?_
 have b:=bG hx h qD k hZ j hw
 have N0:=Fr.nil n0
 have KP:Keep h0 h0 []:=Keep.refl _ _
 refine au 1 0 X0 b ?_
 refine bk 10 1 X0 b rfl ((if0 _ _).trans (feq (by decide: ¬((1:Int32)=(0:Int32)))).2) ?_
 refine ak 11 6 X0 b ?_
 refine au 12 7 X0 b ?_
 refine au 13 8 X0 b ?_
 have n:=KP
 refine bZ 16 3 0 1 2 9 58 59 56 60 X0 b (Ve l Z a0 hw [] a ka u0 u1 u2 h0 n0 (Nat.le_trans Z0 KP.1) f g) pL e0 fun _ C D o q=> ?_
 obtain ⟨bb,r,rfl,t,u,v,w,x⟩:=q
 have y:=Fr.app N0 t
 have KP:=KP.trans u all0
 refine aJ [_] ?_
 have z:h0.size≤bb:=Nat.le_trans n.1 w
 exact dU 10 o b hret i (by exact ⟨bb,r,rfl,y,KP,v,z,x⟩)
def Vh (Z:State)(a:Addr)(ka:ClassId)(u0 u1 u2 u3:Int32)(h0:Heap)(n0:Nat)(v:Option Value)(h:Heap)(L:List Loc):Prop:= ∃(b:Addr) (kb:ClassId),v=some (.ref b)∧Fr n0 L∧Keep h0 h []∧n0≤b∧h0.size≤b∧Arv Z h b kb .int (3:Int32) [(.int u1),(.int u2),(.int u3)] (.int (0:Int32))∧Exa Z h b "[I"
theorem Vi (l:Launch)(Z:State)(a0:Array Value)(hw: ∀d∈tables_1,d.before a0 Z=true)(ws:List Jvm.Cond)(a:Addr)(ka:ClassId)(u0 u1 u2 u3:Int32)(h0:Heap)(n0:Nat)(Z0:n0≤h0.size)(h:Old Z n0 h0)(i:Arv Z h0 a ka .int (4:Int32) [(.int u0),(.int u1),(.int u2),(.int u3)] (.int (0:Int32))):
  bp l (⟨"java/util/Arrays","copyOfRangeInt","([III)[I"⟩:MethodName) (Jvm.Cond.code (⟨"java/util/Arrays","copyOfRangeInt","([III)[I"⟩:MethodName) jdk_65_method_137_code 5 (some (.array .int))::ws) ({frames:=1,cells:=1,slots:=3,locals:=40}:Room) #[(.ref a),(.int (1:Int32)),(.int (4:Int32))] Z h0 (Vh Z a ka u0 u1 u2 u3 h0 n0):=by
 refine bI (plainFor_of_name og) (fun m=>QV m a (1:Int32) (4:Int32)) fun p e s m U V c s₁ hx t F u (v:s.vm.findClass "java/util/Arrays"=some m.cls) hnm hret X0 hZ e0=> ?_
 have D:=fj t qB
 have b:=bG hx t qB v hZ u hw
 have N0:=Fr.nil n0
 have KP:Keep h0 h0 []:=Keep.refl _ _
 refine au 1 0 X0 b ?_
 refine au 2 1 X0 b ?_
 refine bZ 5 2 0 0 0 2 61 62 56 63 X0 b (xL l Z a0 hw [] (1:Int32) (4:Int32) h0 n0 (Nat.le_trans Z0 KP.1) h (by decide)) w_ e0 fun _ T37 X X37 G=> ?_
 obtain ⟨rfl,H,I⟩:=G
 have J:=Fr.app N0 H
 refine aJ [] ?_
 refine au 6 3 X37 b ?_
 refine au 7 4 X37 b ?_
 refine dQ 8 5 X37 b (z:=(3:Int32)) ?_
 refine eO 9 6 #[_,_,_,_,_] X37 b ?_
 refine au 10 7 X37 b ?_
 obtain ⟨T38,j,k,X38,w,n,x,y,st38⟩:=newPE X37 hx hZ (aj hw 52 rfl) I (g:=(mkF m 10 #[rv a,iv 1,iv 4,iv 3,.unset] [(.int (3:Int32))])) rfl (D 8 rfl) rfl (by decide) (cap:=3) (by decide) (by decide) (by decide) (by decide) (ad:="[I") (by decide)
 obtain ⟨f,A⟩: ∃z,z=h0.size:=⟨_,rfl⟩
 rw[←A] at x y st38
 have o:h0.size≤f:=Nat.le_trans KP.1 (Nat.le_of_eq A.symm)
 have B:n0≤f:=Nat.le_trans Z0 o
 have h:=h.ext n
 have KP:=KP.ext n
 have i:=i.ext n
 have q:Exa Z j f "[I":=y
 have r:Arv Z j f k .int (3:Int32) [(.int (0:Int32)),(.int (0:Int32)),(.int (0:Int32))] (.int (0:Int32)):=(Arv.new x (by decide)).pad (pad_rep [] (.int (0:Int32)) 3)
 refine aG (mkF m 12 #[rv a,iv 1,iv 4,iv 3,.unset] [(.ref f)]) st38 ?_
 refine gY 14 9 #[_,_,_,_,_] X38 b ?_
 refine ak 15 10 X38 b ?_
 refine au 16 11 X38 b ?_
 refine aR 18 12 X38 b ?_
 refine aB 19 13 0 X38 b ?_
 refine ak 20 14 X38 b ?_
 refine bU 21 15 X38 b w i ?_
 refine au 22 16 X38 b ?_
 refine dQ 23 17 X38 b (z:=(3:Int32)) ?_
 refine au 24 18 X38 b ?_
 refine bZ 27 2 4 1 3 19 64 65 3 66 X38 b (xM l Z a0 hw [] (3:Int32) (3:Int32) j n0 (Nat.le_trans Z0 KP.1) h (by decide)) xg w fun _ Y ae K L=> ?_
 obtain ⟨rfl,M,N⟩:=L
 have O:=Fr.app J M
 refine aJ [_,_,_,_,_] ?_
 obtain ⟨af,P,ag,C,Q,R,E,S,T⟩:=cpA K hx hZ v (aj hw 67 rfl) (aj hw 70 rfl) (aj hw 68 rfl) (aj hw 69 rfl) N i r (us:= [(.int u1),(.int u2),(.int u3)]) (Or.inl ⟨rfl,rfl⟩) (by decide) (by decide) (by decide) (by decide) (by decide) rfl (Nat.le_of_ble_eq_true rfl) O B (g:=(mkF m 27 #[rv a,iv 1,iv 4,iv 3,rv f] [(.int (3:Int32)),(.int (0:Int32)),(.ref f),(.int (1:Int32)),(.ref a)])) rfl (by rw[u];rfl) rfl (D 20 rfl) (by decide) (W:=0) (by show 2*0+_≤_;exact Nat.le_of_eq rfl) (by decide)
 have KP:=KP.trans E (allS (Or.inr o) all0)
 have q:=q.keep E
 have r:Arv Z P f k .int (3:Int32) [(.int u1),(.int u2),(.int u3)] (.int (0:Int32)):=S
 refine aG (mkF m 30 #[rv a,iv 1,iv 4,iv 3,rv f] []) T ?_
 refine aR 32 21 C b ?_
 exact dU 22 C b hret F (by rw[Q];exact ⟨f,k,rfl,R,KP,B,o,r,q⟩)
def Vj (Z:State)(a:Addr)(ka:ClassId)(u0 u1 u2 u3:Int32)(h0:Heap)(n0:Nat)(v:Option Value)(h:Heap)(L:List Loc):Prop:= ∃(b:Addr) (kb:ClassId),v=some (.ref b)∧Fr n0 L∧Keep h0 h []∧n0≤b∧h0.size≤b∧Arv Z h b kb .int (3:Int32) [(.int u1),(.int u2),(.int u3)] (.int (0:Int32))∧Exa Z h b "[I"
theorem Vk (l:Launch)(Z:State)(a0:Array Value)(hw: ∀d∈tables_1,d.before a0 Z=true)(ws:List Jvm.Cond)(a:Addr)(ka:ClassId)(u0 u1 u2 u3:Int32)(h0:Heap)(n0:Nat)(Z0:n0≤h0.size)(f:Old Z n0 h0)(g:Arv Z h0 a ka .int (4:Int32) [(.int u0),(.int u1),(.int u2),(.int u3)] (.int (0:Int32))):
  bp l (⟨"java/util/Arrays","copyOfRange","([III)[I"⟩:MethodName) (Jvm.Cond.code (⟨"java/util/Arrays","copyOfRange","([III)[I"⟩:MethodName) jdk_65_method_136_code 3 (some (.array .int))::ws) ({frames:=2,cells:=1,slots:=3,locals:=58}:Room) #[(.ref a),(.int (1:Int32)),(.int (4:Int32))] Z h0 (Vj Z a ka u0 u1 u2 u3 h0 n0):=by
 refine bI (plainFor_of_name og) (fun m=>QW m a (1:Int32) (4:Int32)) fun p e s m z A c s₁ hx h i j (k:s.vm.findClass "java/util/Arrays"=some m.cls) hnm hret X0 hZ e0=> ?_
 have b:=bG hx h qD k hZ j hw
 have N0:=Fr.nil n0
 have KP:Keep h0 h0 []:=Keep.refl _ _
 refine au 1 0 X0 b ?_
 refine bk 10 1 X0 b rfl ((if0 _ _).trans (feq (by decide: ¬((1:Int32)=(0:Int32)))).2) ?_
 refine ak 11 6 X0 b ?_
 refine au 12 7 X0 b ?_
 refine au 13 8 X0 b ?_
 have n:=KP
 refine bZ 16 3 0 1 3 9 58 59 56 60 X0 b (Vi l Z a0 hw [] a ka u0 u1 u2 u3 h0 n0 (Nat.le_trans Z0 KP.1) f g) pL e0 fun _ T41 B X41 o=> ?_
 obtain ⟨bb,q,rfl,r,t,u,v,w⟩:=o
 have x:=Fr.app N0 r
 have KP:=KP.trans t all0
 refine aJ [_] ?_
 have y:h0.size≤bb:=Nat.le_trans n.1 v
 exact dU 10 X41 b hret i (by exact ⟨bb,q,rfl,x,KP,u,y,w⟩)
def Vl (Z:State)(bx a:Addr)(h0:Heap)(n0:Nat)(v:Option Value)(h:Heap)(L:List Loc):Prop:=v=none∧Fr n0 L∧Keep h0 h [bx]∧Exa Z h bx "java/math/BigInteger"∧Fld Z h bx "java/math/BigInteger" "signum" "I" (.int (1:Int32))∧Fld Z h bx "java/math/BigInteger" "mag" "[I" (.ref a)
theorem mq (l:Launch)(Z:State)(a0:Array Value)(hw: ∀d∈tables_1,d.before a0 Z=true)(ws:List Jvm.Cond)(bx a:Addr)(h0:Heap)(n0:Nat)(Z0:n0≤h0.size)(v:Old Z n0 h0)(q:n0≤bx)(f:Exa Z h0 bx "java/math/BigInteger")(h:Fld Z h0 bx "java/math/BigInteger" "signum" "I" (.int (0:Int32)))(g:Fld Z h0 bx "java/math/BigInteger" "mag" "[I" .null)(ka:ClassId)(zz:Int32)(vs:List Value)(r:a≠bx)(j:Arv Z h0 a ka .int zz vs (.int (0:Int32)))(hz0: ¬(zz=(0:Int32)))(hzM:zz<(67108864:Int32)):
  bp l (⟨"java/math/BigInteger","<init>","([II)V"⟩:MethodName) (Jvm.Cond.code (⟨"java/math/BigInteger","<init>","([II)V"⟩:MethodName) jdk_2097_method_25_code 3 none::ws) ({frames:=2,cells:=0,slots:=0,locals:=30}:Room) #[(.ref bx),(.ref a),(.int (1:Int32))] Z h0 (Vl Z bx a h0 n0):=by
 refine bI (plainFor_of_name gF) (fun m=>QZ m bx a (1:Int32)) fun p e s m K L c s₁ hx w x y (z:s.vm.findClass "java/math/BigInteger"=some m.cls) hnm hret X0 hZ e0=> ?_
 have b:=bG hx w Ms z hZ y hw
 have N0:=Fr.nil n0
 have KP:Keep h0 h0 [bx]:=Keep.refl _ _
 refine ak 1 0 X0 b ?_
 refine iJ 4 0 0 0 0 1 77 78 81 82 X0 b (Em l Z a0 hw [] bx h0 n0 (Nat.le_trans Z0 KP.1) v) pJ e0 rfl fun _ T42 M X42 A=> ?_
 obtain ⟨rfl,B,e42⟩:=A
 have C:=Fr.app N0 B
 refine aJ [] ?_
 refine ak 5 2 X42 b ?_
 refine ak 6 3 X42 b ?_
 refine bU 7 4 X42 b e42 j ?_
 refine bk 14 5 X42 b rfl ((if0 _ _).trans (feq hz0).2) ?_
 refine au 15 8 X42 b ?_
 refine fh 18 9 38 72 X42 b e42 h f (Or.inr ⟨(aj hw 39 rfl),rfl,hnm⟩) (ty:= .int) fun T43 D X43 E k=> ?_
 have F:=Fr.snoc X43 C q
 have G:Fld Z D bx "java/math/BigInteger" "signum" "I" (.int (1:Int32)):=h.same k
 have KP:=KP.wr k (Or.inl (List.mem_of_getElem? (i:=0) rfl))
 have f:=f.wr k
 have g:=g.other k (Or.inr (slot_ne (Or.inr (aj hw 41 rfl)) (Or.inr (aj hw 39 rfl)) (by decide) (t:=(.array .int)) (t':= .int) (by decide) (by decide)))
 have j:=j.other k r
 have h:=G
 refine ak 19 10 X43 b ?_
 refine ak 20 11 X43 b ?_
 refine fh 23 12 40 72 X43 b E g f (Or.inr ⟨(aj hw 41 rfl),rfl,hnm⟩) (ty:=(.array .int)) fun N h44 o H n=> ?_
 have I:=Fr.snoc o F q
 have J:Fld Z h44 bx "java/math/BigInteger" "mag" "[I" (.ref a):=g.same n
 have KP:=KP.wr n (Or.inl (List.mem_of_getElem? (i:=0) rfl))
 have f:=f.wr n
 have h:=h.other n (Or.inr (slot_ne (Or.inr (aj hw 39 rfl)) (Or.inr (aj hw 41 rfl)) (by decide) (t:= .int) (t':=(.array .int)) (by decide) (by decide)))
 have j:=j.other n r
 have g:=J
 refine ak 24 13 o b ?_
 refine aE 27 14 40 o b H g fun T45 X45 u=> ?_
 refine bU 28 15 X45 b u j ?_
 refine mQ 30 86 16 X45 b ?_
 refine bQ 37 17 X45 b rfl (tlt hzM).1 ?_
 exact jE 20 X45 b hret x (by rw[u];exact ⟨rfl,I,KP,f,h,g⟩)
def Vn (Z:State)(b:Addr)(kb:ClassId)(a:Addr)(ka:ClassId)(x0 x1 sh u0 u1:Int32)(h0:Heap)(n0:Nat)(v:Option Value)(h:Heap)(L:List Loc):Prop:=v=none∧Fr n0 L∧Keep h0 h [b]∧Arv Z h b kb .int (2:Int32) [(.int ((x0<<<(sh&&&31))|||((x1.toUInt32>>>(((32:Int32)-sh)&&&31).toUInt32).toInt32))),(.int u1)] (.int (0:Int32))
theorem Vo (l:Launch)(Z:State)(a0:Array Value)(hw: ∀d∈tables_1,d.before a0 Z=true)(ws:List Jvm.Cond)(b:Addr)(kb:ClassId)(a:Addr)(ka:ClassId)(x0 x1 sh u0 u1:Int32)(h0:Heap)(n0:Nat)(Z0:n0≤h0.size)(y:Old Z n0 h0)(j:n0≤b)(z:a≠b)(h:Arv Z h0 a ka .int (2:Int32) [(.int x0),(.int x1)] (.int (0:Int32)))(g:Arv Z h0 b kb .int (2:Int32) [(.int u0),(.int u1)] (.int (0:Int32))):
  bp l (⟨"java/math/BigInteger","shiftLeftImplWorker","([I[IIII)V"⟩:MethodName) (Jvm.Cond.code (⟨"java/math/BigInteger","shiftLeftImplWorker","([I[IIII)V"⟩:MethodName) jdk_2097_method_103_code 7 none::ws) ({frames:=0,cells:=0,slots:=0,locals:=0}:Room) #[(.ref b),(.ref a),(.int (0:Int32)),(.int sh),(.int (1:Int32))] Z h0 (Vn Z b kb a ka x0 x1 sh u0 u1 h0 n0):=by
 refine bI (plainFor_of_name gF) (fun m=>Q5 m b a (0:Int32) sh (1:Int32)) fun p e s m A B c s₁ hx k n o (q:s.vm.findClass "java/math/BigInteger"=some m.cls) hnm hret X0 hZ e0=> ?_
 have f:=bG hx k wg q hZ o hw
 have N0:=Fr.nil n0
 have KP:Keep h0 h0 [b]:=Keep.refl _ _
 refine bT 2 0 32 X0 f ?_
 refine au 3 1 X0 f ?_
 refine dQ 4 2 X0 f ?_
 refine bh 6 3 #[_,_,_,_,_,_,_] X0 f ?_
 refine aB 7 4 0 X0 f ?_
 refine bh 9 5 #[_,_,_,_,_,_,_] X0 f ?_
 refine aq 11 6 X0 f ?_
 refine aq 13 7 X0 f ?_
 refine bY 16 8 X0 f rfl (tlt (by decide:(0:Int32)<(1:Int32))).2.1 ?_
 refine ak 17 9 X0 f ?_
 refine au 18 10 X0 f ?_
 refine dG 21 11 #[_,_,iv 1,_,_,_,_] X0 f ?_
 refine ak 22 12 X0 f ?_
 refine aq 24 13 X0 f ?_
 refine dG 27 14 #[_,_,_,_,_,_,iv 1] X0 f ?_
 refine eY 28 15 X0 f e0 h (x:=x0) ?_
 refine au 29 16 X0 f ?_
 refine nG 30 17 X0 f ?_
 refine ak 31 18 X0 f ?_
 refine aq 33 19 X0 f ?_
 refine eY 34 20 X0 f e0 h (x:=x1) ?_
 refine aq 36 21 X0 f ?_
 refine jw 37 22 X0 f ?_
 refine sY 38 23 X0 f ?_
 refine iY 39 0 24 X0 f e0 g fun T46 r X46 t u v=> ?_
 have w:=Fr.snoc X46 N0 j
 have KP:=KP.wr u (Or.inl (List.mem_of_getElem? (i:=0) rfl))
 have g:Arv Z r b kb .int (2:Int32) [(.int ((x0<<<(sh&&&31))|||((x1.toUInt32>>>(((32:Int32)-sh)&&&31).toUInt32).toInt32))),(.int u1)] (.int (0:Int32)):=v
 refine bL 9 25 X46 f ?_
 refine aq 11 6 X46 f ?_
 refine aq 13 7 X46 f ?_
 refine bQ 42 8 X46 f rfl (flt (by decide: ¬((1:Int32)<(1:Int32)))).2.1 ?_
 exact jE 26 X46 f hret n (by rw[t];exact ⟨rfl,w,KP,g⟩)
def Vp (Z:State)(b:Addr)(kb:ClassId)(a:Addr)(ka:ClassId)(x0 x1 sh u0 u1 u2:Int32)(h0:Heap)(n0:Nat)(v:Option Value)(h:Heap)(L:List Loc):Prop:=v=none∧Fr n0 L∧Keep h0 h [b]∧Arv Z h b kb .int (3:Int32) [(.int u0),(.int ((x0<<<(sh&&&31))|||((x1.toUInt32>>>(((32:Int32)-sh)&&&31).toUInt32).toInt32))),(.int u2)] (.int (0:Int32))
theorem Vq (l:Launch)(Z:State)(a0:Array Value)(hw: ∀d∈tables_1,d.before a0 Z=true)(ws:List Jvm.Cond)(b:Addr)(kb:ClassId)(a:Addr)(ka:ClassId)(x0 x1 sh u0 u1 u2:Int32)(h0:Heap)(n0:Nat)(Z0:n0≤h0.size)(z:Old Z n0 h0)(k:n0≤b)(A:a≠b)(j:Arv Z h0 a ka .int (2:Int32) [(.int x0),(.int x1)] (.int (0:Int32)))(h:Arv Z h0 b kb .int (3:Int32) [(.int u0),(.int u1),(.int u2)] (.int (0:Int32))):
  bp l (⟨"java/math/BigInteger","shiftLeftImplWorker","([I[IIII)V"⟩:MethodName) (Jvm.Cond.code (⟨"java/math/BigInteger","shiftLeftImplWorker","([I[IIII)V"⟩:MethodName) jdk_2097_method_103_code 7 none::ws) ({frames:=0,cells:=0,slots:=0,locals:=0}:Room) #[(.ref b),(.ref a),(.int (1:Int32)),(.int sh),(.int (1:Int32))] Z h0 (Vp Z b kb a ka x0 x1 sh u0 u1 u2 h0 n0):=by
 refine bI (plainFor_of_name gF) (fun m=>Q7 m b a (1:Int32) sh (1:Int32)) fun p e s m B C c s₁ hx n o q (r:s.vm.findClass "java/math/BigInteger"=some m.cls) hnm hret X0 hZ e0=> ?_
 have f:=bG hx n wg r hZ q hw
 have N0:=Fr.nil n0
 have KP:Keep h0 h0 [b]:=Keep.refl _ _
 refine bT 2 0 32 X0 f ?_
 refine au 3 1 X0 f ?_
 refine dQ 4 2 X0 f ?_
 refine bh 6 3 #[_,_,_,_,_,_,_] X0 f ?_
 refine aB 7 4 0 X0 f ?_
 refine bh 9 5 #[_,_,_,_,_,_,_] X0 f ?_
 refine aq 11 6 X0 f ?_
 refine aq 13 7 X0 f ?_
 refine bY 16 8 X0 f rfl (tlt (by decide:(0:Int32)<(1:Int32))).2.1 ?_
 refine ak 17 9 X0 f ?_
 refine au 18 10 X0 f ?_
 refine dG 21 11 #[_,_,iv 2,_,_,_,_] X0 f ?_
 refine ak 22 12 X0 f ?_
 refine aq 24 13 X0 f ?_
 refine dG 27 14 #[_,_,_,_,_,_,iv 1] X0 f ?_
 refine eY 28 15 X0 f e0 j (x:=x0) ?_
 refine au 29 16 X0 f ?_
 refine nG 30 17 X0 f ?_
 refine ak 31 18 X0 f ?_
 refine aq 33 19 X0 f ?_
 refine eY 34 20 X0 f e0 j (x:=x1) ?_
 refine aq 36 21 X0 f ?_
 refine jw 37 22 X0 f ?_
 refine sY 38 23 X0 f ?_
 refine iY 39 1 24 X0 f e0 h fun D t g u v w=> ?_
 have y:=Fr.snoc g N0 k
 have KP:=KP.wr v (Or.inl (List.mem_of_getElem? (i:=0) rfl))
 have h:Arv Z t b kb .int (3:Int32) [(.int u0),(.int ((x0<<<(sh&&&31))|||((x1.toUInt32>>>(((32:Int32)-sh)&&&31).toUInt32).toInt32))),(.int u2)] (.int (0:Int32)):=w
 refine bL 9 25 g f ?_
 refine aq 11 6 g f ?_
 refine aq 13 7 g f ?_
 refine bQ 42 8 g f rfl (flt (by decide: ¬((1:Int32)<(1:Int32)))).2.1 ?_
 exact jE 26 g f hret o (by rw[u];exact ⟨rfl,y,KP,h⟩)
def Vr (Z:State)(b a:Addr)(sh:Int32)(h0:Heap)(n0:Nat)(v:Option Value)(h:Heap)(L:List Loc):Prop:=v=none∧Fr n0 L∧h=h0
theorem Vt (l:Launch)(Z:State)(a0:Array Value)(hw: ∀d∈tables_1,d.before a0 Z=true)(ws:List Jvm.Cond)(b a:Addr)(sh:Int32)(h0:Heap)(n0:Nat)(Z0:n0≤h0.size)(k:Old Z n0 h0):
  bp l (⟨"java/math/BigInteger","shiftLeftImplWorker","([I[IIII)V"⟩:MethodName) (Jvm.Cond.code (⟨"java/math/BigInteger","shiftLeftImplWorker","([I[IIII)V"⟩:MethodName) jdk_2097_method_103_code 7 none::ws) ({frames:=0,cells:=0,slots:=0,locals:=0}:Room) #[(.ref b),(.ref a),(.int (0:Int32)),(.int sh),(.int (0:Int32))] Z h0 (Vr Z b a sh h0 n0):=by
 refine bI (plainFor_of_name gF) (fun m=>Q_ m b a (0:Int32) sh (0:Int32)) fun p e s m n o c s₁ hx g h i (j:s.vm.findClass "java/math/BigInteger"=some m.cls) hnm hret X0 hZ e0=> ?_
 have f:=bG hx g wg j hZ i hw
 have N0:=Fr.nil n0
 refine bT 2 0 32 X0 f ?_
 refine au 3 1 X0 f ?_
 refine dQ 4 2 X0 f ?_
 refine bh 6 3 #[_,_,_,_,_,_,_] X0 f ?_
 refine aB 7 4 0 X0 f ?_
 refine bh 9 5 #[_,_,_,_,_,_,_] X0 f ?_
 refine aq 11 6 X0 f ?_
 refine aq 13 7 X0 f ?_
 refine bQ 42 8 X0 f rfl (flt (by decide: ¬((0:Int32)<(0:Int32)))).2.1 ?_
 exact jE 26 X0 f hret h (by rw[e0];exact ⟨rfl,N0,rfl⟩)
def Vu (Z:State)(b a:Addr)(sh:Int32)(h0:Heap)(n0:Nat)(v:Option Value)(h:Heap)(L:List Loc):Prop:=v=none∧Fr n0 L∧h=h0
theorem Vv (l:Launch)(Z:State)(a0:Array Value)(hw: ∀d∈tables_1,d.before a0 Z=true)(ws:List Jvm.Cond)(b a:Addr)(sh:Int32)(h0:Heap)(n0:Nat)(Z0:n0≤h0.size)(k:Old Z n0 h0):
  bp l (⟨"java/math/BigInteger","shiftLeftImplWorker","([I[IIII)V"⟩:MethodName) (Jvm.Cond.code (⟨"java/math/BigInteger","shiftLeftImplWorker","([I[IIII)V"⟩:MethodName) jdk_2097_method_103_code 7 none::ws) ({frames:=0,cells:=0,slots:=0,locals:=0}:Room) #[(.ref b),(.ref a),(.int (1:Int32)),(.int sh),(.int (0:Int32))] Z h0 (Vu Z b a sh h0 n0):=by
 refine bI (plainFor_of_name gF) (fun m=>Rg m b a (1:Int32) sh (0:Int32)) fun p e s m n o c s₁ hx g h i (j:s.vm.findClass "java/math/BigInteger"=some m.cls) hnm hret X0 hZ e0=> ?_
 have f:=bG hx g wg j hZ i hw
 have N0:=Fr.nil n0
 refine bT 2 0 32 X0 f ?_
 refine au 3 1 X0 f ?_
 refine dQ 4 2 X0 f ?_
 refine bh 6 3 #[_,_,_,_,_,_,_] X0 f ?_
 refine aB 7 4 0 X0 f ?_
 refine bh 9 5 #[_,_,_,_,_,_,_] X0 f ?_
 refine aq 11 6 X0 f ?_
 refine aq 13 7 X0 f ?_
 refine bQ 42 8 X0 f rfl (flt (by decide: ¬((0:Int32)<(0:Int32)))).2.1 ?_
 exact jE 26 X0 f hret h (by rw[e0];exact ⟨rfl,N0,rfl⟩)
def Vw (Z:State)(a:Addr)(ka:ClassId)(x0 sh:Int32)(ks:Nat)(h0:Heap)(n0:Nat)(v:Option Value)(h:Heap)(L:List Loc):Prop:= ∃(b:Addr) (kb:ClassId),v=some (.ref b)∧Fr n0 L∧Keep h0 h []∧n0≤b∧h0.size≤b∧(Ab Z h b kb (ah x0*2^ks)∨yq Z h b kb (ah x0*2^ks))
theorem Vx (l:Launch)(Z:State)(a0:Array Value)(hw: ∀d∈tables_1,d.before a0 Z=true)(ws:List Jvm.Cond)(a:Addr)(ka:ClassId)(x0 sh:Int32)(ks:Nat)(h0:Heap)(n0:Nat)(Z0:n0≤h0.size)(h:Old Z n0 h0)(f:Arv Z h0 a ka .int (1:Int32) [(.int x0)] (.int (0:Int32)))(hx0: ¬x0=0)(hs:sh.toInt=(ks:Int))(hk:ks≤31):
  bp l (⟨"java/math/BigInteger","shiftLeft","([II)[I"⟩:MethodName) (Jvm.Cond.code (⟨"java/math/BigInteger","shiftLeft","([II)[I"⟩:MethodName) jdk_2097_method_102_code 10 (some (.array .int))::ws) ({frames:=2,cells:=1,slots:=2,locals:=40}:Room) #[(.ref a),(.int sh)] Z h0 (Vw Z a ka x0 sh ks h0 n0):=by
 refine bI (plainFor_of_name gF) (fun m=>Rh m a sh) fun p e s m bE bF c s₁ hx S G T (U:s.vm.findClass "java/math/BigInteger"=some m.cls) hnm hret X0 hZ e0=> ?_
 have D:=fj S wo
 have b:=bG hx S wo U hZ T hw
 have N0:=Fr.nil n0
 have KP:Keep h0 h0 []:=Keep.refl _ _
 refine au 1 0 X0 b ?_
 refine aB 2 1 5 X0 b ?_
 refine jw 3 2 X0 b ?_
 rw[yt hs hk]
 refine eO 4 3 #[_,_,_,_,_,_,_,_,_,_] X0 b ?_
 refine au 5 4 X0 b ?_
 refine bT 7 5 31 X0 b ?_
 refine pz 8 6 X0 b ?_
 rw[yu hs hk]
 refine eO 9 7 #[_,_,_,_,_,_,_,_,_,_] X0 b ?_
 refine ak 10 8 X0 b ?_
 refine bU 11 9 X0 b e0 f ?_
 refine bh 13 10 #[_,_,_,_,_,_,_,_,_,_] X0 b ?_
 refine vu 14 11 X0 b ?_
 refine gY 16 12 #[_,_,_,_,_,_,_,_,_,_] X0 b ?_
 refine au 17 13 X0 b ?_
 by_cases hs0:sh=(0:Int32)
 ·refine bw 20 14 X0 b rfl ((if0 _ _).trans (teq hs0).2) ?_
  refine aq 22 15 X0 b ?_
  refine au 23 16 X0 b ?_
  refine bJ 24 17 X0 b (z:=(1:Int32)) ?_
  obtain ⟨T48,h48,H,X48,e48,E48,V,X,Y⟩:=newPE X0 hx hZ (aj hw 52 rfl) e0 (g:=(mkF m 24 #[rv a,iv sh,iv 0,iv sh,iv 1,.val .null,.unset,.unset,.unset,.unset] [(.int (1:Int32))])) rfl (D 18 rfl) rfl (by decide) (cap:=1) (by decide) (by decide) (by decide) (by decide) (ad:="[I") (by decide)
  obtain ⟨j,g48⟩: ∃z,z=h0.size:=⟨_,rfl⟩
  rw[←g48] at V X Y
  have I:h0.size≤j:=Nat.le_trans KP.1 (Nat.le_of_eq g48.symm)
  have ae:n0≤j:=Nat.le_trans Z0 I
  have KP:=KP.ext E48
  have f:=f.ext E48
  have J:Exa Z h48 j "[I":=X
  have K:Arv Z h48 j H .int (1:Int32) [(.int (0:Int32))] (.int (0:Int32)):=(Arv.new V (by decide)).pad (pad_rep [] (.int (0:Int32)) 1)
  refine aG (mkF m 26 #[rv a,iv sh,iv 0,iv sh,iv 1,.val .null,.unset,.unset,.unset,.unset] [(.ref j)]) Y ?_
  refine gY 28 19 #[_,_,_,_,_,_,_,_,_,_] X48 b ?_
  refine ak 29 20 X48 b ?_
  refine aB 30 21 0 X48 b ?_
  refine aR 32 22 X48 b ?_
  refine aB 33 23 0 X48 b ?_
  refine aq 35 24 X48 b ?_
  obtain ⟨T49,aO,bH,X49,aP,aQ,af,aS,st49⟩:=cpA X48 hx hZ U (aj hw 203 rfl) (aj hw 70 rfl) (aj hw 68 rfl) (aj hw 69 rfl) e48 f K (us:= [(.int x0)]) (Or.inl ⟨rfl,rfl⟩) (by decide) (by decide) (by decide) (by decide) (by decide) rfl (Nat.le_of_ble_eq_true rfl) N0 ae (g:=(mkF m 35 #[rv a,iv sh,iv 0,iv sh,iv 1,rv j,.unset,.unset,.unset,.unset] [(.int (1:Int32)),(.int (0:Int32)),(.ref j),(.int (0:Int32)),(.ref a)])) rfl (by rw[T];rfl) rfl (D 25 rfl) (by decide) (W:=0) (by show 2*0+_≤_;exact Nat.le_of_eq rfl) (by decide)
  have KP:=KP.trans af (allS (Or.inr I) all0)
  have J:=J.keep af
  have K:Arv Z aO j H .int (1:Int32) [(.int x0)] (.int (0:Int32)):=aS
  refine aG (mkF m 38 #[rv a,iv sh,iv 0,iv sh,iv 1,rv j,.unset,.unset,.unset,.unset] []) st49 ?_
  refine bL 152 26 X49 b ?_
  refine aR 154 97 X49 b ?_
  exact dU 98 X49 b hret G (by rw[aP];exact ⟨j,H,rfl,aQ,KP,ae,I,Or.inl ⟨_,K,hx0,GP hs hs0,J⟩⟩)
 ·refine bk 41 14 X0 b rfl ((if0 _ _).trans (feq hs0).2) ?_
  refine aB 42 27 0 X0 b ?_
  refine bh 44 28 #[_,_,_,_,_,_,_,_,_,_] X0 b ?_
  refine bT 46 29 32 X0 b ?_
  refine au 47 30 X0 b ?_
  refine dQ 48 31 X0 b ?_
  refine bh 50 32 #[_,_,_,_,_,_,_,_,_,_] X0 b ?_
  refine ak 51 33 X0 b ?_
  refine aB 52 34 0 X0 b ?_
  refine eY 53 35 X0 b e0 f (x:=x0) ?_
  refine aq 55 36 X0 b ?_
  refine jw 56 37 X0 b ?_
  refine bh 58 38 #[_,_,_,_,_,_,_,_,_,_] X0 b ?_
  refine aq 60 39 X0 b ?_
  have h1s:=Ac hs hs0
  by_cases hh0:((x0.toUInt32>>>(((32:Int32)-sh)&&&31).toUInt32).toInt32)=(0:Int32)
  ·refine bk 86 40 X0 b rfl ((if0 _ _).trans (teq hh0).1) ?_
   refine aq 88 54 X0 b ?_
   refine au 89 55 X0 b ?_
   refine bJ 90 56 X0 b (z:=(1:Int32)) ?_
   obtain ⟨bK,v,L,i,ag,M,ai,al,am⟩:=newPE X0 hx hZ (aj hw 52 rfl) e0 (g:=(mkF m 90 #[rv a,iv sh,iv 0,iv sh,iv 1,.val .null,iv 0,iv ((32:Int32)-sh),iv ((x0.toUInt32>>>(((32:Int32)-sh)&&&31).toUInt32).toInt32),.unset] [(.int (1:Int32))])) rfl (D 57 rfl) rfl (by decide) (cap:=1) (by decide) (by decide) (by decide) (by decide) (ad:="[I") (by decide)
   obtain ⟨q,ao⟩: ∃z,z=h0.size:=⟨_,rfl⟩
   rw[←ao] at ai al am
   have N:h0.size≤q:=Nat.le_trans KP.1 (Nat.le_of_eq ao.symm)
   have av:n0≤q:=Nat.le_trans Z0 N
   have h:=h.ext M
   have KP:=KP.ext M
   have f:=f.ext M
   have O:Exa Z v q "[I":=al
   have y:Arv Z v q L .int (1:Int32) [(.int (0:Int32))] (.int (0:Int32)):=(Arv.new ai (by decide)).pad (pad_rep [] (.int (0:Int32)) 1)
   refine aG (mkF m 92 #[rv a,iv sh,iv 0,iv sh,iv 1,.val .null,iv 0,iv ((32:Int32)-sh),iv ((x0.toUInt32>>>(((32:Int32)-sh)&&&31).toUInt32).toInt32),.unset] [(.ref q)]) am ?_
   refine gY 94 58 #[_,_,_,_,_,_,_,_,_,_] i b ?_
   refine aq 96 59 i b ?_
   refine aB 97 60 1 i b ?_
   refine dQ 98 61 i b (z:=(0:Int32)) ?_
   refine bh 100 62 #[_,_,_,_,_,_,_,_,_,_] i b ?_
   refine aB 101 63 0 i b ?_
   refine aq 103 64 i b ?_
   refine aB 104 65 1 i b ?_
   refine bJ 105 66 i b (z:=(1:Int32)) ?_
   refine ak 106 67 i b ?_
   refine bU 107 68 i b ag f ?_
   refine bZ 110 3 0 1 1 69 232 233 234 235 i b (qI l Z a0 hw [] (0:Int32) (1:Int32) (1:Int32) v n0 (Nat.le_trans Z0 KP.1) h (by decide) (by decide) (by decide)) qG ag fun _ T51 bN X51 aT=> ?_
   obtain ⟨rfl,aU,aw⟩:=aT
   have aV:=Fr.app N0 aU
   refine aJ [_] ?_
   refine pX 111 70 X51 b ?_
   refine aq 113 71 X51 b ?_
   refine aq 115 72 X51 b ?_
   refine aq 117 73 X51 b ?_
   refine bJ 118 74 X51 b (z:=(0:Int32)) ?_
   refine aB 119 75 1 X51 b ?_
   refine bJ 120 76 X51 b (z:=(1:Int32)) ?_
   refine aR 122 77 X51 b ?_
   refine bU 123 78 X51 b aw y ?_
   refine bZ 126 3 0 1 1 79 232 233 234 235 X51 b (qI l Z a0 hw [] (0:Int32) (1:Int32) (1:Int32) v n0 (Nat.le_trans Z0 KP.1) h (by decide) (by decide) (by decide)) qG aw fun _ T52 bP X52 aX=> ?_
   obtain ⟨rfl,aZ,a5⟩:=aX
   have a6:=Fr.app aV aZ
   refine aJ [_] ?_
   refine pX 127 80 X52 b ?_
   refine aR 129 81 X52 b ?_
   refine ak 130 82 X52 b ?_
   refine aq 132 83 X52 b ?_
   refine au 133 84 X52 b ?_
   refine aq 135 85 X52 b ?_
   refine bZ 138 5 0 1 1 86 240 241 24 242 X52 b (Vt l Z a0 hw [] q a sh v n0 (Nat.le_trans Z0 KP.1) h) xt a5 fun _ bS bV k a7=> ?_
   obtain ⟨rfl,a8,ax⟩:=a7
   have a9:=Fr.app a6 a8
   refine aJ [] ?_
   refine aR 140 87 k b ?_
   refine aq 142 88 k b ?_
   refine aq 144 89 k b ?_
   refine bJ 145 90 k b (z:=(0:Int32)) ?_
   refine ak 146 91 k b ?_
   refine aq 148 92 k b ?_
   refine eY 149 93 k b ax f (x:=x0) ?_
   refine au 150 94 k b ?_
   refine nG 151 95 k b ?_
   refine iY 152 0 96 k b ax y fun T54 a_ X54 a' aA bb=> ?_
   have bd:=Fr.snoc X54 a9 av
   have KP:=KP.wr aA (Or.inr N)
   have O:=O.wr aA
   have y:Arv Z a_ q L .int (1:Int32) [(.int (x0<<<(sh&&&31)))] (.int (0:Int32)):=bb
   refine aR 154 97 X54 b ?_
   exact dU 98 X54 b hret G (by rw[a'];exact ⟨q,L,rfl,bd,KP,av,N,Or.inl ⟨_,y,GR hs h1s hk hh0 hx0,GW hs h1s hk hh0,O⟩⟩)
  ·refine bw 63 40 X0 b rfl ((if0 _ _).trans (feq hh0).1) ?_
   refine aq 65 41 X0 b ?_
   refine au 66 42 X0 b ?_
   refine bJ 67 43 X0 b (z:=(1:Int32)) ?_
   refine aB 68 44 1 X0 b ?_
   refine bJ 69 45 X0 b (z:=(2:Int32)) ?_
   obtain ⟨bX,aC,A,t,be,P,aD,aF,aH⟩:=newPE X0 hx hZ (aj hw 52 rfl) e0 (g:=(mkF m 69 #[rv a,iv sh,iv 0,iv sh,iv 1,.val .null,iv 0,iv ((32:Int32)-sh),iv ((x0.toUInt32>>>(((32:Int32)-sh)&&&31).toUInt32).toInt32),.unset] [(.int (2:Int32))])) rfl (D 46 rfl) rfl (by decide) (cap:=2) (by decide) (by decide) (by decide) (by decide) (ad:="[I") (by decide)
   obtain ⟨n,Q⟩: ∃z,z=h0.size:=⟨_,rfl⟩
   rw[←Q] at aD aF aH
   have B:h0.size≤n:=Nat.le_trans KP.1 (Nat.le_of_eq Q.symm)
   have C:n0≤n:=Nat.le_trans Z0 B
   have bf:a≠n:=Nat.ne_of_lt (Nat.lt_of_lt_of_le f.lt (Nat.le_of_eq Q.symm))
   have h:=h.ext P
   have KP:=KP.ext P
   have f:=f.ext P
   have w:Exa Z aC n "[I":=aF
   have u:Arv Z aC n A .int (2:Int32) [(.int (0:Int32)),(.int (0:Int32))] (.int (0:Int32)):=(Arv.new aD (by decide)).pad (pad_rep [] (.int (0:Int32)) 2)
   refine aG (mkF m 71 #[rv a,iv sh,iv 0,iv sh,iv 1,.val .null,iv 0,iv ((32:Int32)-sh),iv ((x0.toUInt32>>>(((32:Int32)-sh)&&&31).toUInt32).toInt32),.unset] [(.ref n)]) aH ?_
   refine gY 73 47 #[_,_,_,_,_,_,_,_,_,_] t b ?_
   refine aR 75 48 t b ?_
   refine aq 77 49 t b ?_
   refine dG 80 50 #[_,_,_,_,_,_,iv 1,_,_,_] t b ?_
   refine aq 82 51 t b ?_
   refine iY 83 0 52 t b be u fun T56 E X56 aK F bg=> ?_
   have bj:=Fr.snoc X56 N0 C
   have h:=h.wr F C
   have KP:=KP.wr F (Or.inr B)
   have f:=f.other F bf
   have w:=w.wr F
   have u:Arv Z E n A .int (2:Int32) [(.int ((x0.toUInt32>>>(((32:Int32)-sh)&&&31).toUInt32).toInt32)),(.int (0:Int32))] (.int (0:Int32)):=bg
   refine bL 94 53 X56 b ?_
   refine aq 96 59 X56 b ?_
   refine aB 97 60 1 X56 b ?_
   refine dQ 98 61 X56 b (z:=(0:Int32)) ?_
   refine bh 100 62 #[_,_,_,_,_,_,_,_,_,_] X56 b ?_
   refine aB 101 63 0 X56 b ?_
   refine aq 103 64 X56 b ?_
   refine aB 104 65 1 X56 b ?_
   refine bJ 105 66 X56 b (z:=(1:Int32)) ?_
   refine ak 106 67 X56 b ?_
   refine bU 107 68 X56 b aK f ?_
   refine bZ 110 3 0 1 2 69 232 233 234 235 X56 b (qI l Z a0 hw [] (0:Int32) (1:Int32) (1:Int32) E n0 (Nat.le_trans Z0 KP.1) h (by decide) (by decide) (by decide)) qG aK fun _ T57 b0 X57 bl=> ?_
   obtain ⟨rfl,bm,aL⟩:=bl
   have bn:=Fr.app bj bm
   refine aJ [_] ?_
   refine pX 111 70 X57 b ?_
   refine aq 113 71 X57 b ?_
   refine aq 115 72 X57 b ?_
   refine aq 117 73 X57 b ?_
   refine bJ 118 74 X57 b (z:=(1:Int32)) ?_
   refine aB 119 75 1 X57 b ?_
   refine bJ 120 76 X57 b (z:=(2:Int32)) ?_
   refine aR 122 77 X57 b ?_
   refine bU 123 78 X57 b aL u ?_
   refine bZ 126 3 0 1 2 79 232 233 234 235 X57 b (qI l Z a0 hw [] (1:Int32) (2:Int32) (2:Int32) E n0 (Nat.le_trans Z0 KP.1) h (by decide) (by decide) (by decide)) qG aL fun _ b5 b6 r bo=> ?_
   obtain ⟨rfl,bq,br⟩:=bo
   have bt:=Fr.app bn bq
   refine aJ [_] ?_
   refine pX 127 80 r b ?_
   refine aR 129 81 r b ?_
   refine ak 130 82 r b ?_
   refine aq 132 83 r b ?_
   refine au 133 84 r b ?_
   refine aq 135 85 r b ?_
   refine bZ 138 5 0 1 2 86 240 241 24 242 r b (Vv l Z a0 hw [] n a sh E n0 (Nat.le_trans Z0 KP.1) h) xt br fun _ b7 b8 o bu=> ?_
   obtain ⟨rfl,bv,aM⟩:=bu
   have bx:=Fr.app bt bv
   refine aJ [] ?_
   refine aR 140 87 o b ?_
   refine aq 142 88 o b ?_
   refine aq 144 89 o b ?_
   refine bJ 145 90 o b (z:=(1:Int32)) ?_
   refine ak 146 91 o b ?_
   refine aq 148 92 o b ?_
   refine eY 149 93 o b aM f (x:=x0) ?_
   refine au 150 94 o b ?_
   refine nG 151 95 o b ?_
   refine iY 152 1 96 o b aM u fun b9 bz R bA aN bB=> ?_
   have bC:=Fr.snoc R bx C
   have KP:=KP.wr aN (Or.inr B)
   have w:=w.wr aN
   have u:Arv Z bz n A .int (2:Int32) [(.int ((x0.toUInt32>>>(((32:Int32)-sh)&&&31).toUInt32).toInt32)),(.int (x0<<<(sh&&&31)))] (.int (0:Int32)):=bB
   refine aR 154 97 R b ?_
   exact dU 98 R b hret G (by rw[bA];exact ⟨n,A,rfl,bC,KP,C,B,Or.inr ⟨_,_,u,hh0,GS hs h1s hk,w⟩⟩)
def Vz (Z:State)(a:Addr)(ka:ClassId)(x0 x1 sh:Int32)(ks:Nat)(h0:Heap)(n0:Nat)(v:Option Value)(h:Heap)(L:List Loc):Prop:= ∃(b:Addr) (kb:ClassId),v=some (.ref b)∧Fr n0 L∧Keep h0 h []∧n0≤b∧h0.size≤b∧(yq Z h b kb ((ah x0*4294967296+ah x1)*2^ks)∨GL Z h b kb ((ah x0*4294967296+ah x1)*2^ks))
theorem VA (l:Launch)(Z:State)(a0:Array Value)(hw: ∀d∈tables_1,d.before a0 Z=true)(ws:List Jvm.Cond)(a:Addr)(ka:ClassId)(x0 x1 sh:Int32)(ks:Nat)(h0:Heap)(n0:Nat)(Z0:n0≤h0.size)(i:Old Z n0 h0)(f:Arv Z h0 a ka .int (2:Int32) [(.int x0),(.int x1)] (.int (0:Int32)))(hx0: ¬x0=0)(hs:sh.toInt=(ks:Int))(hk:ks≤31):
  bp l (⟨"java/math/BigInteger","shiftLeft","([II)[I"⟩:MethodName) (Jvm.Cond.code (⟨"java/math/BigInteger","shiftLeft","([II)[I"⟩:MethodName) jdk_2097_method_102_code 10 (some (.array .int))::ws) ({frames:=2,cells:=1,slots:=3,locals:=40}:Room) #[(.ref a),(.int sh)] Z h0 (Vz Z a ka x0 x1 sh ks h0 n0):=by
 refine bI (plainFor_of_name gF) (fun m=>Ri m a sh) fun p e s m b9 b_ c s₁ hx am N ao (av:s.vm.findClass "java/math/BigInteger"=some m.cls) hnm hret X0 hZ e0=> ?_
 have D:=fj am wo
 have b:=bG hx am wo av hZ ao hw
 have N0:=Fr.nil n0
 have KP:Keep h0 h0 []:=Keep.refl _ _
 refine au 1 0 X0 b ?_
 refine aB 2 1 5 X0 b ?_
 refine jw 3 2 X0 b ?_
 rw[yt hs hk]
 refine eO 4 3 #[_,_,_,_,_,_,_,_,_,_] X0 b ?_
 refine au 5 4 X0 b ?_
 refine bT 7 5 31 X0 b ?_
 refine pz 8 6 X0 b ?_
 rw[yu hs hk]
 refine eO 9 7 #[_,_,_,_,_,_,_,_,_,_] X0 b ?_
 refine ak 10 8 X0 b ?_
 refine bU 11 9 X0 b e0 f ?_
 refine bh 13 10 #[_,_,_,_,_,_,_,_,_,_] X0 b ?_
 refine vu 14 11 X0 b ?_
 refine gY 16 12 #[_,_,_,_,_,_,_,_,_,_] X0 b ?_
 refine au 17 13 X0 b ?_
 by_cases hs0:sh=(0:Int32)
 ·refine bw 20 14 X0 b rfl ((if0 _ _).trans (teq hs0).2) ?_
  refine aq 22 15 X0 b ?_
  refine au 23 16 X0 b ?_
  refine bJ 24 17 X0 b (z:=(2:Int32)) ?_
  obtain ⟨b',aw,O,w,a7,ax,aA,aC,aD⟩:=newPE X0 hx hZ (aj hw 52 rfl) e0 (g:=(mkF m 24 #[rv a,iv sh,iv 0,iv sh,iv 2,.val .null,.unset,.unset,.unset,.unset] [(.int (2:Int32))])) rfl (D 18 rfl) rfl (by decide) (cap:=2) (by decide) (by decide) (by decide) (by decide) (ad:="[I") (by decide)
  obtain ⟨n,aF⟩: ∃z,z=h0.size:=⟨_,rfl⟩
  rw[←aF] at aA aC aD
  have P:h0.size≤n:=Nat.le_trans KP.1 (Nat.le_of_eq aF.symm)
  have aH:n0≤n:=Nat.le_trans Z0 P
  have KP:=KP.ext ax
  have f:=f.ext ax
  have Q:Exa Z aw n "[I":=aC
  have R:Arv Z aw n O .int (2:Int32) [(.int (0:Int32)),(.int (0:Int32))] (.int (0:Int32)):=(Arv.new aA (by decide)).pad (pad_rep [] (.int (0:Int32)) 2)
  refine aG (mkF m 26 #[rv a,iv sh,iv 0,iv sh,iv 2,.val .null,.unset,.unset,.unset,.unset] [(.ref n)]) aD ?_
  refine gY 28 19 #[_,_,_,_,_,_,_,_,_,_] w b ?_
  refine ak 29 20 w b ?_
  refine aB 30 21 0 w b ?_
  refine aR 32 22 w b ?_
  refine aB 33 23 0 w b ?_
  refine aq 35 24 w b ?_
  obtain ⟨ca,a8,cb,S,a9,a_,aK,a',bb⟩:=cpA w hx hZ av (aj hw 203 rfl) (aj hw 70 rfl) (aj hw 68 rfl) (aj hw 69 rfl) a7 f R (us:= [(.int x0),(.int x1)]) (Or.inl ⟨rfl,rfl⟩) (by decide) (by decide) (by decide) (by decide) (by decide) rfl (Nat.le_of_ble_eq_true rfl) N0 aH (g:=(mkF m 35 #[rv a,iv sh,iv 0,iv sh,iv 2,rv n,.unset,.unset,.unset,.unset] [(.int (2:Int32)),(.int (0:Int32)),(.ref n),(.int (0:Int32)),(.ref a)])) rfl (by rw[ao];rfl) rfl (D 25 rfl) (by decide) (W:=0) (by show 2*0+_≤_;exact Nat.le_of_eq rfl) (by decide)
  have KP:=KP.trans aK (allS (Or.inr P) all0)
  have Q:=Q.keep aK
  have R:Arv Z a8 n O .int (2:Int32) [(.int x0),(.int x1)] (.int (0:Int32)):=a'
  refine aG (mkF m 38 #[rv a,iv sh,iv 0,iv sh,iv 2,rv n,.unset,.unset,.unset,.unset] []) bb ?_
  refine bL 152 26 S b ?_
  refine aR 154 97 S b ?_
  exact dU 98 S b hret N (by rw[a9];exact ⟨n,O,rfl,a_,KP,aH,P,Or.inl ⟨_,_,R,hx0,GQ hs hs0,Q⟩⟩)
 ·refine bk 41 14 X0 b rfl ((if0 _ _).trans (feq hs0).2) ?_
  refine aB 42 27 0 X0 b ?_
  refine bh 44 28 #[_,_,_,_,_,_,_,_,_,_] X0 b ?_
  refine bT 46 29 32 X0 b ?_
  refine au 47 30 X0 b ?_
  refine dQ 48 31 X0 b ?_
  refine bh 50 32 #[_,_,_,_,_,_,_,_,_,_] X0 b ?_
  refine ak 51 33 X0 b ?_
  refine aB 52 34 0 X0 b ?_
  refine eY 53 35 X0 b e0 f (x:=x0) ?_
  refine aq 55 36 X0 b ?_
  refine jw 56 37 X0 b ?_
  refine bh 58 38 #[_,_,_,_,_,_,_,_,_,_] X0 b ?_
  refine aq 60 39 X0 b ?_
  have h1s:=Ac hs hs0
  by_cases hh0:((x0.toUInt32>>>(((32:Int32)-sh)&&&31).toUInt32).toInt32)=(0:Int32)
  ·refine bk 86 40 X0 b rfl ((if0 _ _).trans (teq hh0).1) ?_
   refine aq 88 54 X0 b ?_
   refine au 89 55 X0 b ?_
   refine bJ 90 56 X0 b (z:=(2:Int32)) ?_
   obtain ⟨cd,h63,G,j,aL,T,aM,aN,aO⟩:=newPE X0 hx hZ (aj hw 52 rfl) e0 (g:=(mkF m 90 #[rv a,iv sh,iv 0,iv sh,iv 2,.val .null,iv 0,iv ((32:Int32)-sh),iv ((x0.toUInt32>>>(((32:Int32)-sh)&&&31).toUInt32).toInt32),.unset] [(.int (2:Int32))])) rfl (D 57 rfl) rfl (by decide) (cap:=2) (by decide) (by decide) (by decide) (by decide) (ad:="[I") (by decide)
   obtain ⟨o,U⟩: ∃z,z=h0.size:=⟨_,rfl⟩
   rw[←U] at aM aN aO
   have K:h0.size≤o:=Nat.le_trans KP.1 (Nat.le_of_eq U.symm)
   have V:n0≤o:=Nat.le_trans Z0 K
   have aP:a≠o:=Nat.ne_of_lt (Nat.lt_of_lt_of_le f.lt (Nat.le_of_eq U.symm))
   have i:=i.ext T
   have KP:=KP.ext T
   have f:=f.ext T
   have H:Exa Z h63 o "[I":=aN
   have C:Arv Z h63 o G .int (2:Int32) [(.int (0:Int32)),(.int (0:Int32))] (.int (0:Int32)):=(Arv.new aM (by decide)).pad (pad_rep [] (.int (0:Int32)) 2)
   refine aG (mkF m 92 #[rv a,iv sh,iv 0,iv sh,iv 2,.val .null,iv 0,iv ((32:Int32)-sh),iv ((x0.toUInt32>>>(((32:Int32)-sh)&&&31).toUInt32).toInt32),.unset] [(.ref o)]) aO ?_
   refine gY 94 58 #[_,_,_,_,_,_,_,_,_,_] j b ?_
   refine aq 96 59 j b ?_
   refine aB 97 60 1 j b ?_
   refine dQ 98 61 j b (z:=(1:Int32)) ?_
   refine bh 100 62 #[_,_,_,_,_,_,_,_,_,_] j b ?_
   refine aB 101 63 0 j b ?_
   refine aq 103 64 j b ?_
   refine aB 104 65 1 j b ?_
   refine bJ 105 66 j b (z:=(2:Int32)) ?_
   refine ak 106 67 j b ?_
   refine bU 107 68 j b aL f ?_
   refine bZ 110 3 0 1 2 69 232 233 234 235 j b (qI l Z a0 hw [] (0:Int32) (2:Int32) (2:Int32) h63 n0 (Nat.le_trans Z0 KP.1) i (by decide) (by decide) (by decide)) qG aL fun _ ce cg q bd=> ?_
   obtain ⟨rfl,be,aQ⟩:=bd
   have bf:=Fr.app N0 be
   refine aJ [_] ?_
   refine pX 111 70 q b ?_
   refine aq 113 71 q b ?_
   refine aq 115 72 q b ?_
   refine aq 117 73 q b ?_
   refine bJ 118 74 q b (z:=(1:Int32)) ?_
   refine aB 119 75 1 q b ?_
   refine bJ 120 76 q b (z:=(2:Int32)) ?_
   refine aR 122 77 q b ?_
   refine bU 123 78 q b aQ C ?_
   refine bZ 126 3 0 1 2 79 232 233 234 235 q b (qI l Z a0 hw [] (0:Int32) (2:Int32) (2:Int32) h63 n0 (Nat.le_trans Z0 KP.1) i (by decide) (by decide) (by decide)) qG aQ fun _ ci cj y bg=> ?_
   obtain ⟨rfl,bj,e65⟩:=bg
   have bl:=Fr.app bf bj
   refine aJ [_] ?_
   refine pX 127 80 y b ?_
   refine aR 129 81 y b ?_
   refine ak 130 82 y b ?_
   refine aq 132 83 y b ?_
   refine au 133 84 y b ?_
   refine aq 135 85 y b ?_
   refine bZ 138 5 0 1 2 86 240 241 24 242 y b (Vo l Z a0 hw [] o G a ka x0 x1 sh (0:Int32) (0:Int32) h63 n0 (Nat.le_trans Z0 KP.1) i V aP f C) xt e65 fun _ bm ck r bn=> ?_
   obtain ⟨rfl,bo,X,bq⟩:=bn
   have br:=Fr.app bl bo
   have KP:=KP.trans X (allS (Or.inr K) all0)
   have f:=f.keep X (ninS aP nin0)
   have H:=H.keep X
   refine aJ [] ?_
   have C:Arv Z bm.heap o G .int (2:Int32) [(.int ((x0<<<(sh&&&31))|||((x1.toUInt32>>>(((32:Int32)-sh)&&&31).toUInt32).toInt32))),(.int (0:Int32))] (.int (0:Int32)):=bq
   refine aR 140 87 r b ?_
   refine aq 142 88 r b ?_
   refine aq 144 89 r b ?_
   refine bJ 145 90 r b (z:=(1:Int32)) ?_
   refine ak 146 91 r b ?_
   refine aq 148 92 r b ?_
   refine eY 149 93 r b rfl f (x:=x1) ?_
   refine au 150 94 r b ?_
   refine nG 151 95 r b ?_
   refine iY 152 1 96 r b rfl C fun cl bt Y bu aS bv=> ?_
   have bx:=Fr.snoc Y br V
   have KP:=KP.wr aS (Or.inr K)
   have H:=H.wr aS
   have C:Arv Z bt o G .int (2:Int32) [(.int ((x0<<<(sh&&&31))|||((x1.toUInt32>>>(((32:Int32)-sh)&&&31).toUInt32).toInt32))),(.int (x1<<<(sh&&&31)))] (.int (0:Int32)):=bv
   refine aR 154 97 Y b ?_
   exact dU 98 Y b hret N (by rw[bu];exact ⟨o,G,rfl,bx,KP,V,K,Or.inl ⟨_,_,C,G_ hs h1s hk hh0 hx0,GZ hs h1s hk hh0,H⟩⟩)
  ·refine bw 63 40 X0 b rfl ((if0 _ _).trans (feq hh0).1) ?_
   refine aq 65 41 X0 b ?_
   refine au 66 42 X0 b ?_
   refine bJ 67 43 X0 b (z:=(2:Int32)) ?_
   refine aB 68 44 1 X0 b ?_
   refine bJ 69 45 X0 b (z:=(3:Int32)) ?_
   obtain ⟨cm,aT,E,F,bz,ae,aU,aV,aX⟩:=newPE X0 hx hZ (aj hw 52 rfl) e0 (g:=(mkF m 69 #[rv a,iv sh,iv 0,iv sh,iv 2,.val .null,iv 0,iv ((32:Int32)-sh),iv ((x0.toUInt32>>>(((32:Int32)-sh)&&&31).toUInt32).toInt32),.unset] [(.int (3:Int32))])) rfl (D 46 rfl) rfl (by decide) (cap:=3) (by decide) (by decide) (by decide) (by decide) (ad:="[I") (by decide)
   obtain ⟨k,af⟩: ∃z,z=h0.size:=⟨_,rfl⟩
   rw[←af] at aU aV aX
   have I:h0.size≤k:=Nat.le_trans KP.1 (Nat.le_of_eq af.symm)
   have J:n0≤k:=Nat.le_trans Z0 I
   have ag:a≠k:=Nat.ne_of_lt (Nat.lt_of_lt_of_le f.lt (Nat.le_of_eq af.symm))
   have i:=i.ext ae
   have KP:=KP.ext ae
   have f:=f.ext ae
   have A:Exa Z aT k "[I":=aV
   have v:Arv Z aT k E .int (3:Int32) [(.int (0:Int32)),(.int (0:Int32)),(.int (0:Int32))] (.int (0:Int32)):=(Arv.new aU (by decide)).pad (pad_rep [] (.int (0:Int32)) 3)
   refine aG (mkF m 71 #[rv a,iv sh,iv 0,iv sh,iv 2,.val .null,iv 0,iv ((32:Int32)-sh),iv ((x0.toUInt32>>>(((32:Int32)-sh)&&&31).toUInt32).toInt32),.unset] [(.ref k)]) aX ?_
   refine gY 73 47 #[_,_,_,_,_,_,_,_,_,_] F b ?_
   refine aR 75 48 F b ?_
   refine aq 77 49 F b ?_
   refine dG 80 50 #[_,_,_,_,_,_,iv 1,_,_,_] F b ?_
   refine aq 82 51 F b ?_
   refine iY 83 0 52 F b bz v fun cn L h aZ M bA=> ?_
   have bB:=Fr.snoc h N0 J
   have i:=i.wr M J
   have KP:=KP.wr M (Or.inr I)
   have f:=f.other M ag
   have A:=A.wr M
   have v:Arv Z L k E .int (3:Int32) [(.int ((x0.toUInt32>>>(((32:Int32)-sh)&&&31).toUInt32).toInt32)),(.int (0:Int32)),(.int (0:Int32))] (.int (0:Int32)):=bA
   refine bL 94 53 h b ?_
   refine aq 96 59 h b ?_
   refine aB 97 60 1 h b ?_
   refine dQ 98 61 h b (z:=(1:Int32)) ?_
   refine bh 100 62 #[_,_,_,_,_,_,_,_,_,_] h b ?_
   refine aB 101 63 0 h b ?_
   refine aq 103 64 h b ?_
   refine aB 104 65 1 h b ?_
   refine bJ 105 66 h b (z:=(2:Int32)) ?_
   refine ak 106 67 h b ?_
   refine bU 107 68 h b aZ f ?_
   refine bZ 110 3 0 1 3 69 232 233 234 235 h b (qI l Z a0 hw [] (0:Int32) (2:Int32) (2:Int32) L n0 (Nat.le_trans Z0 KP.1) i (by decide) (by decide) (by decide)) qG aZ fun _ co cp t bC=> ?_
   obtain ⟨rfl,bE,a5⟩:=bC
   have bF:=Fr.app bB bE
   refine aJ [_] ?_
   refine pX 111 70 t b ?_
   refine aq 113 71 t b ?_
   refine aq 115 72 t b ?_
   refine aq 117 73 t b ?_
   refine bJ 118 74 t b (z:=(2:Int32)) ?_
   refine aB 119 75 1 t b ?_
   refine bJ 120 76 t b (z:=(3:Int32)) ?_
   refine aR 122 77 t b ?_
   refine bU 123 78 t b a5 v ?_
   refine bZ 126 3 0 1 3 79 232 233 234 235 t b (qI l Z a0 hw [] (1:Int32) (3:Int32) (3:Int32) L n0 (Nat.le_trans Z0 KP.1) i (by decide) (by decide) (by decide)) qG a5 fun _ cq cr B bH=> ?_
   obtain ⟨rfl,bK,e71⟩:=bH
   have bN:=Fr.app bF bK
   refine aJ [_] ?_
   refine pX 127 80 B b ?_
   refine aR 129 81 B b ?_
   refine ak 130 82 B b ?_
   refine aq 132 83 B b ?_
   refine au 133 84 B b ?_
   refine aq 135 85 B b ?_
   refine bZ 138 5 0 1 3 86 240 241 24 242 B b (Vq l Z a0 hw [] k E a ka x0 x1 sh ((x0.toUInt32>>>(((32:Int32)-sh)&&&31).toUInt32).toInt32) (0:Int32) (0:Int32) L n0 (Nat.le_trans Z0 KP.1) i J ag f v) xt e71 fun _ bP ct u bS=> ?_
   obtain ⟨rfl,bV,ai,bX⟩:=bS
   have b0:=Fr.app bN bV
   have KP:=KP.trans ai (allS (Or.inr I) all0)
   have f:=f.keep ai (ninS ag nin0)
   have A:=A.keep ai
   refine aJ [] ?_
   have v:Arv Z bP.heap k E .int (3:Int32) [(.int ((x0.toUInt32>>>(((32:Int32)-sh)&&&31).toUInt32).toInt32)),(.int ((x0<<<(sh&&&31))|||((x1.toUInt32>>>(((32:Int32)-sh)&&&31).toUInt32).toInt32))),(.int (0:Int32))] (.int (0:Int32)):=bX
   refine aR 140 87 u b ?_
   refine aq 142 88 u b ?_
   refine aq 144 89 u b ?_
   refine bJ 145 90 u b (z:=(2:Int32)) ?_
   refine ak 146 91 u b ?_
   refine aq 148 92 u b ?_
   refine eY 149 93 u b rfl f (x:=x1) ?_
   refine au 150 94 u b ?_
   refine nG 151 95 u b ?_
   refine iY 152 2 96 u b rfl v fun cu b5 al b6 a6 b7=> ?_
   have b8:=Fr.snoc al b0 J
   have KP:=KP.wr a6 (Or.inr I)
   have A:=A.wr a6
   have v:Arv Z b5 k E .int (3:Int32) [(.int ((x0.toUInt32>>>(((32:Int32)-sh)&&&31).toUInt32).toInt32)),(.int ((x0<<<(sh&&&31))|||((x1.toUInt32>>>(((32:Int32)-sh)&&&31).toUInt32).toInt32))),(.int (x1<<<(sh&&&31)))] (.int (0:Int32)):=b7
   refine aR 154 97 al b ?_
   exact dU 98 al b hret N (by rw[b6];exact ⟨k,E,rfl,b8,KP,J,I,Or.inr ⟨_,_,_,v,hh0,GY hs h1s hk,A⟩⟩)
def VB (Z:State)(a:Addr)(ka:ClassId)(x0 y:Int32)(h0:Heap)(n0:Nat)(v:Option Value)(h:Heap)(L:List Loc):Prop:= ∃(x a:Addr) (k:ClassId),v=some (.ref x)∧Fr n0 L∧Keep h0 h []∧(rg Z h x a k (ah x0*ah y)∨oj Z h x a k (ah x0*ah y))
theorem VD (l:Launch)(Z:State)(a0:Array Value)(hw: ∀d∈tables_1,d.before a0 Z=true)(ws:List Jvm.Cond)(a:Addr)(ka:ClassId)(x0 y:Int32)(h0:Heap)(n0:Nat)(Z0:n0≤h0.size)(h:Old Z n0 h0)(A:Arv Z h0 a ka .int (1:Int32) [(.int x0)] (.int (0:Int32)))(hx0: ¬x0=0)(hy: ¬y=0):
  bp l (⟨"java/math/BigInteger","multiplyByInt","([III)Ljava/math/BigInteger;"⟩:MethodName) (Jvm.Cond.code (⟨"java/math/BigInteger","multiplyByInt","([III)Ljava/math/BigInteger;"⟩:MethodName) jdk_2097_method_43_code 13 (some (.object "java/math/BigInteger"))::ws) ({frames:=3,cells:=3,slots:=15,locals:=80}:Room) #[(.ref a),(.int y),(.int (1:Int32))] Z h0 (VB Z a ka x0 y h0 n0):=by
 refine bI (plainFor_of_name gF) (fun m=>Rj m a y (1:Int32)) fun p e s m cJ cK c s₁ hx aL J bq (K:s.vm.findClass "java/math/BigInteger"=some m.cls) hnm hret X0 hZ e0=> ?_
 have D:=fj aL wD
 have b:=bG hx aL wD K hZ bq hw
 have N0:=Fr.nil n0
 have KP:Keep h0 h0 []:=Keep.refl _ _
 refine au 1 0 X0 b ?_
 refine bZ 4 1 0 0 0 1 45 46 47 48 X0 b (Eo l Z a0 hw [] y h0 n0 (Nat.le_trans Z0 KP.1) h) mX e0 fun _ cL cM r br=> ?_
 obtain ⟨rb,rfl,bt,e74,hbc⟩:=br
 have aM:=Fr.app N0 bt
 refine aJ [_] ?_
 refine aB 5 2 1 r b ?_
 by_cases hb1:rb=(1:Int32)
 ·refine bY 8 3 r b rfl (teq hb1).2 ?_
  obtain ⟨cN,F,L,bu,W,aN,X,-,aO⟩:=newO r hx hZ K (aj hw 71 rfl) (aj hw 72 rfl) (aj hw 24 rfl) e74 (g:=(mkF m 8 #[rv a,iv y,iv 1,.unset,.unset,.unset,.unset,.unset,.unset,.unset,.unset,.unset,.unset] [])) rfl (D 4 rfl) (by decide) (by decide)
  obtain ⟨q,aP⟩: ∃z,z=h0.size:=⟨_,rfl⟩
  rw[←aP] at aN X aO
  have Y:h0.size≤q:=Nat.le_trans KP.1 (Nat.le_of_eq aP.symm)
  have aQ:n0≤q:=Nat.le_trans Z0 Y
  have h:=h.ext W
  have KP:=KP.ext W
  have A:=A.ext W
  have G:Exa Z F q "java/math/BigInteger":=aN
  have M:Fld Z F q "java/math/BigInteger" "signum" "I" (.int (0:Int32)):=X (Or.inr (aj hw 39 rfl)) (ty:= .int) (by decide)
  have N:Fld Z F q "java/math/BigInteger" "mag" "[I" .null:=X (Or.inr (aj hw 41 rfl)) (ty:=(.array .int)) (by decide)
  refine aG (mkF m 11 #[rv a,iv y,iv 1,.unset,.unset,.unset,.unset,.unset,.unset,.unset,.unset,.unset,.unset] [(.ref q)]) aO ?_
  refine jh 12 5 L b ?_
  refine ak 13 6 L b ?_
  refine au 14 7 L b ?_
  obtain ⟨ks,hk,hu,hs⟩:=z_ (hbc hb1)
  refine bZ 17 1 3 1 6 8 197 198 47 199 L b (Ep l Z a0 hw [] y F n0 (Nat.le_trans Z0 KP.1) h) mX bu fun _ T76 cO X76 bv=> ?_
  obtain ⟨rfl,bx,bz⟩:=bv
  have bA:=Fr.app aM bx
  refine aJ [_,_,_,_] ?_
  have aS:=G.lt
  refine bZ 20 2 2 2 8 9 200 201 24 202 X76 b (Vx l Z a0 hw [] a ka x0 (pR y) ks F n0 (Nat.le_trans Z0 KP.1) h A hx0 hs hk) DV bz fun _ aT cP O bB=> ?_
  obtain ⟨bb,B,rfl,bC,H,bE,ae,bF⟩:=bB
  have aU:=Fr.app bA bC
  have h:=h.keep H all0
  have KP:=KP.trans H all0
  have G:=G.keep H
  have M:=M.keep H nin0
  have N:=N.keep H nin0
  rcases bF with ⟨w0,j,hw0,hv,k⟩|⟨w0,w1,j,hw0,hv,k⟩
  ·refine aJ [_,_,_] ?_
   have I:q≠bb:=Nat.ne_of_lt (Nat.lt_of_lt_of_le aS ae)
   refine au 21 10 O b ?_
   refine iJ 24 2 1 2 8 11 73 74 24 76 O b (mq l Z a0 hw [] q bb aT.heap n0 (Nat.le_trans Z0 KP.1) h aQ G M N B (1:Int32) _ (Ne.symm I) j (by decide) (by decide)) ke rfl rfl fun _ cQ cR bH bK=> ?_
   obtain ⟨rfl,bN,af,bP,bS,bV⟩:=bK
   have bX:=Fr.app aU bN
   have KP:=KP.trans af (allS (Or.inr Y) all0)
   have j:=j.keep af (ninS (Ne.symm I) nin0)
   have k:=k.keep af
   refine aJ [_] ?_
   exact dU 12 bH b hret J (by exact ⟨q,bb,B,rfl,bX,KP,Or.inl ⟨_,⟨bP,bS,bV,j,k⟩,hw0,by rw[hu];exact hv⟩⟩)
  ·refine aJ [_,_,_] ?_
   have I:q≠bb:=Nat.ne_of_lt (Nat.lt_of_lt_of_le aS ae)
   refine au 21 10 O b ?_
   refine iJ 24 2 1 2 8 11 73 74 24 76 O b (mq l Z a0 hw [] q bb aT.heap n0 (Nat.le_trans Z0 KP.1) h aQ G M N B (2:Int32) _ (Ne.symm I) j (by decide) (by decide)) ke rfl rfl fun _ T79 cS X79 b0=> ?_
   obtain ⟨rfl,b5,ag,b6,b7,b8⟩:=b0
   have b9:=Fr.app aU b5
   have KP:=KP.trans ag (allS (Or.inr Y) all0)
   have j:=j.keep ag (ninS (Ne.symm I) nin0)
   have k:=k.keep ag
   refine aJ [_] ?_
   exact dU 12 X79 b hret J (by exact ⟨q,bb,B,rfl,b9,KP,Or.inr ⟨_,_,⟨b6,b7,b8,j,k⟩,hw0,by rw[hu];exact hv⟩⟩)
 ·refine bQ 25 3 r b rfl (feq hb1).2 ?_
  refine ak 26 13 r b ?_
  refine bU 27 14 r b e74 A ?_
  refine eO 28 15 #[_,_,_,_,_,_,_,_,_,_,_,_,_] r b ?_
  refine au 29 16 r b ?_
  refine aB 30 17 1 r b ?_
  refine bJ 31 18 r b (z:=(2:Int32)) ?_
  obtain ⟨cT,aV,C,f,ai,al,aX,aZ,a5⟩:=newPE r hx hZ (aj hw 52 rfl) e74 (g:=(mkF m 31 #[rv a,iv y,iv 1,iv 1,.unset,.unset,.unset,.unset,.unset,.unset,.unset,.unset,.unset] [(.int (2:Int32))])) rfl (D 19 rfl) rfl (by decide) (cap:=2) (by decide) (by decide) (by decide) (by decide) (ad:="[I") (by decide)
  obtain ⟨n,a6⟩: ∃z,z=h0.size:=⟨_,rfl⟩
  rw[←a6] at aX aZ a5
  have am:h0.size≤n:=Nat.le_trans KP.1 (Nat.le_of_eq a6.symm)
  have P:n0≤n:=Nat.le_trans Z0 am
  have h:=h.ext al
  have KP:=KP.ext al
  have A:=A.ext al
  have t:Exa Z aV n "[I":=aZ
  have o:Arv Z aV n C .int (2:Int32) [(.int (0:Int32)),(.int (0:Int32))] (.int (0:Int32)):=(Arv.new aX (by decide)).pad (pad_rep [] (.int (0:Int32)) 2)
  refine aG (mkF m 33 #[rv a,iv y,iv 1,iv 1,.unset,.unset,.unset,.unset,.unset,.unset,.unset,.unset,.unset] [(.ref n)]) a5 ?_
  refine gY 35 20 #[_,_,_,_,_,_,_,_,_,_,_,_,_] f b ?_
  refine jl 36 21 0 f b ?_
  refine dN 38 22 #[_,_,_,_,_,_,_,_,_,_,_,_,_] f b ?_
  refine au 39 23 f b ?_
  refine bW 40 24 f b ?_
  refine bO 43 53 25 f b ?_
  refine bR 44 26 f b ?_
  refine dN 46 27 #[_,_,_,_,_,_,_,_,_,_,_,_,_] f b ?_
  refine aR 48 28 f b ?_
  refine bU 49 29 f b ai o ?_
  refine aB 50 30 1 f b ?_
  refine dQ 51 31 f b (z:=(1:Int32)) ?_
  refine bh 53 32 #[_,_,_,_,_,_,_,_,_,_,_,_,_] f b ?_
  refine au 54 33 f b ?_
  refine aB 55 34 1 f b ?_
  refine dQ 56 35 f b (z:=(0:Int32)) ?_
  refine bh 58 36 #[_,_,_,_,_,_,_,_,_,_,_,_,_] f b ?_
  refine aq 60 37 f b ?_
  refine bw 63 38 f b rfl ((if0 _ _).trans (flt (by decide: ¬((0:Int32)<(0:Int32)))).1) ?_
  refine ak 64 39 f b ?_
  refine aq 66 40 f b ?_
  refine eY 67 41 f b ai A (x:=x0) ?_
  refine bW 68 42 f b ?_
  refine bO 71 53 43 f b ?_
  refine bR 72 44 f b ?_
  refine aI 74 45 f b ?_
  refine jA 75 46 f b ?_
  refine aI 77 47 f b ?_
  refine iu 78 48 f b ?_
  generalize b_:((((x0.toInt64)&&&(4294967295:Int64))*((y.toInt64)&&&(4294967295:Int64)))+(0:Int64))=w
  refine dN 80 49 #[_,_,_,_,_,_,_,_,_,_,_,_,_] f b ?_
  refine aR 82 50 f b ?_
  refine aq 84 51 f b ?_
  refine dG 87 52 #[_,_,_,_,_,_,_,_,_,iv 0,_,_,_] f b ?_
  refine aI 89 53 f b ?_
  refine gn 90 54 f b ?_
  refine iY 91 1 55 f b ai o fun cU a7 i ao av b'=> ?_
  have a8:=Fr.snoc i aM P
  have h:=h.wr av P
  have KP:=KP.wr av (Or.inr am)
  have t:=t.wr av
  have o:Arv Z a7 n C .int (2:Int32) [(.int (0:Int32)),(.int (w.toInt32))] (.int (0:Int32)):=b'
  refine aI 93 56 i b ?_
  refine bT 95 57 32 i b ?_
  refine jD 96 58 i b ?_
  generalize ca:((w.toUInt64>>>((32:Int32)&&&0x3f).toInt64.toUInt64).toInt64)=E
  have MB:=He b_ ca
  refine dN 98 59 #[_,_,_,_,_,_,_,_,_,_,_,_,_] i b ?_
  refine dG 101 60 #[_,_,_,_,_,_,_,_,_,_,iv (-1:Int32),_,_] i b ?_
  refine bL 58 61 i b ?_
  refine aq 60 37 i b ?_
  refine bk 104 38 i b rfl ((if0 _ _).trans (tlt (by decide:(-1:Int32)<(0:Int32))).1) ?_
  refine aI 106 62 i b ?_
  refine jl 107 63 0 i b ?_
  refine iq 108 64 i b ?_
  by_cases hc0:(lcmpW E (0:Int64))=(0:Int32)
  ·refine bw 111 65 i b rfl ((if0 _ _).trans (teq hc0).2) ?_
   refine aR 113 66 i b ?_
   refine aB 114 67 1 i b ?_
   refine aR 116 68 i b ?_
   refine bU 117 69 i b ao o ?_
   refine bZ 120 3 0 2 3 70 54 55 56 57 i b (U_ l Z a0 hw [] n C (0:Int32) (w.toInt32) a7 n0 (Nat.le_trans Z0 KP.1) h o) pL ao fun _ cb cV aw cd=> ?_
   obtain ⟨bb,B,rfl,ce,a9,bE,ae,j,k⟩:=cd
   have cg:=Fr.app a8 ce
   have h:=h.keep a9 all0
   have KP:=KP.trans a9 all0
   refine aJ [_] ?_
   have CZ:=Ai hc0 MB.2
   refine gY 122 71 #[_,_,_,_,_,_,_,_,_,_,_,_,_] aw b ?_
   refine bL 133 72 aw b ?_
   obtain ⟨cW,Q,R,ci,S,a',ax,-,bd⟩:=newO aw hx hZ K (aj hw 71 rfl) (aj hw 72 rfl) (aj hw 24 rfl) rfl (g:=(mkF m 133 #[rv a,iv y,iv 1,iv 1,rv bb,.val (.long E),.second,.val (.long ((y.toInt64)&&&(4294967295:Int64))),.second,iv 0,iv (-1:Int32),.val (.long w),.second] [])) rfl (D 78 rfl) (by decide) (by decide)
   obtain ⟨u,aA⟩: ∃z,z=cb.heap.size:=⟨_,rfl⟩
   rw[←aA] at a' ax bd
   have be:h0.size≤u:=Nat.le_trans KP.1 (Nat.le_of_eq aA.symm)
   have cj:n0≤u:=Nat.le_trans Z0 be
   have bf:bb≠u:=Nat.ne_of_lt (Nat.lt_of_lt_of_le j.lt (Nat.le_of_eq aA.symm))
   have h:=h.ext S
   have KP:=KP.ext S
   have j:=j.ext S
   have k:=k.ext S
   have ck:Exa Z Q u "java/math/BigInteger":=a'
   have cl:Fld Z Q u "java/math/BigInteger" "signum" "I" (.int (0:Int32)):=ax (Or.inr (aj hw 39 rfl)) (ty:= .int) (by decide)
   have cm:Fld Z Q u "java/math/BigInteger" "mag" "[I" .null:=ax (Or.inr (aj hw 41 rfl)) (ty:=(.array .int)) (by decide)
   refine aG (mkF m 136 #[rv a,iv y,iv 1,iv 1,rv bb,.val (.long E),.second,.val (.long ((y.toInt64)&&&(4294967295:Int64))),.second,iv 0,iv (-1:Int32),.val (.long w),.second] [(.ref u)]) bd ?_
   refine jh 137 79 R b ?_
   refine aR 139 80 R b ?_
   refine au 140 81 R b ?_
   refine iJ 143 2 1 3 9 82 73 74 24 76 R b (mq l Z a0 hw [] u bb Q n0 (Nat.le_trans Z0 KP.1) h cj ck cl cm B (1:Int32) _ bf j (by decide) (by decide)) ke ci rfl fun _ T87 cX X87 cn=> ?_
   obtain ⟨rfl,co,aC,cp,cq,cr⟩:=cn
   have ct:=Fr.app cg co
   have KP:=KP.trans aC (allS (Or.inr be) all0)
   have j:=j.keep aC (ninS bf nin0)
   have k:=k.keep aC
   refine aJ [_] ?_
   exact dU 83 X87 b hret J (by exact ⟨u,bb,B,rfl,ct,KP,Or.inl ⟨_,⟨cp,cq,cr,j,k⟩,Hh hx0 hy MB CZ,Hg MB CZ⟩⟩)
  ·refine bk 125 65 i b rfl ((if0 _ _).trans (feq hc0).2) ?_
   refine aR 127 73 i b ?_
   refine aq 129 74 i b ?_
   refine aI 131 75 i b ?_
   refine gn 132 76 i b ?_
   refine iY 133 0 77 i b ao o fun cY bg bj cu aD cv=> ?_
   have cw:=Fr.snoc bj a8 P
   have h:=h.wr aD P
   have KP:=KP.wr aD (Or.inr am)
   have t:=t.wr aD
   have o:Arv Z bg n C .int (2:Int32) [(.int (E.toInt32)),(.int (w.toInt32))] (.int (0:Int32)):=cv
   obtain ⟨cZ,T,U,cx,V,bl,aF,-,bm⟩:=newO bj hx hZ K (aj hw 71 rfl) (aj hw 72 rfl) (aj hw 24 rfl) cu (g:=(mkF m 133 #[rv a,iv y,iv 1,iv 1,rv n,.val (.long E),.second,.val (.long ((y.toInt64)&&&(4294967295:Int64))),.second,iv 0,iv (-1:Int32),.val (.long w),.second] [])) rfl (D 78 rfl) (by decide) (by decide)
   obtain ⟨v,aH⟩: ∃z,z=bg.size:=⟨_,rfl⟩
   rw[←aH] at bl aF bm
   have bn:h0.size≤v:=Nat.le_trans KP.1 (Nat.le_of_eq aH.symm)
   have cy:n0≤v:=Nat.le_trans Z0 bn
   have bo:n≠v:=Nat.ne_of_lt (Nat.lt_of_lt_of_le t.lt (Nat.le_of_eq aH.symm))
   have h:=h.ext V
   have KP:=KP.ext V
   have t:=t.ext V
   have o:=o.ext V
   have cz:Exa Z T v "java/math/BigInteger":=bl
   have cA:Fld Z T v "java/math/BigInteger" "signum" "I" (.int (0:Int32)):=aF (Or.inr (aj hw 39 rfl)) (ty:= .int) (by decide)
   have cB:Fld Z T v "java/math/BigInteger" "mag" "[I" .null:=aF (Or.inr (aj hw 41 rfl)) (ty:=(.array .int)) (by decide)
   refine aG (mkF m 136 #[rv a,iv y,iv 1,iv 1,rv n,.val (.long E),.second,.val (.long ((y.toInt64)&&&(4294967295:Int64))),.second,iv 0,iv (-1:Int32),.val (.long w),.second] [(.ref v)]) bm ?_
   refine jh 137 79 U b ?_
   refine aR 139 80 U b ?_
   refine au 140 81 U b ?_
   refine iJ 143 2 1 2 8 82 73 74 24 76 U b (mq l Z a0 hw [] v n T n0 (Nat.le_trans Z0 KP.1) h cy cz cA cB C (2:Int32) _ bo o (by decide) (by decide)) ke cx rfl fun _ c0 c2 cC cD=> ?_
   obtain ⟨rfl,cE,aK,cF,cG,cH⟩:=cD
   have cI:=Fr.app cw cE
   have KP:=KP.trans aK (allS (Or.inr bn) all0)
   have t:=t.keep aK
   have o:=o.keep aK (ninS bo nin0)
   refine aJ [_] ?_
   exact dU 83 cC b hret J (by exact ⟨v,n,C,rfl,cI,KP,Or.inr ⟨_,_,⟨cF,cG,cH,o,t⟩,Ah hc0 MB.2,MB.1⟩⟩)
def VE (Z:State)(a:Addr)(ka:ClassId)(x0 x1 y:Int32)(h0:Heap)(n0:Nat)(v:Option Value)(h:Heap)(L:List Loc):Prop:= ∃(x a:Addr) (k:ClassId),v=some (.ref x)∧Fr n0 L∧Keep h0 h []∧(oj Z h x a k ((ah x0*4294967296+ah x1)*ah y)∨qo Z h x a k ((ah x0*4294967296+ah x1)*ah y))
theorem Er (l:Launch)(Z:State)(a0:Array Value)(hw: ∀d∈tables_1,d.before a0 Z=true)(ws:List Jvm.Cond)(a:Addr)(ka:ClassId)(x0 x1 y:Int32)(h0:Heap)(n0:Nat)(Z0:n0≤h0.size)(h:Old Z n0 h0)(t:Arv Z h0 a ka .int (2:Int32) [(.int x0),(.int x1)] (.int (0:Int32)))(hx0: ¬x0=0)(hy: ¬y=0):
  bp l (⟨"java/math/BigInteger","multiplyByInt","([III)Ljava/math/BigInteger;"⟩:MethodName) (Jvm.Cond.code (⟨"java/math/BigInteger","multiplyByInt","([III)Ljava/math/BigInteger;"⟩:MethodName) jdk_2097_method_43_code 13 (some (.object "java/math/BigInteger"))::ws) ({frames:=3,cells:=3,slots:=18,locals:=80}:Room) #[(.ref a),(.int y),(.int (1:Int32))] Z h0 (VE Z a ka x0 x1 y h0 n0):=by
 refine bI (plainFor_of_name gF) (fun m=>Rn m a y (1:Int32)) fun p e s m cO cP c s₁ hx aM J bq (K:s.vm.findClass "java/math/BigInteger"=some m.cls) hnm hret X0 hZ e0=> ?_
 have D:=fj aM wD
 have b:=bG hx aM wD K hZ bq hw
 have N0:=Fr.nil n0
 have KP:Keep h0 h0 []:=Keep.refl _ _
 refine au 1 0 X0 b ?_
 refine bZ 4 1 0 0 0 1 45 46 47 48 X0 b (Eo l Z a0 hw [] y h0 n0 (Nat.le_trans Z0 KP.1) h) mX e0 fun _ cQ cR u br=> ?_
 obtain ⟨rb,rfl,bt,X,hbc⟩:=br
 have aN:=Fr.app N0 bt
 refine aJ [_] ?_
 refine aB 5 2 1 u b ?_
 by_cases hb1:rb=(1:Int32)
 ·refine bY 8 3 u b rfl (teq hb1).2 ?_
  obtain ⟨cS,F,L,bu,Y,aO,ae,-,aP⟩:=newO u hx hZ K (aj hw 71 rfl) (aj hw 72 rfl) (aj hw 24 rfl) X (g:=(mkF m 8 #[rv a,iv y,iv 1,.unset,.unset,.unset,.unset,.unset,.unset,.unset,.unset,.unset,.unset] [])) rfl (D 4 rfl) (by decide) (by decide)
  obtain ⟨q,aQ⟩: ∃z,z=h0.size:=⟨_,rfl⟩
  rw[←aQ] at aO ae aP
  have af:h0.size≤q:=Nat.le_trans KP.1 (Nat.le_of_eq aQ.symm)
  have aS:n0≤q:=Nat.le_trans Z0 af
  have h:=h.ext Y
  have KP:=KP.ext Y
  have t:=t.ext Y
  have G:Exa Z F q "java/math/BigInteger":=aO
  have M:Fld Z F q "java/math/BigInteger" "signum" "I" (.int (0:Int32)):=ae (Or.inr (aj hw 39 rfl)) (ty:= .int) (by decide)
  have N:Fld Z F q "java/math/BigInteger" "mag" "[I" .null:=ae (Or.inr (aj hw 41 rfl)) (ty:=(.array .int)) (by decide)
  refine aG (mkF m 11 #[rv a,iv y,iv 1,.unset,.unset,.unset,.unset,.unset,.unset,.unset,.unset,.unset,.unset] [(.ref q)]) aP ?_
  refine jh 12 5 L b ?_
  refine ak 13 6 L b ?_
  refine au 14 7 L b ?_
  obtain ⟨ks,hk,hu,hs⟩:=z_ (hbc hb1)
  refine bZ 17 1 3 1 6 8 197 198 47 199 L b (Ep l Z a0 hw [] y F n0 (Nat.le_trans Z0 KP.1) h) mX bu fun _ cT cU bv bx=> ?_
  obtain ⟨rfl,bz,e90⟩:=bx
  have bA:=Fr.app aN bz
  refine aJ [_,_,_,_] ?_
  have aT:=G.lt
  refine bZ 20 2 2 2 9 9 200 201 24 202 bv b (VA l Z a0 hw [] a ka x0 x1 (pR y) ks F n0 (Nat.le_trans Z0 KP.1) h t hx0 hs hk) DV e90 fun _ aU cV O bB=> ?_
  obtain ⟨bb,A,rfl,bC,H,bE,ag,bF⟩:=bB
  have aV:=Fr.app bA bC
  have h:=h.keep H all0
  have KP:=KP.trans H all0
  have G:=G.keep H
  have M:=M.keep H nin0
  have N:=N.keep H nin0
  rcases bF with ⟨w0,w1,j,hw0,hv,o⟩|⟨w0,w1,w2,j,hw0,hv,o⟩
  ·refine aJ [_,_,_] ?_
   have I:q≠bb:=Nat.ne_of_lt (Nat.lt_of_lt_of_le aT ag)
   refine au 21 10 O b ?_
   refine iJ 24 2 1 2 9 11 73 74 24 76 O b (mq l Z a0 hw [] q bb aU.heap n0 (Nat.le_trans Z0 KP.1) h aS G M N A (2:Int32) _ (Ne.symm I) j (by decide) (by decide)) ke rfl rfl fun _ T92 cW X92 bH=> ?_
   obtain ⟨rfl,bK,ai,bN,bP,bS⟩:=bH
   have bV:=Fr.app aV bK
   have KP:=KP.trans ai (allS (Or.inr af) all0)
   have j:=j.keep ai (ninS (Ne.symm I) nin0)
   have o:=o.keep ai
   refine aJ [_] ?_
   exact dU 12 X92 b hret J (by exact ⟨q,bb,A,rfl,bV,KP,Or.inl ⟨_,_,⟨bN,bP,bS,j,o⟩,hw0,by rw[hu];exact hv⟩⟩)
  ·refine aJ [_,_,_] ?_
   have I:q≠bb:=Nat.ne_of_lt (Nat.lt_of_lt_of_le aT ag)
   refine au 21 10 O b ?_
   refine iJ 24 2 1 2 9 11 73 74 24 76 O b (mq l Z a0 hw [] q bb aU.heap n0 (Nat.le_trans Z0 KP.1) h aS G M N A (3:Int32) _ (Ne.symm I) j (by decide) (by decide)) ke rfl rfl fun _ cX cY bX b0=> ?_
   obtain ⟨rfl,b5,al,b6,b7,b8⟩:=b0
   have b9:=Fr.app aV b5
   have KP:=KP.trans al (allS (Or.inr af) all0)
   have j:=j.keep al (ninS (Ne.symm I) nin0)
   have o:=o.keep al
   refine aJ [_] ?_
   exact dU 12 bX b hret J (by exact ⟨q,bb,A,rfl,b9,KP,Or.inr ⟨_,_,_,⟨b6,b7,b8,j,o⟩,hw0,by rw[hu];exact hv⟩⟩)
 ·refine bQ 25 3 u b rfl (feq hb1).2 ?_
  refine ak 26 13 u b ?_
  refine bU 27 14 u b X t ?_
  refine eO 28 15 #[_,_,_,_,_,_,_,_,_,_,_,_,_] u b ?_
  refine au 29 16 u b ?_
  refine aB 30 17 1 u b ?_
  refine bJ 31 18 u b (z:=(3:Int32)) ?_
  obtain ⟨cZ,aX,B,f,e94,am,aZ,a5,a6⟩:=newPE u hx hZ (aj hw 52 rfl) X (g:=(mkF m 31 #[rv a,iv y,iv 1,iv 2,.unset,.unset,.unset,.unset,.unset,.unset,.unset,.unset,.unset] [(.int (3:Int32))])) rfl (D 19 rfl) rfl (by decide) (cap:=3) (by decide) (by decide) (by decide) (by decide) (ad:="[I") (by decide)
  obtain ⟨k,ao⟩: ∃z,z=h0.size:=⟨_,rfl⟩
  rw[←ao] at aZ a5 a6
  have P:h0.size≤k:=Nat.le_trans KP.1 (Nat.le_of_eq ao.symm)
  have C:n0≤k:=Nat.le_trans Z0 P
  have b_:a≠k:=Nat.ne_of_lt (Nat.lt_of_lt_of_le t.lt (Nat.le_of_eq ao.symm))
  have h:=h.ext am
  have KP:=KP.ext am
  have t:=t.ext am
  have r:Exa Z aX k "[I":=a5
  have n:Arv Z aX k B .int (3:Int32) [(.int (0:Int32)),(.int (0:Int32)),(.int (0:Int32))] (.int (0:Int32)):=(Arv.new aZ (by decide)).pad (pad_rep [] (.int (0:Int32)) 3)
  refine aG (mkF m 33 #[rv a,iv y,iv 1,iv 2,.unset,.unset,.unset,.unset,.unset,.unset,.unset,.unset,.unset] [(.ref k)]) a6 ?_
  refine gY 35 20 #[_,_,_,_,_,_,_,_,_,_,_,_,_] f b ?_
  refine jl 36 21 0 f b ?_
  refine dN 38 22 #[_,_,_,_,_,_,_,_,_,_,_,_,_] f b ?_
  refine au 39 23 f b ?_
  refine bW 40 24 f b ?_
  refine bO 43 53 25 f b ?_
  refine bR 44 26 f b ?_
  refine dN 46 27 #[_,_,_,_,_,_,_,_,_,_,_,_,_] f b ?_
  refine aR 48 28 f b ?_
  refine bU 49 29 f b e94 n ?_
  refine aB 50 30 1 f b ?_
  refine dQ 51 31 f b (z:=(2:Int32)) ?_
  refine bh 53 32 #[_,_,_,_,_,_,_,_,_,_,_,_,_] f b ?_
  refine au 54 33 f b ?_
  refine aB 55 34 1 f b ?_
  refine dQ 56 35 f b (z:=(1:Int32)) ?_
  refine bh 58 36 #[_,_,_,_,_,_,_,_,_,_,_,_,_] f b ?_
  refine aq 60 37 f b ?_
  refine bw 63 38 f b rfl ((if0 _ _).trans (flt (by decide: ¬((1:Int32)<(0:Int32)))).1) ?_
  refine ak 64 39 f b ?_
  refine aq 66 40 f b ?_
  refine eY 67 41 f b e94 t (x:=x1) ?_
  refine bW 68 42 f b ?_
  refine bO 71 53 43 f b ?_
  refine bR 72 44 f b ?_
  refine aI 74 45 f b ?_
  refine jA 75 46 f b ?_
  refine aI 77 47 f b ?_
  refine iu 78 48 f b ?_
  generalize b':((((x1.toInt64)&&&(4294967295:Int64))*((y.toInt64)&&&(4294967295:Int64)))+(0:Int64))=pr1
  refine dN 80 49 #[_,_,_,_,_,_,_,_,_,_,_,_,_] f b ?_
  refine aR 82 50 f b ?_
  refine aq 84 51 f b ?_
  refine dG 87 52 #[_,_,_,_,_,_,_,_,_,iv 1,_,_,_] f b ?_
  refine aI 89 53 f b ?_
  refine gn 90 54 f b ?_
  refine iY 91 2 55 f b e94 n fun c0 ca i e95 Q cb=> ?_
  have cd:=Fr.snoc i aN C
  have h:=h.wr Q C
  have KP:=KP.wr Q (Or.inr P)
  have t:=t.other Q b_
  have r:=r.wr Q
  have n:Arv Z ca k B .int (3:Int32) [(.int (0:Int32)),(.int (0:Int32)),(.int (pr1.toInt32))] (.int (0:Int32)):=cb
  refine aI 93 56 i b ?_
  refine bT 95 57 32 i b ?_
  refine jD 96 58 i b ?_
  generalize ce:((pr1.toUInt64>>>((32:Int32)&&&0x3f).toInt64.toUInt64).toInt64)=cg
  refine dN 98 59 #[_,_,_,_,_,_,_,_,_,_,_,_,_] i b ?_
  refine dG 101 60 #[_,_,_,_,_,_,_,_,_,_,iv 0,_,_] i b ?_
  refine bL 58 61 i b ?_
  refine aq 60 37 i b ?_
  refine bw 63 38 i b rfl ((if0 _ _).trans (flt (by decide: ¬((0:Int32)<(0:Int32)))).1) ?_
  refine ak 64 39 i b ?_
  refine aq 66 40 i b ?_
  refine eY 67 41 i b e95 t (x:=x0) ?_
  refine bW 68 42 i b ?_
  refine bO 71 53 43 i b ?_
  refine bR 72 44 i b ?_
  refine aI 74 45 i b ?_
  refine jA 75 46 i b ?_
  refine aI 77 47 i b ?_
  refine iu 78 48 i b ?_
  generalize ci:((((x0.toInt64)&&&(4294967295:Int64))*((y.toInt64)&&&(4294967295:Int64)))+cg)=w
  refine dN 80 49 #[_,_,_,_,_,_,_,_,_,_,_,_,_] i b ?_
  refine aR 82 50 i b ?_
  refine aq 84 51 i b ?_
  refine dG 87 52 #[_,_,_,_,_,_,_,_,_,iv 0,_,_,_] i b ?_
  refine aI 89 53 i b ?_
  refine gn 90 54 i b ?_
  refine iY 91 1 55 i b e95 n fun T96 a7 X96 av aw cj=> ?_
  have a8:=Fr.snoc X96 cd C
  have h:=h.wr aw C
  have KP:=KP.wr aw (Or.inr P)
  have r:=r.wr aw
  have n:Arv Z a7 k B .int (3:Int32) [(.int (0:Int32)),(.int (w.toInt32)),(.int (pr1.toInt32))] (.int (0:Int32)):=cj
  refine aI 93 56 X96 b ?_
  refine bT 95 57 32 X96 b ?_
  refine jD 96 58 X96 b ?_
  generalize ck:((w.toUInt64>>>((32:Int32)&&&0x3f).toInt64.toUInt64).toInt64)=E
  have MB:=Hf b' ce ci ck
  refine dN 98 59 #[_,_,_,_,_,_,_,_,_,_,_,_,_] X96 b ?_
  refine dG 101 60 #[_,_,_,_,_,_,_,_,_,_,iv (-1:Int32),_,_] X96 b ?_
  refine bL 58 61 X96 b ?_
  refine aq 60 37 X96 b ?_
  refine bk 104 38 X96 b rfl ((if0 _ _).trans (tlt (by decide:(-1:Int32)<(0:Int32))).1) ?_
  refine aI 106 62 X96 b ?_
  refine jl 107 63 0 X96 b ?_
  refine iq 108 64 X96 b ?_
  by_cases hc0:(lcmpW E (0:Int64))=(0:Int32)
  ·refine bw 111 65 X96 b rfl ((if0 _ _).trans (teq hc0).2) ?_
   refine aR 113 66 X96 b ?_
   refine aB 114 67 1 X96 b ?_
   refine aR 116 68 X96 b ?_
   refine bU 117 69 X96 b av n ?_
   refine bZ 120 3 0 2 5 70 54 55 56 57 X96 b (Vg l Z a0 hw [] k B (0:Int32) (w.toInt32) (pr1.toInt32) a7 n0 (Nat.le_trans Z0 KP.1) h n) pL av fun _ cl c2 ax cm=> ?_
   obtain ⟨bb,A,rfl,cn,a9,bE,ag,j,o⟩:=cm
   have co:=Fr.app a8 cn
   have h:=h.keep a9 all0
   have KP:=KP.trans a9 all0
   refine aJ [_] ?_
   have CZ:=Ai hc0 MB.2.1
   refine gY 122 71 #[_,_,_,_,_,_,_,_,_,_,_,_,_] ax b ?_
   refine bL 133 72 ax b ?_
   obtain ⟨c3,R,S,cp,T,a',aA,-,bd⟩:=newO ax hx hZ K (aj hw 71 rfl) (aj hw 72 rfl) (aj hw 24 rfl) rfl (g:=(mkF m 133 #[rv a,iv y,iv 1,iv 2,rv bb,.val (.long E),.second,.val (.long ((y.toInt64)&&&(4294967295:Int64))),.second,iv 0,iv (-1:Int32),.val (.long w),.second] [])) rfl (D 78 rfl) (by decide) (by decide)
   obtain ⟨b101,aC⟩: ∃z,z=cl.heap.size:=⟨_,rfl⟩
   rw[←aC] at a' aA bd
   have be:h0.size≤b101:=Nat.le_trans KP.1 (Nat.le_of_eq aC.symm)
   have cq:n0≤b101:=Nat.le_trans Z0 be
   have bf:bb≠b101:=Nat.ne_of_lt (Nat.lt_of_lt_of_le j.lt (Nat.le_of_eq aC.symm))
   have h:=h.ext T
   have KP:=KP.ext T
   have j:=j.ext T
   have o:=o.ext T
   have cr:Exa Z R b101 "java/math/BigInteger":=a'
   have ct:Fld Z R b101 "java/math/BigInteger" "signum" "I" (.int (0:Int32)):=aA (Or.inr (aj hw 39 rfl)) (ty:= .int) (by decide)
   have cu:Fld Z R b101 "java/math/BigInteger" "mag" "[I" .null:=aA (Or.inr (aj hw 41 rfl)) (ty:=(.array .int)) (by decide)
   refine aG (mkF m 136 #[rv a,iv y,iv 1,iv 2,rv bb,.val (.long E),.second,.val (.long ((y.toInt64)&&&(4294967295:Int64))),.second,iv 0,iv (-1:Int32),.val (.long w),.second] [(.ref b101)]) bd ?_
   refine jh 137 79 S b ?_
   refine aR 139 80 S b ?_
   refine au 140 81 S b ?_
   refine iJ 143 2 1 3 11 82 73 74 24 76 S b (mq l Z a0 hw [] b101 bb R n0 (Nat.le_trans Z0 KP.1) h cq cr ct cu A (2:Int32) _ bf j (by decide) (by decide)) ke cp rfl fun _ c4 c5 cv cw=> ?_
   obtain ⟨rfl,cx,aD,cy,cz,cA⟩:=cw
   have cB:=Fr.app co cx
   have KP:=KP.trans aD (allS (Or.inr be) all0)
   have j:=j.keep aD (ninS bf nin0)
   have o:=o.keep aD
   refine aJ [_] ?_
   exact dU 83 cv b hret J (by exact ⟨b101,bb,A,rfl,cB,KP,Or.inl ⟨_,_,⟨cy,cz,cA,j,o⟩,Hl hx0 hy MB CZ,Hj MB CZ⟩⟩)
  ·refine bk 125 65 X96 b rfl ((if0 _ _).trans (feq hc0).2) ?_
   refine aR 127 73 X96 b ?_
   refine aq 129 74 X96 b ?_
   refine aI 131 75 X96 b ?_
   refine gn 132 76 X96 b ?_
   refine iY 133 0 77 X96 b av n fun c6 bg bj e97 aF cC=> ?_
   have cD:=Fr.snoc bj a8 C
   have h:=h.wr aF C
   have KP:=KP.wr aF (Or.inr P)
   have r:=r.wr aF
   have n:Arv Z bg k B .int (3:Int32) [(.int (E.toInt32)),(.int (w.toInt32)),(.int (pr1.toInt32))] (.int (0:Int32)):=cC
   obtain ⟨c7,U,V,e98,W,bl,aH,-,bm⟩:=newO bj hx hZ K (aj hw 71 rfl) (aj hw 72 rfl) (aj hw 24 rfl) e97 (g:=(mkF m 133 #[rv a,iv y,iv 1,iv 2,rv k,.val (.long E),.second,.val (.long ((y.toInt64)&&&(4294967295:Int64))),.second,iv 0,iv (-1:Int32),.val (.long w),.second] [])) rfl (D 78 rfl) (by decide) (by decide)
   obtain ⟨v,aK⟩: ∃z,z=bg.size:=⟨_,rfl⟩
   rw[←aK] at bl aH bm
   have bn:h0.size≤v:=Nat.le_trans KP.1 (Nat.le_of_eq aK.symm)
   have cE:n0≤v:=Nat.le_trans Z0 bn
   have bo:k≠v:=Nat.ne_of_lt (Nat.lt_of_lt_of_le r.lt (Nat.le_of_eq aK.symm))
   have h:=h.ext W
   have KP:=KP.ext W
   have r:=r.ext W
   have n:=n.ext W
   have cF:Exa Z U v "java/math/BigInteger":=bl
   have cG:Fld Z U v "java/math/BigInteger" "signum" "I" (.int (0:Int32)):=aH (Or.inr (aj hw 39 rfl)) (ty:= .int) (by decide)
   have cH:Fld Z U v "java/math/BigInteger" "mag" "[I" .null:=aH (Or.inr (aj hw 41 rfl)) (ty:=(.array .int)) (by decide)
   refine aG (mkF m 136 #[rv a,iv y,iv 1,iv 2,rv k,.val (.long E),.second,.val (.long ((y.toInt64)&&&(4294967295:Int64))),.second,iv 0,iv (-1:Int32),.val (.long w),.second] [(.ref v)]) bm ?_
   refine jh 137 79 V b ?_
   refine aR 139 80 V b ?_
   refine au 140 81 V b ?_
   refine iJ 143 2 1 2 9 82 73 74 24 76 V b (mq l Z a0 hw [] v k U n0 (Nat.le_trans Z0 KP.1) h cE cF cG cH B (3:Int32) _ bo n (by decide) (by decide)) ke e98 rfl fun _ T99 c8 X99 cI=> ?_
   obtain ⟨rfl,cJ,aL,cK,cL,cM⟩:=cI
   have cN:=Fr.app cD cJ
   have KP:=KP.trans aL (allS (Or.inr bn) all0)
   have r:=r.keep aL
   have n:=n.keep aL (ninS bo nin0)
   refine aJ [_] ?_
   exact dU 83 X99 b hret J (by exact ⟨v,k,B,rfl,cN,KP,Or.inr ⟨_,_,_,⟨cK,cL,cM,n,r⟩,Ah hc0 MB.2.1,MB.1⟩⟩)
def VF (Z:State)(o1:Addr)(h0:Heap)(n0:Nat)(v:Option Value)(h:Heap)(L:List Loc):Prop:=v=some (.ref o1)∧Fr n0 L∧h=h0
theorem VG (l:Launch)(Z:State)(a0:Array Value)(hw: ∀d∈tables_1,d.before a0 Z=true)(ws:List Jvm.Cond)(o1:Addr)(h0:Heap)(n0:Nat)(Z0:n0≤h0.size)(i:Old Z n0 h0):
  bp l (⟨"java/util/Objects","requireNonNull","(Ljava/lang/Object;)Ljava/lang/Object;"⟩:MethodName) (Jvm.Cond.code (⟨"java/util/Objects","requireNonNull","(Ljava/lang/Object;)Ljava/lang/Object;"⟩:MethodName) jdk_31_method_10_code 1 (some (.object "java/lang/Object"))::ws) ({frames:=0,cells:=0,slots:=0,locals:=0}:Room) #[(.ref o1)] Z h0 (VF Z o1 h0 n0):=by
 refine bI (plainFor_of_name Ej) (fun m=>Ro m o1) fun p e s m j n c s₁ hx b f g (h:s.vm.findClass "java/util/Objects"=some m.cls) hnm hret X0 hZ e0=> ?_
 have D:=fj b CX
 have a:=bG hx b CX h hZ g hw
 have N0:=Fr.nil n0
 refine ak 1 0 X0 a ?_
 refine aG (T':=s₁) (mkF m 12 #[rv o1] []) (fun _ k=>XS.ifnonnullYes X0.here hx rfl (pc0:=1) (pc':=12) rfl (D 1 rfl) rfl (by decide) (by decide) k) ?_
 refine ak 13 6 X0 a ?_
 exact dU 7 X0 a hret f (by rw[e0];exact ⟨rfl,N0,rfl⟩)
def VH (Z:State)(a:Addr)(h0:Heap)(n0:Nat)(v:Option Value)(h:Heap)(L:List Loc):Prop:=v=none∧Fr n0 L∧h=h0
theorem Et (l:Launch)(Z:State)(a0:Array Value)(hw: ∀d∈tables_1,d.before a0 Z=true)(ws:List Jvm.Cond)(a:Addr)(h0:Heap)(n0:Nat)(Z0:n0≤h0.size)(f:Old Z n0 h0)(ka:ClassId)(vs:List Value)(g:Arv Z h0 a ka .int (2:Int32) vs (.int (0:Int32))):
  bp l (⟨"java/math/BigInteger","multiplyToLenCheck","([II)V"⟩:MethodName) (Jvm.Cond.code (⟨"java/math/BigInteger","multiplyToLenCheck","([II)V"⟩:MethodName) jdk_2097_method_47_code 2 none::ws) ({frames:=1,cells:=0,slots:=0,locals:=14}:Room) #[(.ref a),(.int (2:Int32))] Z h0 (VH Z a h0 n0):=by
 refine bI (plainFor_of_name gF) (fun m=>Rp m a (2:Int32)) fun p e s m r t c s₁ hx h i j (k:s.vm.findClass "java/math/BigInteger"=some m.cls) hnm hret X0 hZ e0=> ?_
 have b:=bG hx h M_ k hZ j hw
 have N0:=Fr.nil n0
 have KP:Keep h0 h0 []:=Keep.refl _ _
 refine au 1 0 X0 b ?_
 refine bk 5 1 X0 b rfl ((if0 _ _).trans (tlt (by decide:(0:Int32)<(2:Int32))).2.2.1) ?_
 refine ak 6 3 X0 b ?_
 refine bZ 9 1 0 0 0 4 252 253 234 254 X0 b (VG l Z a0 hw [] a h0 n0 (Nat.le_trans Z0 KP.1) f) Qa e0 fun _ T103 u X103 n=> ?_
 obtain ⟨rfl,o,e103⟩:=n
 have q:=Fr.app N0 o
 refine aJ [_] ?_
 refine pX 10 5 X103 b ?_
 refine au 11 6 X103 b ?_
 refine ak 12 7 X103 b ?_
 refine bU 13 8 X103 b e103 g ?_
 refine bQ 27 9 X103 b rfl (flt (by decide: ¬((2:Int32)<(2:Int32)))).2.2.2 ?_
 exact jE 17 X103 b hret i (by rw[e103];exact ⟨rfl,q,rfl⟩)
def VJ (Z:State)(a:Addr)(ka:ClassId)(x0 x1:Int32)(cc:Addr)(kc:ClassId)(y0 y1:Int32)(h0:Heap)(n0:Nat)(v:Option Value)(h:Heap)(L:List Loc):Prop:= ∃(b:Addr) (kb:ClassId) (z0 z1 z2 z3:Int32),v=some (.ref b)∧Fr n0 L∧Keep h0 h []∧n0≤b∧h0.size≤b∧Arv Z h b kb .int (4:Int32) [(.int z0),(.int z1),(.int z2),(.int z3)] (.int (0:Int32))∧(ah x0*4294967296+ah x1)*(ah y0*4294967296+ah y1)=((ah z0*4294967296+ah z1)*4294967296+ah z2)*4294967296+ah z3∧(z0=0→ ¬z1=0)∧Exa Z h b "[I"
theorem VK (l:Launch)(Z:State)(a0:Array Value)(hw: ∀d∈tables_1,d.before a0 Z=true)(ws:List Jvm.Cond)(a:Addr)(ka:ClassId)(x0 x1:Int32)(cc:Addr)(kc:ClassId)(y0 y1:Int32)(h0:Heap)(n0:Nat)(Z0:n0≤h0.size)(OL:Old Z n0 h0)(n:Arv Z h0 a ka .int (2:Int32) [(.int x0),(.int x1)] (.int (0:Int32)))(o:Arv Z h0 cc kc .int (2:Int32) [(.int y0),(.int y1)] (.int (0:Int32)))(hx0: ¬x0=0)(hy0: ¬y0=0):
  bp l (⟨"java/math/BigInteger","implMultiplyToLen","([II[II[I)[I"⟩:MethodName) (Jvm.Cond.code (⟨"java/math/BigInteger","implMultiplyToLen","([II[II[I)[I"⟩:MethodName) jdk_2097_method_46_code 14 (some (.array .int))::ws) ({frames:=0,cells:=1,slots:=4,locals:=0}:Room) #[(.ref a),(.int (2:Int32)),(.ref cc),(.int (2:Int32)),.null] Z h0 (VJ Z a ka x0 x1 cc kc y0 y1 h0 n0):=by
 refine bI (plainFor_of_name gF) (fun m=>Rq m a (2:Int32) cc (2:Int32)) fun p e s m a8 a9 c s₁ hx S ae af (ag:s.vm.findClass "java/math/BigInteger"=some m.cls) hnm hret X0 hZ e0=> ?_
 have D:=fj S CY
 have b:=bG hx S CY ag hZ af hw
 have N0:=Fr.nil n0
 have KP:Keep h0 h0 []:=Keep.refl _ _
 refine au 1 0 X0 b ?_
 refine aB 2 1 1 X0 b ?_
 refine dQ 3 2 X0 b (z:=(1:Int32)) ?_
 refine bh 5 3 #[_,_,_,_,_,_,_,_,_,_,_,_,_,_] X0 b ?_
 refine au 6 4 X0 b ?_
 refine aB 7 5 1 X0 b ?_
 refine dQ 8 6 X0 b (z:=(1:Int32)) ?_
 refine bh 10 7 #[_,_,_,_,_,_,_,_,_,_,_,_,_,_] X0 b ?_
 refine aR 12 8 X0 b ?_
 refine aG (T':=s₁) (mkF m 24 #[rv a,iv 2,rv cc,iv 2,.val .null,iv 1,iv 1,.unset,.unset,.unset,.unset,.unset,.unset,.unset] []) (fun _ k=>XS.ifnullYes X0.here hx rfl (pc0:=12) (pc':=24) rfl (D 9 rfl) rfl (by decide) (by decide) k) ?_
 refine au 25 16 X0 b ?_
 refine au 26 17 X0 b ?_
 refine bJ 27 18 X0 b (z:=(4:Int32)) ?_
 obtain ⟨a_,T,w,i,e104,P,U,V,W⟩:=newPE X0 hx hZ (aj hw 52 rfl) e0 (g:=(mkF m 27 #[rv a,iv 2,rv cc,iv 2,.val .null,iv 1,iv 1,.unset,.unset,.unset,.unset,.unset,.unset,.unset] [(.int (4:Int32))])) rfl (D 19 rfl) rfl (by decide) (cap:=4) (by decide) (by decide) (by decide) (by decide) (ad:="[I") (by decide)
 obtain ⟨u,F⟩: ∃z,z=h0.size:=⟨_,rfl⟩
 rw[←F] at U V W
 have y:h0.size≤u:=Nat.le_trans KP.1 (Nat.le_of_eq F.symm)
 have A:n0≤u:=Nat.le_trans Z0 y
 have G:a≠u:=Nat.ne_of_lt (Nat.lt_of_lt_of_le n.lt (Nat.le_of_eq F.symm))
 have H:cc≠u:=Nat.ne_of_lt (Nat.lt_of_lt_of_le o.lt (Nat.le_of_eq F.symm))
 have KP:=KP.ext P
 have n:=n.ext P
 have o:=o.ext P
 have v:Exa Z T u "[I":=V
 have q:Arv Z T u w .int (4:Int32) [(.int (0:Int32)),(.int (0:Int32)),(.int (0:Int32)),(.int (0:Int32))] (.int (0:Int32)):=(Arv.new U (by decide)).pad (pad_rep [] (.int (0:Int32)) 4)
 refine aG (mkF m 29 #[rv a,iv 2,rv cc,iv 2,.val .null,iv 1,iv 1,.unset,.unset,.unset,.unset,.unset,.unset,.unset] [(.ref u)]) W ?_
 refine gY 31 20 #[_,_,_,_,_,_,_,_,_,_,_,_,_,_] i b ?_
 refine jl 32 21 0 i b ?_
 refine dN 34 22 #[_,_,_,_,_,_,_,_,_,_,_,_,_,_] i b ?_
 refine aq 36 23 i b ?_
 refine bh 38 24 #[_,_,_,_,_,_,_,_,_,_,_,_,_,_] i b ?_
 refine aq 40 25 i b ?_
 refine aB 41 26 1 i b ?_
 refine bJ 42 27 i b (z:=(2:Int32)) ?_
 refine aq 44 28 i b ?_
 refine bJ 45 29 i b (z:=(3:Int32)) ?_
 refine bh 47 30 #[_,_,_,_,_,_,_,_,_,_,_,_,_,_] i b ?_
 refine aq 49 31 i b ?_
 refine bw 52 32 i b rfl ((if0 _ _).trans (flt (by decide: ¬((1:Int32)<(0:Int32)))).1) ?_
 refine ak 53 33 i b ?_
 refine aq 55 34 i b ?_
 refine eY 56 35 i b e104 o (x:=y1) ?_
 refine bW 57 36 i b ?_
 refine bO 60 53 37 i b ?_
 refine bR 61 38 i b ?_
 refine ak 62 39 i b ?_
 refine aq 64 40 i b ?_
 refine eY 65 41 i b e104 n (x:=x1) ?_
 refine bW 66 42 i b ?_
 refine bO 69 53 43 i b ?_
 refine bR 70 44 i b ?_
 refine jA 71 45 i b ?_
 refine aI 73 46 i b ?_
 refine iu 74 47 i b ?_
 generalize ai:((((y1.toInt64)&&&(4294967295:Int64))*((x1.toInt64)&&&(4294967295:Int64)))+(0:Int64))=B
 refine dN 76 48 #[_,_,_,_,_,_,_,_,_,_,_,_,_,_] i b ?_
 refine aR 78 49 i b ?_
 refine aq 80 50 i b ?_
 refine aI 82 51 i b ?_
 refine gn 83 52 i b ?_
 refine iY 84 3 53 i b e104 q fun a' h105 j Q I al=> ?_
 have am:=Fr.snoc j N0 A
 have KP:=KP.wr I (Or.inr y)
 have n:=n.other I G
 have o:=o.other I H
 have v:=v.wr I
 have q:Arv Z h105 u w .int (4:Int32) [(.int (0:Int32)),(.int (0:Int32)),(.int (0:Int32)),(.int (B.toInt32))] (.int (0:Int32)):=al
 refine aI 86 54 j b ?_
 refine bT 88 55 32 j b ?_
 refine jD 89 56 j b ?_
 generalize ao:((B.toUInt64>>>((32:Int32)&&&0x3f).toInt64.toUInt64).toInt64)=av
 refine dN 91 57 #[_,_,_,_,_,_,_,_,_,_,_,_,_,_] j b ?_
 refine dG 94 58 #[_,_,_,_,_,_,_,_,_,iv 0,_,_,_,_] j b ?_
 refine dG 97 59 #[_,_,_,_,_,_,_,_,_,_,iv 2,_,_,_] j b ?_
 refine bL 47 60 j b ?_
 refine aq 49 31 j b ?_
 refine bw 52 32 j b rfl ((if0 _ _).trans (flt (by decide: ¬((0:Int32)<(0:Int32)))).1) ?_
 refine ak 53 33 j b ?_
 refine aq 55 34 j b ?_
 refine eY 56 35 j b Q o (x:=y0) ?_
 refine bW 57 36 j b ?_
 refine bO 60 53 37 j b ?_
 refine bR 61 38 j b ?_
 refine ak 62 39 j b ?_
 refine aq 64 40 j b ?_
 refine eY 65 41 j b Q n (x:=x1) ?_
 refine bW 66 42 j b ?_
 refine bO 69 53 43 j b ?_
 refine bR 70 44 j b ?_
 refine jA 71 45 j b ?_
 refine aI 73 46 j b ?_
 refine iu 74 47 j b ?_
 generalize aw:((((y0.toInt64)&&&(4294967295:Int64))*((x1.toInt64)&&&(4294967295:Int64)))+av)=E
 refine dN 76 48 #[_,_,_,_,_,_,_,_,_,_,_,_,_,_] j b ?_
 refine aR 78 49 j b ?_
 refine aq 80 50 j b ?_
 refine aI 82 51 j b ?_
 refine gn 83 52 j b ?_
 refine iY 84 2 53 j b Q q fun bb ax r aA J aC=> ?_
 have aD:=Fr.snoc r am A
 have KP:=KP.wr J (Or.inr y)
 have n:=n.other J G
 have o:=o.other J H
 have v:=v.wr J
 have q:Arv Z ax u w .int (4:Int32) [(.int (0:Int32)),(.int (0:Int32)),(.int (E.toInt32)),(.int (B.toInt32))] (.int (0:Int32)):=aC
 refine aI 86 54 r b ?_
 refine bT 88 55 32 r b ?_
 refine jD 89 56 r b ?_
 generalize aF:((E.toUInt64>>>((32:Int32)&&&0x3f).toInt64.toUInt64).toInt64)=K
 refine dN 91 57 #[_,_,_,_,_,_,_,_,_,_,_,_,_,_] r b ?_
 refine dG 94 58 #[_,_,_,_,_,_,_,_,_,iv (-1:Int32),_,_,_,_] r b ?_
 refine dG 97 59 #[_,_,_,_,_,_,_,_,_,_,iv 1,_,_,_] r b ?_
 refine bL 47 60 r b ?_
 refine aq 49 31 r b ?_
 refine bk 100 32 r b rfl ((if0 _ _).trans (tlt (by decide:(-1:Int32)<(0:Int32))).1) ?_
 refine aR 102 61 r b ?_
 refine aq 104 62 r b ?_
 refine aI 106 63 r b ?_
 refine gn 107 64 r b ?_
 refine iY 108 1 65 r b aA q fun bd aH f e107 L aK=> ?_
 have aL:=Fr.snoc f aD A
 have KP:=KP.wr L (Or.inr y)
 have n:=n.other L G
 have o:=o.other L H
 have v:=v.wr L
 have q:Arv Z aH u w .int (4:Int32) [(.int (0:Int32)),(.int (K.toInt32)),(.int (E.toInt32)),(.int (B.toInt32))] (.int (0:Int32)):=aK
 refine aq 110 66 f b ?_
 refine aB 111 67 1 f b ?_
 refine dQ 112 68 f b (z:=(0:Int32)) ?_
 refine bh 114 69 #[_,_,_,_,_,_,_,_,_,_,_,_,_,_] f b ?_
 refine aq 116 70 f b ?_
 refine bw 119 71 f b rfl ((if0 _ _).trans (flt (by decide: ¬((0:Int32)<(0:Int32)))).1) ?_
 refine jl 120 72 0 f b ?_
 refine dN 122 73 #[_,_,_,_,_,_,_,_,_,_,_,_,_,_] f b ?_
 refine aq 124 74 f b ?_
 refine bh 126 75 #[_,_,_,_,_,_,_,_,_,_,_,_,_,_] f b ?_
 refine aq 128 76 f b ?_
 refine aB 129 77 1 f b ?_
 refine bJ 130 78 f b (z:=(2:Int32)) ?_
 refine aq 132 79 f b ?_
 refine bJ 133 80 f b (z:=(2:Int32)) ?_
 refine bh 135 81 #[_,_,_,_,_,_,_,_,_,_,_,_,_,_] f b ?_
 refine aq 137 82 f b ?_
 refine bw 140 83 f b rfl ((if0 _ _).trans (flt (by decide: ¬((1:Int32)<(0:Int32)))).1) ?_
 refine ak 141 84 f b ?_
 refine aq 143 85 f b ?_
 refine eY 144 86 f b e107 o (x:=y1) ?_
 refine bW 145 87 f b ?_
 refine bO 148 53 88 f b ?_
 refine bR 149 89 f b ?_
 refine ak 150 90 f b ?_
 refine aq 152 91 f b ?_
 refine eY 153 92 f b e107 n (x:=x0) ?_
 refine bW 154 93 f b ?_
 refine bO 157 53 94 f b ?_
 refine bR 158 95 f b ?_
 refine jA 159 96 f b ?_
 refine aR 161 97 f b ?_
 refine aq 163 98 f b ?_
 refine eY 164 99 f b e107 q (x:=(E.toInt32)) ?_
 refine bW 165 100 f b ?_
 refine bO 168 53 101 f b ?_
 refine bR 169 102 f b ?_
 refine iu 170 103 f b ?_
 refine aI 172 104 f b ?_
 refine iu 173 105 f b ?_
 generalize aM:(((((y1.toInt64)&&&(4294967295:Int64))*((x0.toInt64)&&&(4294967295:Int64)))+(((E.toInt32).toInt64)&&&(4294967295:Int64)))+(0:Int64))=M
 refine dN 175 106 #[_,_,_,_,_,_,_,_,_,_,_,_,_,_] f b ?_
 refine aR 177 107 f b ?_
 refine aq 179 108 f b ?_
 refine aI 181 109 f b ?_
 refine gn 182 110 f b ?_
 refine iY 183 2 111 f b e107 q fun be h108 h N O aN=> ?_
 have aO:=Fr.snoc h aL A
 have KP:=KP.wr O (Or.inr y)
 have n:=n.other O G
 have o:=o.other O H
 have v:=v.wr O
 have q:Arv Z h108 u w .int (4:Int32) [(.int (0:Int32)),(.int (K.toInt32)),(.int (M.toInt32)),(.int (B.toInt32))] (.int (0:Int32)):=aN
 refine aI 185 112 h b ?_
 refine bT 187 113 32 h b ?_
 refine jD 188 114 h b ?_
 generalize aP:((M.toUInt64>>>((32:Int32)&&&0x3f).toInt64.toUInt64).toInt64)=cb1
 refine dN 190 115 #[_,_,_,_,_,_,_,_,_,_,_,_,_,_] h b ?_
 refine dG 193 116 #[_,_,_,_,_,_,_,_,_,_,iv 0,_,_,_] h b ?_
 refine dG 196 117 #[_,_,_,_,_,_,_,_,_,_,_,iv 1,_,_] h b ?_
 refine bL 135 118 h b ?_
 refine aq 137 82 h b ?_
 refine bw 140 83 h b rfl ((if0 _ _).trans (flt (by decide: ¬((0:Int32)<(0:Int32)))).1) ?_
 refine ak 141 84 h b ?_
 refine aq 143 85 h b ?_
 refine eY 144 86 h b N o (x:=y0) ?_
 refine bW 145 87 h b ?_
 refine bO 148 53 88 h b ?_
 refine bR 149 89 h b ?_
 refine ak 150 90 h b ?_
 refine aq 152 91 h b ?_
 refine eY 153 92 h b N n (x:=x0) ?_
 refine bW 154 93 h b ?_
 refine bO 157 53 94 h b ?_
 refine bR 158 95 h b ?_
 refine jA 159 96 h b ?_
 refine aR 161 97 h b ?_
 refine aq 163 98 h b ?_
 refine eY 164 99 h b N q (x:=(K.toInt32)) ?_
 refine bW 165 100 h b ?_
 refine bO 168 53 101 h b ?_
 refine bR 169 102 h b ?_
 refine iu 170 103 h b ?_
 refine aI 172 104 h b ?_
 refine iu 173 105 h b ?_
 generalize aQ:(((((y0.toInt64)&&&(4294967295:Int64))*((x0.toInt64)&&&(4294967295:Int64)))+(((K.toInt32).toInt64)&&&(4294967295:Int64)))+cb1)=R
 refine dN 175 106 #[_,_,_,_,_,_,_,_,_,_,_,_,_,_] h b ?_
 refine aR 177 107 h b ?_
 refine aq 179 108 h b ?_
 refine aI 181 109 h b ?_
 refine gn 182 110 h b ?_
 refine iY 183 1 111 h b N q fun bf aS t e109 X aT=> ?_
 have aU:=Fr.snoc t aO A
 have KP:=KP.wr X (Or.inr y)
 have v:=v.wr X
 have q:Arv Z aS u w .int (4:Int32) [(.int (0:Int32)),(.int (R.toInt32)),(.int (M.toInt32)),(.int (B.toInt32))] (.int (0:Int32)):=aT
 refine aI 185 112 t b ?_
 refine bT 187 113 32 t b ?_
 refine jD 188 114 t b ?_
 generalize aV:((R.toUInt64>>>((32:Int32)&&&0x3f).toInt64.toUInt64).toInt64)=aX
 refine dN 190 115 #[_,_,_,_,_,_,_,_,_,_,_,_,_,_] t b ?_
 refine dG 193 116 #[_,_,_,_,_,_,_,_,_,_,iv (-1:Int32),_,_,_] t b ?_
 refine dG 196 117 #[_,_,_,_,_,_,_,_,_,_,_,iv 0,_,_] t b ?_
 refine bL 135 118 t b ?_
 refine aq 137 82 t b ?_
 refine bk 199 83 t b rfl ((if0 _ _).trans (tlt (by decide:(-1:Int32)<(0:Int32))).1) ?_
 refine aR 201 119 t b ?_
 refine aq 203 120 t b ?_
 refine aI 205 121 t b ?_
 refine gn 206 122 t b ?_
 refine iY 207 0 123 t b e109 q fun bg h110 C aZ Y a5=> ?_
 have a6:=Fr.snoc C aU A
 have KP:=KP.wr Y (Or.inr y)
 have v:=v.wr Y
 have q:Arv Z h110 u w .int (4:Int32) [(.int (aX.toInt32)),(.int (R.toInt32)),(.int (M.toInt32)),(.int (B.toInt32))] (.int (0:Int32)):=a5
 refine dG 210 124 #[_,_,_,_,_,_,_,_,_,iv (-1:Int32),_,_,_,_] C b ?_
 refine bL 114 125 C b ?_
 refine aq 116 70 C b ?_
 refine bk 213 71 C b rfl ((if0 _ _).trans (tlt (by decide:(-1:Int32)<(0:Int32))).1) ?_
 refine aR 215 126 C b ?_
 have MT:=Ho ai ao aw aF aM aP aQ aV hx0 hy0
 exact dU 127 C b hret ae (by rw[aZ];exact ⟨u,w,_,_,_,_,rfl,a6,KP,A,y,q,MT.1,MT.2,v⟩)
def VL (Z:State)(a:Addr)(ka:ClassId)(x0 x1:Int32)(cc:Addr)(kc:ClassId)(y0 y1:Int32)(h0:Heap)(n0:Nat)(v:Option Value)(h:Heap)(L:List Loc):Prop:= ∃(b:Addr) (kb:ClassId) (z0 z1 z2 z3:Int32),v=some (.ref b)∧Fr n0 L∧Keep h0 h []∧n0≤b∧h0.size≤b∧Arv Z h b kb .int (4:Int32) [(.int z0),(.int z1),(.int z2),(.int z3)] (.int (0:Int32))∧(ah x0*4294967296+ah x1)*(ah y0*4294967296+ah y1)=((ah z0*4294967296+ah z1)*4294967296+ah z2)*4294967296+ah z3∧(z0=0→ ¬z1=0)∧Exa Z h b "[I"
theorem VN (l:Launch)(Z:State)(a0:Array Value)(hw: ∀d∈tables_1,d.before a0 Z=true)(ws:List Jvm.Cond)(a:Addr)(ka:ClassId)(x0 x1:Int32)(cc:Addr)(kc:ClassId)(y0 y1:Int32)(h0:Heap)(n0:Nat)(Z0:n0≤h0.size)(f:Old Z n0 h0)(h:Arv Z h0 a ka .int (2:Int32) [(.int x0),(.int x1)] (.int (0:Int32)))(i:Arv Z h0 cc kc .int (2:Int32) [(.int y0),(.int y1)] (.int (0:Int32)))(hx0: ¬x0=0)(hy0: ¬y0=0):
  bp l (⟨"java/math/BigInteger","multiplyToLen","([II[II[I)[I"⟩:MethodName) (Jvm.Cond.code (⟨"java/math/BigInteger","multiplyToLen","([II[II[I)[I"⟩:MethodName) jdk_2097_method_45_code 5 (some (.array .int))::ws) ({frames:=2,cells:=1,slots:=4,locals:=30}:Room) #[(.ref a),(.int (2:Int32)),(.ref cc),(.int (2:Int32)),.null] Z h0 (VL Z a ka x0 x1 cc kc y0 y1 h0 n0):=by
 refine bI (plainFor_of_name gF) (fun m=>Rr m a (2:Int32) cc (2:Int32)) fun p e s m I J c s₁ hx j k n (o:s.vm.findClass "java/math/BigInteger"=some m.cls) hnm hret X0 hZ e0=> ?_
 have b:=bG hx j Nh o hZ n hw
 have N0:=Fr.nil n0
 have KP:Keep h0 h0 []:=Keep.refl _ _
 refine ak 1 0 X0 b ?_
 refine au 2 1 X0 b ?_
 refine bZ 5 2 0 0 0 2 249 250 24 251 X0 b (Et l Z a0 hw [] a h0 n0 (Nat.le_trans Z0 KP.1) f ka _ h) ke e0 fun _ K L g q=> ?_
 obtain ⟨rfl,r,e111⟩:=q
 have t:=Fr.app N0 r
 refine aJ [] ?_
 refine ak 6 3 g b ?_
 refine au 7 4 g b ?_
 refine bZ 10 2 0 0 0 5 249 250 24 251 g b (Et l Z a0 hw [] cc h0 n0 (Nat.le_trans Z0 KP.1) f kc _ i) ke e111 fun _ T112 M X112 u=> ?_
 obtain ⟨rfl,v,e112⟩:=u
 have w:=Fr.app t v
 refine aJ [] ?_
 refine ak 11 6 X112 b ?_
 refine au 12 7 X112 b ?_
 refine ak 13 8 X112 b ?_
 refine au 14 9 X112 b ?_
 refine aR 16 10 X112 b ?_
 have x:=KP
 refine bZ 19 5 0 1 4 11 255 256 24 257 X112 b (VK l Z a0 hw [] a ka x0 x1 cc kc y0 y1 h0 n0 (Nat.le_trans Z0 KP.1) f h i hx0 hy0) DW e112 fun _ N O y z=> ?_
 obtain ⟨bb,A,z0,z1,z2,z3,rfl,B,C,D,E,F⟩:=z
 have G:=Fr.app w B
 have KP:=KP.trans C all0
 refine aJ [_] ?_
 have H:h0.size≤bb:=Nat.le_trans x.1 E
 exact dU 12 y b hret k (by exact ⟨bb,A,z0,z1,z2,z3,rfl,G,KP,D,H,F⟩)
def VP (Z:State)(a:Addr)(ka:ClassId)(z0 z1 z2 z3:Int32)(h0:Heap)(n0:Nat)(v:Option Value)(h:Heap)(L:List Loc):Prop:=v=some (.ref a)∧Fr n0 L∧h=h0
theorem VQ (l:Launch)(Z:State)(a0:Array Value)(hw: ∀d∈tables_1,d.before a0 Z=true)(ws:List Jvm.Cond)(a:Addr)(ka:ClassId)(z0 z1 z2 z3:Int32)(h0:Heap)(n0:Nat)(Z0:n0≤h0.size)(k:Old Z n0 h0)(f:Arv Z h0 a ka .int (4:Int32) [(.int z0),(.int z1),(.int z2),(.int z3)] (.int (0:Int32)))(hz0: ¬z0=0):
  bp l (⟨"java/math/BigInteger","trustedStripLeadingZeroInts","([I)[I"⟩:MethodName) (Jvm.Cond.code (⟨"java/math/BigInteger","trustedStripLeadingZeroInts","([I)[I"⟩:MethodName) jdk_2097_method_140_code 3 (some (.array .int))::ws) ({frames:=0,cells:=0,slots:=0,locals:=0}:Room) #[(.ref a)] Z h0 (VP Z a ka z0 z1 z2 z3 h0 n0):=by
 refine bI (plainFor_of_name gF) (fun m=>Rt m a) fun p e s m n o c s₁ hx g h i (j:s.vm.findClass "java/math/BigInteger"=some m.cls) hnm hret X0 hZ e0=> ?_
 have b:=bG hx g C_ j hZ i hw
 have N0:=Fr.nil n0
 refine ak 1 0 X0 b ?_
 refine bU 2 1 X0 b e0 f ?_
 refine eO 3 2 #[_,_,_] X0 b ?_
 refine aB 4 3 0 X0 b ?_
 refine eO 5 4 #[_,_,_] X0 b ?_
 refine au 6 5 X0 b ?_
 refine au 7 6 X0 b ?_
 refine bY 10 7 X0 b rfl (tlt (by decide:(0:Int32)<(4:Int32))).2.1 ?_
 refine ak 11 8 X0 b ?_
 refine au 12 9 X0 b ?_
 refine eY 13 10 X0 b e0 f (x:=z0) ?_
 refine bk 22 11 X0 b rfl ((if0 _ _).trans (feq hz0).2) ?_
 refine au 23 14 X0 b ?_
 refine bw 26 15 X0 b rfl ((if0 _ _).trans (teq (by decide:(0:Int32)=(0:Int32))).2) ?_
 refine ak 27 16 X0 b ?_
 refine bL 36 17 X0 b ?_
 exact dU 22 X0 b hret h (by rw[e0];exact ⟨rfl,N0,rfl⟩)
def VR (Z:State)(a:Addr)(ka:ClassId)(z0 z1 z2 z3:Int32)(h0:Heap)(n0:Nat)(v:Option Value)(h:Heap)(L:List Loc):Prop:= ∃(b:Addr) (kb:ClassId),v=some (.ref b)∧Fr n0 L∧Keep h0 h []∧n0≤b∧h0.size≤b∧Arv Z h b kb .int (3:Int32) [(.int z1),(.int z2),(.int z3)] (.int (0:Int32))∧Exa Z h b "[I"
theorem VU (l:Launch)(Z:State)(a0:Array Value)(hw: ∀d∈tables_1,d.before a0 Z=true)(ws:List Jvm.Cond)(a:Addr)(ka:ClassId)(z0 z1 z2 z3:Int32)(h0:Heap)(n0:Nat)(Z0:n0≤h0.size)(g:Old Z n0 h0)(f:Arv Z h0 a ka .int (4:Int32) [(.int z0),(.int z1),(.int z2),(.int z3)] (.int (0:Int32)))(hz0:z0=0)(hz1: ¬z1=0):
  bp l (⟨"java/math/BigInteger","trustedStripLeadingZeroInts","([I)[I"⟩:MethodName) (Jvm.Cond.code (⟨"java/math/BigInteger","trustedStripLeadingZeroInts","([I)[I"⟩:MethodName) jdk_2097_method_140_code 3 (some (.array .int))::ws) ({frames:=3,cells:=1,slots:=3,locals:=80}:Room) #[(.ref a)] Z h0 (VR Z a ka z0 z1 z2 z3 h0 n0):=by
 refine bI (plainFor_of_name gF) (fun m=>Rx m a) fun p e s m B C c s₁ hx h i j (k:s.vm.findClass "java/math/BigInteger"=some m.cls) hnm hret X0 hZ e0=> ?_
 have b:=bG hx h C_ k hZ j hw
 have N0:=Fr.nil n0
 have KP:Keep h0 h0 []:=Keep.refl _ _
 refine ak 1 0 X0 b ?_
 refine bU 2 1 X0 b e0 f ?_
 refine eO 3 2 #[_,_,_] X0 b ?_
 refine aB 4 3 0 X0 b ?_
 refine eO 5 4 #[_,_,_] X0 b ?_
 refine au 6 5 X0 b ?_
 refine au 7 6 X0 b ?_
 refine bY 10 7 X0 b rfl (tlt (by decide:(0:Int32)<(4:Int32))).2.1 ?_
 refine ak 11 8 X0 b ?_
 refine au 12 9 X0 b ?_
 refine eY 13 10 X0 b e0 f (x:=z0) ?_
 refine bw 16 11 X0 b rfl ((if0 _ _).trans (teq hz0).2) ?_
 refine dG 19 12 #[_,_,iv 1] X0 b ?_
 refine bL 5 13 X0 b ?_
 refine au 6 5 X0 b ?_
 refine au 7 6 X0 b ?_
 refine bY 10 7 X0 b rfl (tlt (by decide:(1:Int32)<(4:Int32))).2.1 ?_
 refine ak 11 8 X0 b ?_
 refine au 12 9 X0 b ?_
 refine eY 13 10 X0 b e0 f (x:=z1) ?_
 refine bk 22 11 X0 b rfl ((if0 _ _).trans (feq hz1).2) ?_
 refine au 23 14 X0 b ?_
 refine bk 30 15 X0 b rfl ((if0 _ _).trans (feq (by decide: ¬((1:Int32)=(0:Int32)))).2) ?_
 refine ak 31 18 X0 b ?_
 refine au 32 19 X0 b ?_
 refine au 33 20 X0 b ?_
 have n:=KP
 refine bZ 36 3 0 1 3 21 54 55 56 57 X0 b (Vk l Z a0 hw [] a ka z0 z1 z2 z3 h0 n0 (Nat.le_trans Z0 KP.1) g f) pL e0 fun _ D E o q=> ?_
 obtain ⟨bb,r,rfl,t,u,v,w,y⟩:=q
 have z:=Fr.app N0 t
 have KP:=KP.trans u all0
 refine aJ [_] ?_
 have A:h0.size≤bb:=Nat.le_trans n.1 w
 exact dU 22 o b hret i (by exact ⟨bb,r,rfl,z,KP,v,A,y⟩)
theorem VY (l:Launch)(Z:State)(a0:Array Value)(hw: ∀d∈tables_1,d.before a0 Z=true)(ws:List Jvm.Cond)(cx ca:Addr)(kc:ClassId)(c0:Int32)(px pa:Addr)(kp:ClassId)(d0:Int32)(h0:Heap)(n0:Nat)(Z0:n0≤h0.size)(I:Old Z n0 h0)(J:fY Z h0 cx ca kc [c0])(K:fY Z h0 px pa kp [d0])(hc0: ¬c0=0)(hd0: ¬d0=0):
  bp l (⟨"java/math/BigInteger","multiply","(Ljava/math/BigInteger;ZZI)Ljava/math/BigInteger;"⟩:MethodName) (Jvm.Cond.code (⟨"java/math/BigInteger","multiply","(Ljava/math/BigInteger;ZZI)Ljava/math/BigInteger;"⟩:MethodName) jdk_2097_method_42_code 9 (some (.object "java/math/BigInteger"))::ws) ({frames:=4,cells:=3,slots:=22,locals:=110}:Room) #[(.ref cx),(.ref px),(.int (0:Int32)),(.int (0:Int32)),(.int (0:Int32))] Z h0 (lY Z (fun h x a k=>rg Z h x a k (ah c0*ah d0)∨oj Z h x a k (ah c0*ah d0)) h0 n0):=by
 refine bI (plainFor_of_name gF) (fun m=>Ry m cx px (0:Int32) (0:Int32) (0:Int32)) fun p e s m L X c s₁ hx y M N (O:s.vm.findClass "java/math/BigInteger"=some m.cls) hnm hret X0 hZ e0=> ?_
 have D:=fj y qF
 have b:=bG hx y qF O hZ N hw
 have N0:=Fr.nil n0
 have KP:Keep h0 h0 []:=Keep.refl _ _
 obtain ⟨Y,z,A,r,ad⟩:=id J
 have r:Arv Z h0 ca kc .int (1:Int32) [(.int c0)] (.int (0:Int32)):=r
 obtain ⟨ae,B,u,n,af⟩:=id K
 have n:Arv Z h0 pa kp .int (1:Int32) [(.int d0)] (.int (0:Int32)):=n
 refine ak 1 0 X0 b ?_
 refine aE 4 1 38 X0 b e0 B fun T115 X115 e115=> ?_
 refine bw 7 2 X115 b rfl ((if0 _ _).trans (feq (by decide: ¬((1:Int32)=(0:Int32)))).1) ?_
 refine ak 8 3 X115 b ?_
 refine aE 11 4 38 X115 b e115 z fun ag v P=> ?_
 refine bk 18 5 v b rfl ((if0 _ _).trans (feq (by decide: ¬((1:Int32)=(0:Int32)))).2) ?_
 refine ak 19 8 v b ?_
 refine aE 22 9 40 v b P A fun w f e117=> ?_
 refine bU 23 10 f b e117 r ?_
 refine bh 25 11 #[_,_,_,_,_,_,_,_,_] f b ?_
 refine ak 26 12 f b ?_
 refine ak 27 13 f b ?_
 suffices C:ay p e L (gb s (lY Z (fun h x a k=>rg Z h x a k (ah c0*ah d0)∨oj Z h x a k (ah c0*ah d0)) h0 n0) ({frames:=4,cells:=3,slots:=22,locals:=110}:Room).cells ({frames:=4,cells:=3,slots:=22,locals:=110}:Room).slots) w (mkF m 46 #[rv cx,rv px,iv 0,iv 0,iv 0,iv 1,.unset,.unset,.unset] []) from by
  by_cases hal:px=cx
  ·refine aG (T':=w) (mkF m 30 #[rv cx,rv px,iv 0,iv 0,iv 0,iv 1,.unset,.unset,.unset] []) (fun _ k=>Jvm.RoadKit.acmp (g:=(mkF m 27 #[rv cx,rv px,iv 0,iv 0,iv 0,iv 1,.unset,.unset,.unset] [(.ref cx),(.ref px)])) f hx rfl rfl rfl (pc0:=27) (pc':=30) (same:=true) rfl (D 14 rfl) rfl (decide_eq_true (congrArg Value.ref hal)) (by decide) (by decide) k) ?_
   refine aq 32 15 f b ?_
   refine bT 34 16 20 f b ?_
   refine bQ 46 17 f b rfl (flt (by decide: ¬((20:Int32)<(1:Int32)))).2.2.2 ?_
   exact C
  ·refine aG (T':=w) (mkF m 46 #[rv cx,rv px,iv 0,iv 0,iv 0,iv 1,.unset,.unset,.unset] []) (fun _ k=>Jvm.RoadKit.acmp (g:=(mkF m 27 #[rv cx,rv px,iv 0,iv 0,iv 0,iv 1,.unset,.unset,.unset] [(.ref cx),(.ref px)])) f hx rfl rfl rfl (pc0:=27) (pc':=46) (same:=false) rfl (D 14 rfl) rfl (decide_eq_false fun q=>hal (Value.ref.inj q)) (by decide) (by decide) k) ?_
   exact C
 refine ak 47 24 f b ?_
 refine aE 50 25 40 f b e117 u fun ai i E=> ?_
 refine bU 51 26 i b E n ?_
 refine bh 53 27 #[_,_,_,_,_,_,_,_,_] i b ?_
 refine aq 55 28 i b ?_
 refine bT 57 29 80 i b ?_
 refine bQ 67 30 i b rfl (tlt (by decide:(1:Int32)<(80:Int32))).1 ?_
 refine ak 68 34 i b ?_
 refine aE 71 35 38 i b E z fun al F e120=> ?_
 refine ak 72 36 F b ?_
 refine aE 75 37 38 F b e120 B fun am j Q=> ?_
 refine bY 78 38 j b rfl (teq (by decide:(1:Int32)=(1:Int32))).2 ?_
 refine aB 79 39 1 j b ?_
 refine bL 83 40 j b ?_
 refine bh 85 42 #[_,_,_,_,_,_,_,_,_] j b ?_
 refine ak 86 43 j b ?_
 refine aE 89 44 40 j b Q u fun ao o e122=> ?_
 refine bU 90 45 o b e122 n ?_
 refine aB 91 46 1 o b ?_
 refine bY 94 47 o b rfl (teq (by decide:(1:Int32)=(1:Int32))).2 ?_
 refine ak 95 48 o b ?_
 refine aE 98 49 40 o b e122 A fun av G e123=> ?_
 refine ak 99 50 G b ?_
 refine aE 102 51 40 G b e123 u fun aw t H=> ?_
 refine aB 103 52 0 t b ?_
 refine eY 104 53 t b H n (x:=d0) ?_
 refine aq 106 54 t b ?_
 refine bZ 109 3 0 3 15 55 42 43 24 44 t b (VD l Z a0 hw [] ca kc c0 d0 h0 n0 (Nat.le_trans Z0 KP.1) I r hc0 hd0) zh H fun _ ax aA R S=> ?_
 obtain ⟨rx,ra,rk,rfl,T,U,V⟩:=S
 have W:=Fr.app N0 T
 have KP:=KP.trans U all0
 refine aJ [_] ?_
 exact dU 56 R b hret M (by exact ⟨rx,ra,rk,rfl,W,KP,V⟩)
theorem VZ (l:Launch)(Z:State)(a0:Array Value)(hw: ∀d∈tables_1,d.before a0 Z=true)(ws:List Jvm.Cond)(cx ca:Addr)(kc:ClassId)(c0:Int32)(px pa:Addr)(kp:ClassId)(d0 d1:Int32)(h0:Heap)(n0:Nat)(Z0:n0≤h0.size)(L:Old Z n0 h0)(M:fY Z h0 cx ca kc [c0])(N:fY Z h0 px pa kp [d0,d1])(hc0: ¬c0=0)(hd0: ¬d0=0):
  bp l (⟨"java/math/BigInteger","multiply","(Ljava/math/BigInteger;ZZI)Ljava/math/BigInteger;"⟩:MethodName) (Jvm.Cond.code (⟨"java/math/BigInteger","multiply","(Ljava/math/BigInteger;ZZI)Ljava/math/BigInteger;"⟩:MethodName) jdk_2097_method_42_code 9 (some (.object "java/math/BigInteger"))::ws) ({frames:=4,cells:=3,slots:=22,locals:=110}:Room) #[(.ref cx),(.ref px),(.int (0:Int32)),(.int (0:Int32)),(.int (0:Int32))] Z h0 (lY Z (fun h x a k=>oj Z h x a k (ah c0*(ah d0*4294967296+ah d1))∨qo Z h x a k (ah c0*(ah d0*4294967296+ah d1))) h0 n0):=by
 refine bI (plainFor_of_name gF) (fun m=>RD m cx px (0:Int32) (0:Int32) (0:Int32)) fun p e s m O af c s₁ hx A P Q (R:s.vm.findClass "java/math/BigInteger"=some m.cls) hnm hret X0 hZ e0=> ?_
 have D:=fj A qF
 have b:=bG hx A qF R hZ Q hw
 have N0:=Fr.nil n0
 have KP:Keep h0 h0 []:=Keep.refl _ _
 obtain ⟨ag,B,u,j,ai⟩:=id M
 have j:Arv Z h0 ca kc .int (1:Int32) [(.int c0)] (.int (0:Int32)):=j
 obtain ⟨al,C,v,n,am⟩:=id N
 have n:Arv Z h0 pa kp .int (2:Int32) [(.int d0),(.int d1)] (.int (0:Int32)):=n
 refine ak 1 0 X0 b ?_
 refine aE 4 1 38 X0 b e0 C fun ao w S=> ?_
 refine bw 7 2 w b rfl ((if0 _ _).trans (feq (by decide: ¬((1:Int32)=(0:Int32)))).1) ?_
 refine ak 8 3 w b ?_
 refine aE 11 4 38 w b S B fun av y e127=> ?_
 refine bk 18 5 y b rfl ((if0 _ _).trans (feq (by decide: ¬((1:Int32)=(0:Int32)))).2) ?_
 refine ak 19 8 y b ?_
 refine aE 22 9 40 y b e127 u fun z f E=> ?_
 refine bU 23 10 f b E j ?_
 refine bh 25 11 #[_,_,_,_,_,_,_,_,_] f b ?_
 refine ak 26 12 f b ?_
 refine ak 27 13 f b ?_
 suffices F:ay p e O (gb s (lY Z (fun h x a k=>oj Z h x a k (ah c0*(ah d0*4294967296+ah d1))∨qo Z h x a k (ah c0*(ah d0*4294967296+ah d1))) h0 n0) ({frames:=4,cells:=3,slots:=22,locals:=110}:Room).cells ({frames:=4,cells:=3,slots:=22,locals:=110}:Room).slots) z (mkF m 46 #[rv cx,rv px,iv 0,iv 0,iv 0,iv 1,.unset,.unset,.unset] []) from by
  by_cases hal:px=cx
  ·refine aG (T':=z) (mkF m 30 #[rv cx,rv px,iv 0,iv 0,iv 0,iv 1,.unset,.unset,.unset] []) (fun _ k=>Jvm.RoadKit.acmp (g:=(mkF m 27 #[rv cx,rv px,iv 0,iv 0,iv 0,iv 1,.unset,.unset,.unset] [(.ref cx),(.ref px)])) f hx rfl rfl rfl (pc0:=27) (pc':=30) (same:=true) rfl (D 14 rfl) rfl (decide_eq_true (congrArg Value.ref hal)) (by decide) (by decide) k) ?_
   refine aq 32 15 f b ?_
   refine bT 34 16 20 f b ?_
   refine bQ 46 17 f b rfl (flt (by decide: ¬((20:Int32)<(1:Int32)))).2.2.2 ?_
   exact F
  ·refine aG (T':=z) (mkF m 46 #[rv cx,rv px,iv 0,iv 0,iv 0,iv 1,.unset,.unset,.unset] []) (fun _ k=>Jvm.RoadKit.acmp (g:=(mkF m 27 #[rv cx,rv px,iv 0,iv 0,iv 0,iv 1,.unset,.unset,.unset] [(.ref cx),(.ref px)])) f hx rfl rfl rfl (pc0:=27) (pc':=46) (same:=false) rfl (D 14 rfl) rfl (decide_eq_false fun q=>hal (Value.ref.inj q)) (by decide) (by decide) k) ?_
   exact F
 refine ak 47 24 f b ?_
 refine aE 50 25 40 f b E v fun aw i G=> ?_
 refine bU 51 26 i b G n ?_
 refine bh 53 27 #[_,_,_,_,_,_,_,_,_] i b ?_
 refine aq 55 28 i b ?_
 refine bT 57 29 80 i b ?_
 refine bQ 67 30 i b rfl (tlt (by decide:(1:Int32)<(80:Int32))).1 ?_
 refine ak 68 34 i b ?_
 refine aE 71 35 38 i b G B fun ax H T=> ?_
 refine ak 72 36 H b ?_
 refine aE 75 37 38 H b T C fun T132 X132 U=> ?_
 refine bY 78 38 X132 b rfl (teq (by decide:(1:Int32)=(1:Int32))).2 ?_
 refine aB 79 39 1 X132 b ?_
 refine bL 83 40 X132 b ?_
 refine bh 85 42 #[_,_,_,_,_,_,_,_,_] X132 b ?_
 refine ak 86 43 X132 b ?_
 refine aE 89 44 40 X132 b U v fun aA o I=> ?_
 refine bU 90 45 o b I n ?_
 refine aB 91 46 1 o b ?_
 refine bQ 110 47 o b rfl (feq (by decide: ¬((2:Int32)=(1:Int32)))).2 ?_
 refine ak 111 57 o b ?_
 refine aE 114 58 40 o b I u fun aC r J=> ?_
 refine bU 115 59 r b J j ?_
 refine aB 116 60 1 r b ?_
 refine bY 119 61 r b rfl (teq (by decide:(1:Int32)=(1:Int32))).2 ?_
 refine ak 120 62 r b ?_
 refine aE 123 63 40 r b J v fun aD K V=> ?_
 refine ak 124 64 K b ?_
 refine aE 127 65 40 K b V u fun aF t e136=> ?_
 refine aB 128 66 0 t b ?_
 refine eY 129 67 t b e136 j (x:=c0) ?_
 refine aq 131 68 t b ?_
 refine bZ 134 3 0 3 18 69 42 43 24 44 t b (Er l Z a0 hw [] pa kp d0 d1 c0 h0 n0 (Nat.le_trans Z0 KP.1) L n hd0 hc0) zh e136 fun _ T137 aH X137 W=> ?_
 obtain ⟨rx,ra,rk,rfl,X,Y,ad⟩:=W
 have ae:=Fr.app N0 X
 have KP:=KP.trans Y all0
 refine aJ [_] ?_
 exact dU 70 X137 b hret P (by exact ⟨rx,ra,rk,rfl,ae,KP,by rw[Int.mul_comm];exact ad⟩)
theorem V2 (l:Launch)(Z:State)(a0:Array Value)(hw: ∀d∈tables_1,d.before a0 Z=true)(ws:List Jvm.Cond)(cx ca:Addr)(kc:ClassId)(c0 c1:Int32)(px pa:Addr)(kp:ClassId)(d0:Int32)(h0:Heap)(n0:Nat)(Z0:n0≤h0.size)(J:Old Z n0 h0)(K:fY Z h0 cx ca kc [c0,c1])(L:fY Z h0 px pa kp [d0])(hc0: ¬c0=0)(hd0: ¬d0=0):
  bp l (⟨"java/math/BigInteger","multiply","(Ljava/math/BigInteger;ZZI)Ljava/math/BigInteger;"⟩:MethodName) (Jvm.Cond.code (⟨"java/math/BigInteger","multiply","(Ljava/math/BigInteger;ZZI)Ljava/math/BigInteger;"⟩:MethodName) jdk_2097_method_42_code 9 (some (.object "java/math/BigInteger"))::ws) ({frames:=4,cells:=3,slots:=22,locals:=110}:Room) #[(.ref cx),(.ref px),(.int (0:Int32)),(.int (0:Int32)),(.int (0:Int32))] Z h0 (lY Z (fun h x a k=>oj Z h x a k ((ah c0*4294967296+ah c1)*ah d0)∨qo Z h x a k ((ah c0*4294967296+ah c1)*ah d0)) h0 n0):=by
 refine bI (plainFor_of_name gF) (fun m=>RJ m cx px (0:Int32) (0:Int32) (0:Int32)) fun p e s m M ae c s₁ hx y N O (P:s.vm.findClass "java/math/BigInteger"=some m.cls) hnm hret X0 hZ e0=> ?_
 have D:=fj y qF
 have b:=bG hx y qF P hZ O hw
 have N0:=Fr.nil n0
 have KP:Keep h0 h0 []:=Keep.refl _ _
 obtain ⟨af,z,A,o,ag⟩:=id K
 have o:Arv Z h0 ca kc .int (2:Int32) [(.int c0),(.int c1)] (.int (0:Int32)):=o
 obtain ⟨ai,B,t,j,al⟩:=id L
 have j:Arv Z h0 pa kp .int (1:Int32) [(.int d0)] (.int (0:Int32)):=j
 refine ak 1 0 X0 b ?_
 refine aE 4 1 38 X0 b e0 B fun am u Q=> ?_
 refine bw 7 2 u b rfl ((if0 _ _).trans (feq (by decide: ¬((1:Int32)=(0:Int32)))).1) ?_
 refine ak 8 3 u b ?_
 refine aE 11 4 38 u b Q z fun ao v R=> ?_
 refine bk 18 5 v b rfl ((if0 _ _).trans (feq (by decide: ¬((1:Int32)=(0:Int32)))).2) ?_
 refine ak 19 8 v b ?_
 refine aE 22 9 40 v b R A fun w f C=> ?_
 refine bU 23 10 f b C o ?_
 refine bh 25 11 #[_,_,_,_,_,_,_,_,_] f b ?_
 refine ak 26 12 f b ?_
 refine ak 27 13 f b ?_
 suffices E:ay p e M (gb s (lY Z (fun h x a k=>oj Z h x a k ((ah c0*4294967296+ah c1)*ah d0)∨qo Z h x a k ((ah c0*4294967296+ah c1)*ah d0)) h0 n0) ({frames:=4,cells:=3,slots:=22,locals:=110}:Room).cells ({frames:=4,cells:=3,slots:=22,locals:=110}:Room).slots) w (mkF m 46 #[rv cx,rv px,iv 0,iv 0,iv 0,iv 2,.unset,.unset,.unset] []) from by
  by_cases hal:px=cx
  ·refine aG (T':=w) (mkF m 30 #[rv cx,rv px,iv 0,iv 0,iv 0,iv 2,.unset,.unset,.unset] []) (fun _ k=>Jvm.RoadKit.acmp (g:=(mkF m 27 #[rv cx,rv px,iv 0,iv 0,iv 0,iv 2,.unset,.unset,.unset] [(.ref cx),(.ref px)])) f hx rfl rfl rfl (pc0:=27) (pc':=30) (same:=true) rfl (D 14 rfl) rfl (decide_eq_true (congrArg Value.ref hal)) (by decide) (by decide) k) ?_
   refine aq 32 15 f b ?_
   refine bT 34 16 20 f b ?_
   refine bQ 46 17 f b rfl (flt (by decide: ¬((20:Int32)<(2:Int32)))).2.2.2 ?_
   exact E
  ·refine aG (T':=w) (mkF m 46 #[rv cx,rv px,iv 0,iv 0,iv 0,iv 2,.unset,.unset,.unset] []) (fun _ k=>Jvm.RoadKit.acmp (g:=(mkF m 27 #[rv cx,rv px,iv 0,iv 0,iv 0,iv 2,.unset,.unset,.unset] [(.ref cx),(.ref px)])) f hx rfl rfl rfl (pc0:=27) (pc':=46) (same:=false) rfl (D 14 rfl) rfl (decide_eq_false fun q=>hal (Value.ref.inj q)) (by decide) (by decide) k) ?_
   exact E
 refine ak 47 24 f b ?_
 refine aE 50 25 40 f b C t fun av i e142=> ?_
 refine bU 51 26 i b e142 j ?_
 refine bh 53 27 #[_,_,_,_,_,_,_,_,_] i b ?_
 refine aq 55 28 i b ?_
 refine bT 57 29 80 i b ?_
 refine bQ 67 30 i b rfl (tlt (by decide:(2:Int32)<(80:Int32))).1 ?_
 refine ak 68 34 i b ?_
 refine aE 71 35 38 i b e142 z fun aw F S=> ?_
 refine ak 72 36 F b ?_
 refine aE 75 37 38 F b S B fun T144 X144 T=> ?_
 refine bY 78 38 X144 b rfl (teq (by decide:(1:Int32)=(1:Int32))).2 ?_
 refine aB 79 39 1 X144 b ?_
 refine bL 83 40 X144 b ?_
 refine bh 85 42 #[_,_,_,_,_,_,_,_,_] X144 b ?_
 refine ak 86 43 X144 b ?_
 refine aE 89 44 40 X144 b T t fun ax n G=> ?_
 refine bU 90 45 n b G j ?_
 refine aB 91 46 1 n b ?_
 refine bY 94 47 n b rfl (teq (by decide:(1:Int32)=(1:Int32))).2 ?_
 refine ak 95 48 n b ?_
 refine aE 98 49 40 n b G A fun aA H U=> ?_
 refine ak 99 50 H b ?_
 refine aE 102 51 40 H b U t fun aC r I=> ?_
 refine aB 103 52 0 r b ?_
 refine eY 104 53 r b I j (x:=d0) ?_
 refine aq 106 54 r b ?_
 refine bZ 109 3 0 3 18 55 42 43 24 44 r b (Er l Z a0 hw [] ca kc c0 c1 d0 h0 n0 (Nat.le_trans Z0 KP.1) J o hc0 hd0) zh I fun _ T148 aD X148 V=> ?_
 obtain ⟨rx,ra,rk,rfl,W,X,Y⟩:=V
 have ad:=Fr.app N0 W
 have KP:=KP.trans X all0
 refine aJ [_] ?_
 exact dU 56 X148 b hret N (by exact ⟨rx,ra,rk,rfl,ad,KP,Y⟩)
theorem V3 (l:Launch)(Z:State)(a0:Array Value)(hw: ∀d∈tables_1,d.before a0 Z=true)(ws:List Jvm.Cond)(cx ca:Addr)(kc:ClassId)(c0 c1:Int32)(px pa:Addr)(kp:ClassId)(d0 d1:Int32)(h0:Heap)(n0:Nat)(Z0:n0≤h0.size)(f:Old Z n0 h0)(aS:fY Z h0 cx ca kc [c0,c1])(aT:fY Z h0 px pa kp [d0,d1])(hc0: ¬c0=0)(hd0: ¬d0=0):
  bp l (⟨"java/math/BigInteger","multiply","(Ljava/math/BigInteger;ZZI)Ljava/math/BigInteger;"⟩:MethodName) (Jvm.Cond.code (⟨"java/math/BigInteger","multiply","(Ljava/math/BigInteger;ZZI)Ljava/math/BigInteger;"⟩:MethodName) jdk_2097_method_42_code 9 (some (.object "java/math/BigInteger"))::ws) ({frames:=4,cells:=3,slots:=22,locals:=110}:Room) #[(.ref cx),(.ref px),(.int (0:Int32)),(.int (0:Int32)),(.int (0:Int32))] Z h0 (lY Z (fun h x a k=>qo Z h x a k ((ah c0*4294967296+ah c1)*(ah d0*4294967296+ah d1))∨yr Z h x a k ((ah c0*4294967296+ah c1)*(ah d0*4294967296+ah d1))) h0 n0):=by
 refine bI (plainFor_of_name gF) (fun m=>RK m cx px (0:Int32) (0:Int32) (0:Int32)) fun p e s m aU b8 c s₁ hx ad ae aV (L:s.vm.findClass "java/math/BigInteger"=some m.cls) hnm hret X0 hZ e0=> ?_
 have D:=fj ad qF
 have b:=bG hx ad qF L hZ aV hw
 have N0:=Fr.nil n0
 have KP:Keep h0 h0 []:=Keep.refl _ _
 obtain ⟨b9,af,M,u,b_⟩:=id aS
 have u:Arv Z h0 ca kc .int (2:Int32) [(.int c0),(.int c1)] (.int (0:Int32)):=u
 obtain ⟨b',ag,N,v,cb⟩:=id aT
 have v:Arv Z h0 pa kp .int (2:Int32) [(.int d0),(.int d1)] (.int (0:Int32)):=v
 refine ak 1 0 X0 b ?_
 refine aE 4 1 38 X0 b e0 ag fun cd O aX=> ?_
 refine bw 7 2 O b rfl ((if0 _ _).trans (feq (by decide: ¬((1:Int32)=(0:Int32)))).1) ?_
 refine ak 8 3 O b ?_
 refine aE 11 4 38 O b aX af fun ce P aZ=> ?_
 refine bk 18 5 P b rfl ((if0 _ _).trans (feq (by decide: ¬((1:Int32)=(0:Int32)))).2) ?_
 refine ak 19 8 P b ?_
 refine aE 22 9 40 P b aZ M fun Q i ai=> ?_
 refine bU 23 10 i b ai u ?_
 refine bh 25 11 #[_,_,_,_,_,_,_,_,_] i b ?_
 refine ak 26 12 i b ?_
 refine ak 27 13 i b ?_
 suffices al:ay p e aU (gb s (lY Z (fun h x a k=>qo Z h x a k ((ah c0*4294967296+ah c1)*(ah d0*4294967296+ah d1))∨yr Z h x a k ((ah c0*4294967296+ah c1)*(ah d0*4294967296+ah d1))) h0 n0) ({frames:=4,cells:=3,slots:=22,locals:=110}:Room).cells ({frames:=4,cells:=3,slots:=22,locals:=110}:Room).slots) Q (mkF m 46 #[rv cx,rv px,iv 0,iv 0,iv 0,iv 2,.unset,.unset,.unset] []) from by
  by_cases hal:px=cx
  ·refine aG (T':=Q) (mkF m 30 #[rv cx,rv px,iv 0,iv 0,iv 0,iv 2,.unset,.unset,.unset] []) (fun _ k=>Jvm.RoadKit.acmp (g:=(mkF m 27 #[rv cx,rv px,iv 0,iv 0,iv 0,iv 2,.unset,.unset,.unset] [(.ref cx),(.ref px)])) i hx rfl rfl rfl (pc0:=27) (pc':=30) (same:=true) rfl (D 14 rfl) rfl (decide_eq_true (congrArg Value.ref hal)) (by decide) (by decide) k) ?_
   refine aq 32 15 i b ?_
   refine bT 34 16 20 i b ?_
   refine bQ 46 17 i b rfl (flt (by decide: ¬((20:Int32)<(2:Int32)))).2.2.2 ?_
   exact al
  ·refine aG (T':=Q) (mkF m 46 #[rv cx,rv px,iv 0,iv 0,iv 0,iv 2,.unset,.unset,.unset] []) (fun _ k=>Jvm.RoadKit.acmp (g:=(mkF m 27 #[rv cx,rv px,iv 0,iv 0,iv 0,iv 2,.unset,.unset,.unset] [(.ref cx),(.ref px)])) i hx rfl rfl rfl (pc0:=27) (pc':=46) (same:=false) rfl (D 14 rfl) rfl (decide_eq_false fun q=>hal (Value.ref.inj q)) (by decide) (by decide) k) ?_
   exact al
 refine ak 47 24 i b ?_
 refine aE 50 25 40 i b ai N fun cg r am=> ?_
 refine bU 51 26 r b am v ?_
 refine bh 53 27 #[_,_,_,_,_,_,_,_,_] r b ?_
 refine aq 55 28 r b ?_
 refine bT 57 29 80 r b ?_
 refine bQ 67 30 r b rfl (tlt (by decide:(2:Int32)<(80:Int32))).1 ?_
 refine ak 68 34 r b ?_
 refine aE 71 35 38 r b am af fun ci ao a5=> ?_
 refine ak 72 36 ao b ?_
 refine aE 75 37 38 ao b a5 ag fun T155 X155 a6=> ?_
 refine bY 78 38 X155 b rfl (teq (by decide:(1:Int32)=(1:Int32))).2 ?_
 refine aB 79 39 1 X155 b ?_
 refine bL 83 40 X155 b ?_
 refine bh 85 42 #[_,_,_,_,_,_,_,_,_] X155 b ?_
 refine ak 86 43 X155 b ?_
 refine aE 89 44 40 X155 b a6 N fun cj w av=> ?_
 refine bU 90 45 w b av v ?_
 refine aB 91 46 1 w b ?_
 refine bQ 110 47 w b rfl (feq (by decide: ¬((2:Int32)=(1:Int32)))).2 ?_
 refine ak 111 57 w b ?_
 refine aE 114 58 40 w b av M fun ck y aw=> ?_
 refine bU 115 59 y b aw u ?_
 refine aB 116 60 1 y b ?_
 refine bQ 135 61 y b rfl (feq (by decide: ¬((2:Int32)=(1:Int32)))).2 ?_
 refine ak 136 71 y b ?_
 refine aE 139 72 40 y b aw M fun T158 X158 a7=> ?_
 refine aq 141 73 X158 b ?_
 refine ak 142 74 X158 b ?_
 refine aE 145 75 40 X158 b a7 N fun cl R a8=> ?_
 refine aq 147 76 R b ?_
 refine vu 148 77 R b ?_
 have a9:=KP
 refine bZ 151 5 0 1 4 78 246 247 24 248 R b (VN l Z a0 hw [] ca kc c0 c1 pa kp d0 d1 h0 n0 (Nat.le_trans Z0 KP.1) f u v hc0 hd0) DW a8 fun _ S cm C a_=> ?_
 obtain ⟨bb,E,z0,z1,z2,z3,rfl,a',ax,cn,co,j,hv,hz,A⟩:=a_
 have aA:=Fr.app N0 a'
 have f:=f.keep ax all0
 have KP:=KP.trans ax all0
 refine aJ [_] ?_
 refine gY 153 79 #[_,_,_,_,_,_,_,_,_] C b ?_
 refine aR 155 80 C b ?_
 by_cases hz0:z0=0
 ·have a9:=KP
  refine bZ 158 1 0 2 7 81 258 259 24 260 C b (VU l Z a0 hw [] bb E z0 z1 z2 z3 S.heap n0 (Nat.le_trans Z0 KP.1) f j hz0 (hz hz0)) DX rfl fun _ bd cp aC be=> ?_
  obtain ⟨bc,aD,rfl,bf,aF,cq,cr,t,B⟩:=be
  have bg:=Fr.app aA bf
  have f:=f.keep aF all0
  have KP:=KP.trans aF all0
  refine aJ [_] ?_
  refine gY 160 82 #[_,_,_,_,_,_,_,_,_] aC b ?_
  obtain ⟨ct,F,G,bj,H,aH,T,-,aK⟩:=newO aC hx hZ L (aj hw 71 rfl) (aj hw 72 rfl) (aj hw 24 rfl) rfl (g:=(mkF m 160 #[rv cx,rv px,iv 0,iv 0,iv 0,iv 2,iv 2,iv 1,rv bc] [])) rfl (D 83 rfl) (by decide) (by decide)
  obtain ⟨n,U⟩: ∃z,z=bd.heap.size:=⟨_,rfl⟩
  rw[←U] at aH T aK
  have aL:h0.size≤n:=Nat.le_trans KP.1 (Nat.le_of_eq U.symm)
  have bl:n0≤n:=Nat.le_trans Z0 aL
  have aM:bc≠n:=Nat.ne_of_lt (Nat.lt_of_lt_of_le t.lt (Nat.le_of_eq U.symm))
  have f:=f.ext H
  have KP:=KP.ext H
  have t:=t.ext H
  have B:=B.ext H
  have bm:Exa Z F n "java/math/BigInteger":=aH
  have bn:Fld Z F n "java/math/BigInteger" "signum" "I" (.int (0:Int32)):=T (Or.inr (aj hw 39 rfl)) (ty:= .int) (by decide)
  have bo:Fld Z F n "java/math/BigInteger" "mag" "[I" .null:=T (Or.inr (aj hw 41 rfl)) (ty:=(.array .int)) (by decide)
  refine aG (mkF m 163 #[rv cx,rv px,iv 0,iv 0,iv 0,iv 2,iv 2,iv 1,rv bc] [(.ref n)]) aK ?_
  refine jh 164 84 G b ?_
  refine aR 166 85 G b ?_
  refine aq 168 86 G b ?_
  refine iJ 171 2 1 3 13 87 73 74 24 76 G b (mq l Z a0 hw [] n bc F n0 (Nat.le_trans Z0 KP.1) f bl bm bn bo aD (3:Int32) _ aM t (by decide) (by decide)) ke bj rfl fun _ cu cv bq br=> ?_
  obtain ⟨rfl,bt,V,bu,bv,bx⟩:=br
  have bz:=Fr.app bg bt
  have KP:=KP.trans V (allS (Or.inr aL) all0)
  have t:=t.keep V (ninS aM nin0)
  have B:=B.keep V
  refine aJ [_] ?_
  exact dU 88 bq b hret ae (by exact ⟨n,bc,aD,rfl,bz,KP,Or.inl ⟨z1,z2,z3,⟨bu,bv,bx,t,B⟩,hz hz0,Hp hz0 hv⟩⟩)
 ·refine bZ 158 1 0 1 4 81 258 259 24 260 C b (VQ l Z a0 hw [] bb E z0 z1 z2 z3 S.heap n0 (Nat.le_trans Z0 KP.1) f j hz0) DX rfl fun _ T161 cw X161 bA=> ?_
  obtain ⟨rfl,bB,bC⟩:=bA
  have bE:=Fr.app aA bB
  refine aJ [_] ?_
  refine gY 160 82 #[_,_,_,_,_,_,_,_,_] X161 b ?_
  obtain ⟨cy,I,J,bF,K,aN,W,-,aO⟩:=newO X161 hx hZ L (aj hw 71 rfl) (aj hw 72 rfl) (aj hw 24 rfl) bC (g:=(mkF m 160 #[rv cx,rv px,iv 0,iv 0,iv 0,iv 2,iv 2,iv 1,rv bb] [])) rfl (D 83 rfl) (by decide) (by decide)
  obtain ⟨o,X⟩: ∃z,z=S.heap.size:=⟨_,rfl⟩
  rw[←X] at aN W aO
  have aP:h0.size≤o:=Nat.le_trans KP.1 (Nat.le_of_eq X.symm)
  have bH:n0≤o:=Nat.le_trans Z0 aP
  have aQ:bb≠o:=Nat.ne_of_lt (Nat.lt_of_lt_of_le j.lt (Nat.le_of_eq X.symm))
  have f:=f.ext K
  have KP:=KP.ext K
  have j:=j.ext K
  have A:=A.ext K
  have bK:Exa Z I o "java/math/BigInteger":=aN
  have bN:Fld Z I o "java/math/BigInteger" "signum" "I" (.int (0:Int32)):=W (Or.inr (aj hw 39 rfl)) (ty:= .int) (by decide)
  have bP:Fld Z I o "java/math/BigInteger" "mag" "[I" .null:=W (Or.inr (aj hw 41 rfl)) (ty:=(.array .int)) (by decide)
  refine aG (mkF m 163 #[rv cx,rv px,iv 0,iv 0,iv 0,iv 2,iv 2,iv 1,rv bb] [(.ref o)]) aO ?_
  refine jh 164 84 J b ?_
  refine aR 166 85 J b ?_
  refine aq 168 86 J b ?_
  refine iJ 171 2 1 2 10 87 73 74 24 76 J b (mq l Z a0 hw [] o bb I n0 (Nat.le_trans Z0 KP.1) f bH bK bN bP E (4:Int32) _ aQ j (by decide) (by decide)) ke bF rfl fun _ cz cA bS bV=> ?_
  obtain ⟨rfl,bX,Y,b0,b5,b6⟩:=bV
  have b7:=Fr.app bE bX
  have KP:=KP.trans Y (allS (Or.inr aP) all0)
  have j:=j.keep Y (ninS aQ nin0)
  have A:=A.keep Y
  refine aJ [_] ?_
  exact dU 88 bS b hret ae (by exact ⟨o,bb,E,rfl,b7,KP,Or.inr ⟨z0,z1,z2,z3,⟨b0,b5,b6,j,A⟩,hz0,hv⟩⟩)
theorem V4 (l:Launch)(Z:State)(a0:Array Value)(hw: ∀d∈tables_1,d.before a0 Z=true)(ws:List Jvm.Cond)(cx px:Addr)(PP:Heap→Addr→Addr→ClassId→Prop)(h0:Heap)(n0:Nat)(Z0:n0≤h0.size)(t:Old Z n0 h0)(b:Exa Z h0 cx "java/math/BigInteger")(hM:bp l (⟨"java/math/BigInteger","multiply","(Ljava/math/BigInteger;ZZI)Ljava/math/BigInteger;"⟩:MethodName) [Jvm.Cond.code (⟨"java/math/BigInteger","multiply","(Ljava/math/BigInteger;ZZI)Ljava/math/BigInteger;"⟩:MethodName) jdk_2097_method_42_code 9 (some (.object "java/math/BigInteger"))] ({frames:=4,cells:=3,slots:=22,locals:=110}:Room) #[(.ref cx),(.ref px),(.int (0:Int32)),(.int (0:Int32)),(.int (0:Int32))] Z h0 (lY Z PP h0 n0)):
  bp l (⟨"java/math/BigInteger","multiply","(Ljava/math/BigInteger;)Ljava/math/BigInteger;"⟩:MethodName) (Jvm.Cond.code (⟨"java/math/BigInteger","multiply","(Ljava/math/BigInteger;)Ljava/math/BigInteger;"⟩:MethodName) jdk_2097_method_40_code 2 (some (.object "java/math/BigInteger"))::ws) ({frames:=5,cells:=3,slots:=22,locals:=135}:Room) #[(.ref cx),(.ref px)] Z h0 (lY Z PP h0 n0):=by
 refine bI (plainFor_of_name gF) (fun m=>RO m cx px) fun p e s m u v c s₁ hx f g h (i:s.vm.findClass "java/math/BigInteger"=some m.cls) hnm hret X0 hZ e0=> ?_
 have a:=bG hx f Nr i hZ h hw
 have N0:=Fr.nil n0
 have KP:Keep h0 h0 []:=Keep.refl _ _
 refine ak 1 0 X0 a ?_
 refine ak 2 1 X0 a ?_
 refine aB 3 2 0 X0 a ?_
 refine aB 4 3 0 X0 a ?_
 refine aB 5 4 0 X0 a ?_
 refine ly 8 4 0 3 22 5 33 34 36 35 24 37 X0 a hM Qb e0 b fun _ w x j k=> ?_
 obtain ⟨rx,ra,rk,rfl,n,o,q⟩:=k
 have r:=Fr.app N0 n
 have KP:=KP.trans o all0
 refine aJ [_] ?_
 exact dU 6 j a hret g (by exact ⟨rx,ra,rk,rfl,r,KP,q⟩)
def uw (Z:State)(y:Int32)(h0:Heap)(n0:Nat)(v:Option Value)(h:Heap)(L:List Loc):Prop:= ∃r:Int32,v=some (.int r)∧Fr n0 L∧h=h0∧nu (ah y) r
theorem xO (l:Launch)(Z:State)(a0:Array Value)(hw: ∀d∈tables_1,d.before a0 Z=true)(ws:List Jvm.Cond)(y:Int32)(h0:Heap)(n0:Nat)(Z0:n0≤h0.size)(R:Old Z n0 h0):
  bp l (⟨"java/lang/Integer","numberOfLeadingZeros","(I)I"⟩:MethodName) (Jvm.Cond.code (⟨"java/lang/Integer","numberOfLeadingZeros","(I)I"⟩:MethodName) jdk_33_method_47_code 2 (some .int)::ws) ({frames:=0,cells:=0,slots:=0,locals:=0}:Room) #[(.int y)] Z h0 (uw Z y h0 n0):=by
 refine bI (plainFor_of_name zm) (fun m=>RQ m y) fun p e s m b S c s₁ hx o g r (u:s.vm.findClass "java/lang/Integer"=some m.cls) hnm hret X0 hZ e0=> ?_
 have a:=bG hx o Nt u hZ r hw
 have N0:=Fr.nil n0
 refine au 1 0 X0 a ?_
 by_cases hp:(0:Int32)<y
 ·refine bk 15 1 X0 a rfl ((if0 _ _).trans (tlt hp).2.2.1) ?_
  have hY:=(Int32.lt_iff_toInt_lt.mp hp:(0:Int32).toInt<y.toInt)
  have v:=HB hp
  refine bT 17 8 31 X0 a ?_
  refine eO 18 9 #[_,_] X0 a ?_
  refine au 19 10 X0 a ?_
  refine rj 22 218 11 X0 a ?_
  suffices h: ∀i1:Int32,(y<(65536:Int32)→i1=y)→(¬(y<(65536:Int32))→i1=((y.toUInt32>>>((16:Int32)&&&31).toUInt32).toInt32))→ ∀n1:Int32,(y<(65536:Int32)→n1=(31:Int32))→(¬(y<(65536:Int32))→n1=(15:Int32))→ay p e b (gb s (uw Z y h0 n0) ({frames:=0,cells:=0,slots:=0,locals:=0}:Room).cells ({frames:=0,cells:=0,slots:=0,locals:=0}:Room).slots) s₁ (mkF m 33 #[iv i1,iv n1] []) from by
   by_cases hj0:y<(65536:Int32)
   ·refine bQ 33 12 X0 a rfl (tlt hj0).1 ?_
    exact h y (fun _=>rfl) (fun q=>absurd hj0 q) (31:Int32) (fun _=>rfl) (fun q=>absurd hj0 q)
   ·refine bY 25 12 X0 a rfl (flt hj0).1 ?_
    refine dG 28 13 #[_,iv 15] X0 a ?_
    refine au 29 14 X0 a ?_
    refine bT 31 15 16 X0 a ?_
    refine jw 32 16 X0 a ?_
    refine eO 33 17 #[_,_] X0 a ?_
    exact h ((y.toUInt32>>>((16:Int32)&&&31).toUInt32).toInt32) (fun q=>absurd q hj0) (fun _=>rfl) (15:Int32) (fun q=>absurd q hj0) (fun _=>rfl)
  intro i1 w x n1 z A
  have B:qp y.toInt i1 n1 65536:=uZ (t:=65536) (q:=16) (kk:= -16) (k:=16) v (by decide) (by decide) rfl rfl rfl rfl (by decide) (rng32 y).2 w x z A
  refine au 34 18 X0 a ?_
  refine Av 37 19 256 X0 a ?_
  suffices i: ∀i2:Int32,(i1<(256:Int32)→i2=i1)→(¬(i1<(256:Int32))→i2=((i1.toUInt32>>>((8:Int32)&&&31).toUInt32).toInt32))→ ∀n2:Int32,(i1<(256:Int32)→n2=n1)→(¬(i1<(256:Int32))→n2=(n1+(-8:Int32)))→ay p e b (gb s (uw Z y h0 n0) ({frames:=0,cells:=0,slots:=0,locals:=0}:Room).cells ({frames:=0,cells:=0,slots:=0,locals:=0}:Room).slots) s₁ (mkF m 48 #[iv i2,iv n2] []) from by
   by_cases hj1:i1<(256:Int32)
   ·refine bQ 48 20 X0 a rfl (tlt hj1).1 ?_
    exact i i1 (fun _=>rfl) (fun q=>absurd hj1 q) n1 (fun _=>rfl) (fun q=>absurd hj1 q)
   ·refine bY 40 20 X0 a rfl (flt hj1).1 ?_
    refine dG 43 21 #[_,iv (n1+(-8:Int32))] X0 a ?_
    refine au 44 22 X0 a ?_
    refine bT 46 23 8 X0 a ?_
    refine jw 47 24 X0 a ?_
    refine eO 48 25 #[_,_] X0 a ?_
    exact i ((i1.toUInt32>>>((8:Int32)&&&31).toUInt32).toInt32) (fun q=>absurd q hj1) (fun _=>rfl) (n1+(-8:Int32)) (fun q=>absurd q hj1) (fun _=>rfl)
  intro i2 C D n2 E F
  have G:qp y.toInt i2 n2 256:=uZ (t:=256) (q:=8) (kk:= -8) (k:=8) B (by decide) (by decide) rfl rfl rfl rfl (by decide) (rng32 y).2 C D E F
  refine au 49 26 X0 a ?_
  refine bT 51 27 16 X0 a ?_
  suffices j: ∀i3:Int32,(i2<(16:Int32)→i3=i2)→(¬(i2<(16:Int32))→i3=((i2.toUInt32>>>((4:Int32)&&&31).toUInt32).toInt32))→ ∀n3:Int32,(i2<(16:Int32)→n3=n2)→(¬(i2<(16:Int32))→n3=(n2+(-4:Int32)))→ay p e b (gb s (uw Z y h0 n0) ({frames:=0,cells:=0,slots:=0,locals:=0}:Room).cells ({frames:=0,cells:=0,slots:=0,locals:=0}:Room).slots) s₁ (mkF m 61 #[iv i3,iv n3] []) from by
   by_cases hj2:i2<(16:Int32)
   ·refine bQ 61 28 X0 a rfl (tlt hj2).1 ?_
    exact j i2 (fun _=>rfl) (fun q=>absurd hj2 q) n2 (fun _=>rfl) (fun q=>absurd hj2 q)
   ·refine bY 54 28 X0 a rfl (flt hj2).1 ?_
    refine dG 57 29 #[_,iv (n2+(-4:Int32))] X0 a ?_
    refine au 58 30 X0 a ?_
    refine aB 59 31 4 X0 a ?_
    refine jw 60 32 X0 a ?_
    refine eO 61 33 #[_,_] X0 a ?_
    exact j ((i2.toUInt32>>>((4:Int32)&&&31).toUInt32).toInt32) (fun q=>absurd q hj2) (fun _=>rfl) (n2+(-4:Int32)) (fun q=>absurd q hj2) (fun _=>rfl)
  intro i3 H I n3 J K
  have L:qp y.toInt i3 n3 16:=uZ (t:=16) (q:=4) (kk:= -4) (k:=4) G (by decide) (by decide) rfl rfl rfl rfl (by decide) (rng32 y).2 H I J K
  refine au 62 34 X0 a ?_
  refine aB 63 35 4 X0 a ?_
  suffices n: ∀i4:Int32,(i3<(4:Int32)→i4=i3)→(¬(i3<(4:Int32))→i4=((i3.toUInt32>>>((2:Int32)&&&31).toUInt32).toInt32))→ ∀n4:Int32,(i3<(4:Int32)→n4=n3)→(¬(i3<(4:Int32))→n4=(n3+(-2:Int32)))→ay p e b (gb s (uw Z y h0 n0) ({frames:=0,cells:=0,slots:=0,locals:=0}:Room).cells ({frames:=0,cells:=0,slots:=0,locals:=0}:Room).slots) s₁ (mkF m 73 #[iv i4,iv n4] []) from by
   by_cases hj3:i3<(4:Int32)
   ·refine bQ 73 36 X0 a rfl (tlt hj3).1 ?_
    exact n i3 (fun _=>rfl) (fun q=>absurd hj3 q) n3 (fun _=>rfl) (fun q=>absurd hj3 q)
   ·refine bY 66 36 X0 a rfl (flt hj3).1 ?_
    refine dG 69 37 #[_,iv (n3+(-2:Int32))] X0 a ?_
    refine au 70 38 X0 a ?_
    refine aB 71 39 2 X0 a ?_
    refine jw 72 40 X0 a ?_
    refine eO 73 41 #[_,_] X0 a ?_
    exact n ((i3.toUInt32>>>((2:Int32)&&&31).toUInt32).toInt32) (fun q=>absurd q hj3) (fun _=>rfl) (n3+(-2:Int32)) (fun q=>absurd q hj3) (fun _=>rfl)
  intro i4 M N n4 O P
  have Q:qp y.toInt i4 n4 4:=uZ (t:=4) (q:=2) (kk:= -2) (k:=2) L (by decide) (by decide) rfl rfl rfl rfl (by decide) (rng32 y).2 M N O P
  refine au 74 42 X0 a ?_
  refine au 75 43 X0 a ?_
  refine aB 76 44 1 X0 a ?_
  refine jw 77 45 X0 a ?_
  refine dQ 78 46 X0 a ?_
  exact gg 47 X0 a hret g (by rw[e0];exact ⟨_,rfl,N0,rfl,Hy hY Q⟩)
 ·refine bw 4 1 X0 a rfl ((if0 _ _).trans (flt hp).2.2.1) ?_
  refine au 5 2 X0 a ?_
  by_cases f:y=(0:Int32)
  ·refine bw 8 3 X0 a rfl ((if0 _ _).trans (teq f).2) ?_
   refine bT 10 4 32 X0 a ?_
   refine bL 14 5 X0 a ?_
   exact gg 7 X0 a hret g (by rw[e0];exact ⟨_,rfl,N0,rfl,Hz f⟩)
  ·refine bk 13 3 X0 a rfl ((if0 _ _).trans (feq f).2) ?_
   refine aB 14 6 0 X0 a ?_
   exact gg 7 X0 a hret g (by rw[e0];exact ⟨_,rfl,N0,rfl,HA hp f⟩)
def V5 (Z:State)(mb:Addr)(aa bb:Int64)(h0:Heap)(n0:Nat)(v:Option Value)(h:Heap)(L:List Loc):Prop:=Fr n0 L∧h=h0∧((v=some (.int 1)∧bD bb<bD aa)∨(v=some (.int 0)∧bD aa≤bD bb))
theorem xQ (l:Launch)(Z:State)(a0:Array Value)(hw: ∀d∈tables_1,d.before a0 Z=true)(ws:List Jvm.Cond)(mb:Addr)(aa bb:Int64)(h0:Heap)(n0:Nat)(Z0:n0≤h0.size)(i:Old Z n0 h0):
  bp l (⟨"java/math/MutableBigInteger","unsignedLongCompare","(JJ)Z"⟩:MethodName) (Jvm.Cond.code (⟨"java/math/MutableBigInteger","unsignedLongCompare","(JJ)Z"⟩:MethodName) jdk_2101_method_69_code 5 (some .boolean)::ws) ({frames:=0,cells:=0,slots:=0,locals:=0}:Room) #[(.ref mb),(.long aa),(.long bb)] Z h0 (V5 Z mb aa bb h0 n0):=by
 refine bI (plainFor_of_name jy) (fun m=>RU m mb aa bb) fun p e s m j k c s₁ hx b f g (h:s.vm.findClass "java/math/MutableBigInteger"=some m.cls) hnm hret X0 hZ e0=> ?_
 have D:=fj b Dd
 have a:=bG hx b Dd h hZ g hw
 have N0:=Fr.nil n0
 refine eW 1 0 X0 a ?_
 refine bO 4 275 1 X0 a ?_
 refine iu 5 2 X0 a ?_
 refine eW 6 3 X0 a ?_
 refine bO 9 275 4 X0 a ?_
 refine iu 10 5 X0 a ?_
 refine iq 11 6 X0 a ?_
 by_cases hc:(0:Int32)<(lcmpW (aa+(-9223372036854775808:Int64)) (bb+(-9223372036854775808:Int64)))
 ·refine bw 14 7 X0 a rfl ((if0 _ _).trans (tlt hc).2.2.2) ?_
  refine aB 15 8 1 X0 a ?_
  refine bL 19 9 X0 a ?_
  exact uE X0 hx (t:= .boolean) hret (by simp) f (D 11 rfl) (by decide) (by decide) (by rw[e0];exact ⟨N0,rfl,Or.inl ⟨rfl,HC hc⟩⟩)
 ·refine bk 18 7 X0 a rfl ((if0 _ _).trans (flt hc).2.2.2) ?_
  refine aB 19 10 0 X0 a ?_
  exact uE X0 hx (t:= .boolean) hret (by simp) f (D 11 rfl) (by decide) (by decide) (by rw[e0];exact ⟨N0,rfl,Or.inr ⟨rfl,HD hc⟩⟩)
def V6 (Z:State)(nn:Int64)(dd:Int32)(h0:Heap)(n0:Nat)(v:Option Value)(h:Heap)(L:List Loc):Prop:= ∃r:Int64,v=some (.long r)∧Fr n0 L∧h=h0∧ah r.toInt32=bD nn/ah dd∧bD r/4294967296=bD nn%ah dd
theorem zp (l:Launch)(Z:State)(a0:Array Value)(hw: ∀d∈tables_1,d.before a0 Z=true)(ws:List Jvm.Cond)(nn:Int64)(dd:Int32)(h0:Heap)(n0:Nat)(Z0:n0≤h0.size)(w:Old Z n0 h0)(hd:2147483648≤ah dd)(hN:bD nn<ah dd*4294967296):
  bp l (⟨"java/math/MutableBigInteger","divWord","(JI)J"⟩:MethodName) (Jvm.Cond.code (⟨"java/math/MutableBigInteger","divWord","(JI)J"⟩:MethodName) jdk_2101_method_70_code 9 (some .long)::ws) ({frames:=0,cells:=0,slots:=0,locals:=0}:Room) #[(.long nn),(.int dd)] Z h0 (V6 Z nn dd h0 n0):=by
 refine bI (plainFor_of_name jy) (fun m=>RV m nn dd) fun p e s m x y c s₁ hx f b g (h:s.vm.findClass "java/math/MutableBigInteger"=some m.cls) hnm hret X0 hZ e0=> ?_
 have D:=fj f Df
 have a:=bG hx f Df h hZ g hw
 have N0:=Fr.nil n0
 refine au 1 0 X0 a ?_
 refine bW 2 1 X0 a ?_
 refine bO 5 214 2 X0 a ?_
 refine bR 6 3 X0 a ?_
 generalize i:((dd.toInt64)&&&(4294967295:Int64))=dl
 have eD:dl.toInt=ah dd:=i▸ij dd
 refine pY 7 4 #[_,_,_,_,_,_,_,_,_] X0 a ?_
 refine eW 8 5 X0 a ?_
 refine jl 9 6 1 X0 a ?_
 refine iq 10 7 X0 a ?_
 refine bk 34 8 X0 a rfl ((if0 _ _).trans (feq (HE eD hd)).2) ?_
 refine eW 35 23 X0 a ?_
 refine aB 36 24 1 X0 a ?_
 refine jD 37 25 X0 a ?_
 refine eW 38 26 X0 a ?_
 refine aB 39 27 1 X0 a ?_
 refine jD 40 28 X0 a ?_
 refine aG (T':=s₁) (mkF m 41 #[.val (.long nn),.second,iv dd,.val (.long dl),.second,.unset,.unset,.unset,.unset] [(.long (((nn.toUInt64>>>((1:Int32)&&&0x3f).toInt64.toUInt64).toInt64)/((dl.toUInt64>>>((1:Int32)&&&0x3f).toInt64.toUInt64).toInt64)))]) (fun _ k=>XS.ldiv X0.here hx rfl (D 29 rfl) rfl (HF eD hd) k) ?_
 generalize j:(((nn.toUInt64>>>((1:Int32)&&&0x3f).toInt64.toUInt64).toInt64)/((dl.toUInt64>>>((1:Int32)&&&0x3f).toInt64.toUInt64).toInt64))=q0
 refine dN 43 30 #[_,_,_,_,_,_,_,_,_] X0 a ?_
 refine eW 44 31 X0 a ?_
 refine aI 46 32 X0 a ?_
 refine eW 47 33 X0 a ?_
 refine jA 48 34 X0 a ?_
 refine mK 49 35 X0 a ?_
 generalize n:(nn-(q0*dl))=r0
 have I0:=HG eD hd hN j n
 refine dN 51 36 #[_,_,_,_,_,_,_,_,_] X0 a ?_
 refine aI 53 37 X0 a ?_
 refine jl 54 38 0 X0 a ?_
 refine iq 55 39 X0 a ?_
 by_cases hr0:(lcmpW r0 (0:Int64))<(0:Int32)
 ·refine bw 58 40 X0 a rfl ((if0 _ _).trans (tlt hr0).2.1) ?_
  refine aI 60 41 X0 a ?_
  refine eW 61 42 X0 a ?_
  refine iu 62 43 X0 a ?_
  generalize o:(r0+dl)=r1
  refine dN 64 44 #[_,_,_,_,_,_,_,_,_] X0 a ?_
  refine aI 66 45 X0 a ?_
  refine jl 67 46 1 X0 a ?_
  refine mK 68 47 X0 a ?_
  generalize q:(q0-(1:Int64))=q1
  have I1:=yD eD hd I0 hr0 o q ⟨by decide,by decide⟩
  refine dN 70 48 #[_,_,_,_,_,_,_,_,_] X0 a ?_
  refine bL 51 49 X0 a ?_
  refine aI 53 37 X0 a ?_
  refine jl 54 38 0 X0 a ?_
  refine iq 55 39 X0 a ?_
  by_cases hr1:(lcmpW r1 (0:Int64))<(0:Int32)
  ·refine bw 58 40 X0 a rfl ((if0 _ _).trans (tlt hr1).2.1) ?_
   refine aI 60 41 X0 a ?_
   refine eW 61 42 X0 a ?_
   refine iu 62 43 X0 a ?_
   generalize r:(r1+dl)=r2
   refine dN 64 44 #[_,_,_,_,_,_,_,_,_] X0 a ?_
   refine aI 66 45 X0 a ?_
   refine jl 67 46 1 X0 a ?_
   refine mK 68 47 X0 a ?_
   generalize t:(q1-(1:Int64))=q2
   have I2:=yD eD hd I1 hr1 r t ⟨by decide,by decide⟩
   refine dN 70 48 #[_,_,_,_,_,_,_,_,_] X0 a ?_
   refine bL 51 49 X0 a ?_
   refine aI 53 37 X0 a ?_
   refine jl 54 38 0 X0 a ?_
   refine iq 55 39 X0 a ?_
   by_cases hr2:(lcmpW r2 (0:Int64))<(0:Int32)
   ·refine bw 58 40 X0 a rfl ((if0 _ _).trans (tlt hr2).2.1) ?_
    refine aI 60 41 X0 a ?_
    refine eW 61 42 X0 a ?_
    refine iu 62 43 X0 a ?_
    generalize u:(r2+dl)=r3
    refine dN 64 44 #[_,_,_,_,_,_,_,_,_] X0 a ?_
    refine aI 66 45 X0 a ?_
    refine jl 67 46 1 X0 a ?_
    refine mK 68 47 X0 a ?_
    generalize v:(q2-(1:Int64))=q3
    have I3:=yD eD hd I2 hr2 u v ⟨by decide,by decide⟩
    refine dN 70 48 #[_,_,_,_,_,_,_,_,_] X0 a ?_
    refine bL 51 49 X0 a ?_
    refine aI 53 37 X0 a ?_
    refine jl 54 38 0 X0 a ?_
    refine iq 55 39 X0 a ?_
    refine bk 73 40 X0 a rfl ((if0 _ _).trans (flt (Aq eD I3)).2.1) ?_
    refine aI 75 50 X0 a ?_
    refine eW 76 51 X0 a ?_
    refine iq 77 52 X0 a ?_
    refine bk 95 53 X0 a rfl ((if0 _ _).trans (tlt (vg eD I3)).1) ?_
    refine aI 97 63 X0 a ?_
    refine bT 99 64 32 X0 a ?_
    refine kj 100 65 X0 a ?_
    refine aI 102 66 X0 a ?_
    refine bO 105 214 67 X0 a ?_
    refine bR 106 68 X0 a ?_
    refine ot 107 69 X0 a ?_
    exact ou 70 X0 a hret b (by rw[e0];exact ⟨_,rfl,N0,rfl,vi eD hd hN I3 (Aq eD I3)⟩)
   ·refine bk 73 40 X0 a rfl ((if0 _ _).trans (flt hr2).2.1) ?_
    refine aI 75 50 X0 a ?_
    refine eW 76 51 X0 a ?_
    refine iq 77 52 X0 a ?_
    refine bk 95 53 X0 a rfl ((if0 _ _).trans (tlt (vg eD I2)).1) ?_
    refine aI 97 63 X0 a ?_
    refine bT 99 64 32 X0 a ?_
    refine kj 100 65 X0 a ?_
    refine aI 102 66 X0 a ?_
    refine bO 105 214 67 X0 a ?_
    refine bR 106 68 X0 a ?_
    refine ot 107 69 X0 a ?_
    exact ou 70 X0 a hret b (by rw[e0];exact ⟨_,rfl,N0,rfl,vi eD hd hN I2 hr2⟩)
  ·refine bk 73 40 X0 a rfl ((if0 _ _).trans (flt hr1).2.1) ?_
   refine aI 75 50 X0 a ?_
   refine eW 76 51 X0 a ?_
   refine iq 77 52 X0 a ?_
   refine bk 95 53 X0 a rfl ((if0 _ _).trans (tlt (vg eD I1)).1) ?_
   refine aI 97 63 X0 a ?_
   refine bT 99 64 32 X0 a ?_
   refine kj 100 65 X0 a ?_
   refine aI 102 66 X0 a ?_
   refine bO 105 214 67 X0 a ?_
   refine bR 106 68 X0 a ?_
   refine ot 107 69 X0 a ?_
   exact ou 70 X0 a hret b (by rw[e0];exact ⟨_,rfl,N0,rfl,vi eD hd hN I1 hr1⟩)
 ·refine bk 73 40 X0 a rfl ((if0 _ _).trans (flt hr0).2.1) ?_
  refine aI 75 50 X0 a ?_
  refine eW 76 51 X0 a ?_
  refine iq 77 52 X0 a ?_
  refine bk 95 53 X0 a rfl ((if0 _ _).trans (tlt (vg eD I0)).1) ?_
  refine aI 97 63 X0 a ?_
  refine bT 99 64 32 X0 a ?_
  refine kj 100 65 X0 a ?_
  refine aI 102 66 X0 a ?_
  refine bO 105 214 67 X0 a ?_
  refine bR 106 68 X0 a ?_
  refine ot 107 69 X0 a ?_
  exact ou 70 X0 a hret b (by rw[e0];exact ⟨_,rfl,N0,rfl,vi eD hd hN I0 hr0⟩)
def V7 (Z:State)(mb:Addr)(h0:Heap)(n0:Nat)(v:Option Value)(h:Heap)(L:List Loc):Prop:=v=none∧Fr n0 L∧Keep h0 h [mb]∧ ∃(a:Addr) (k:ClassId),n0≤a∧h0.size≤a∧Exa Z h mb "java/math/MutableBigInteger"∧Fld Z h mb "java/math/MutableBigInteger" "offset" "I" (.int (0:Int32))∧Fld Z h mb "java/math/MutableBigInteger" "value" "[I" (.ref a)∧Fld Z h mb "java/math/MutableBigInteger" "intLen" "I" (.int (0:Int32))∧Arv Z h a k .int (1:Int32) [(.int (0:Int32))] (.int (0:Int32))∧Exa Z h a "[I"
theorem xR (l:Launch)(Z:State)(a0:Array Value)(hw: ∀d∈tables_1,d.before a0 Z=true)(ws:List Jvm.Cond)(mb:Addr)(h0:Heap)(n0:Nat)(Z0:n0≤h0.size)(OL:Old Z n0 h0)(x:n0≤mb)(a:Exa Z h0 mb "java/math/MutableBigInteger")(f:Fld Z h0 mb "java/math/MutableBigInteger" "offset" "I" (.int (0:Int32)))(h:Fld Z h0 mb "java/math/MutableBigInteger" "value" "[I" .null)(j:Fld Z h0 mb "java/math/MutableBigInteger" "intLen" "I" (.int (0:Int32))):
  bp l (⟨"java/math/MutableBigInteger","<init>","()V"⟩:MethodName) (Jvm.Cond.code (⟨"java/math/MutableBigInteger","<init>","()V"⟩:MethodName) jdk_2101_method_1_code 1 none::ws) ({frames:=1,cells:=1,slots:=1,locals:=12}:Room) #[(.ref mb)] Z h0 (V7 Z mb h0 n0):=by
 refine bI (plainFor_of_name jy) (fun m=>RX m mb) fun p e s m aw ax c s₁ hx B O C (E:s.vm.findClass "java/math/MutableBigInteger"=some m.cls) hnm hret X0 hZ e0=> ?_
 have D:=fj B Dh
 have b:=bG hx B Dh E hZ C hw
 have N0:=Fr.nil n0
 have KP:Keep h0 h0 [mb]:=Keep.refl _ _
 refine ak 1 0 X0 b ?_
 obtain ⟨aA,y,P,Q⟩:=initO X0 hx hZ E (aj hw 108 rfl) (aj hw 84 rfl) (aj hw 85 rfl) e0 (g:=(mkF m 1 #[rv mb] [(.ref mb)])) rfl (by rw[C];rfl) rfl (D 1 rfl) (by decide) (W:=0) (by show 2*0+_≤_;exact Nat.le_of_eq rfl) (by decide)
 refine aG (mkF m 4 #[rv mb] []) Q ?_
 refine ak 5 2 y b ?_
 refine aB 6 3 0 y b ?_
 refine fh 9 4 109 102 y b P f a (Or.inl (aj hw 110 rfl)) (ty:= .int) fun aC F w R q=> ?_
 have S:=Fr.snoc w N0 x
 have T:Fld Z F mb "java/math/MutableBigInteger" "offset" "I" (.int (0:Int32)):=f.same q
 have KP:=KP.wr q (Or.inl (List.mem_of_getElem? (i:=0) rfl))
 have a:=a.wr q
 have h:=h.other q (Or.inr (slot_ne (Or.inl (aj hw 112 rfl)) (Or.inl (aj hw 110 rfl)) (by decide) (t:=(.array .int)) (t':= .int) (by decide) (by decide)))
 have j:=j.other q (Or.inr (slot_ne (Or.inl (aj hw 114 rfl)) (Or.inl (aj hw 110 rfl)) (by decide) (t:= .int) (t':= .int) (by decide) (by decide)))
 have f:=T
 refine ak 10 5 w b ?_
 refine aB 11 6 1 w b ?_
 obtain ⟨aD,G,H,U,V,r,I,J,K⟩:=newPE w hx hZ (aj hw 52 rfl) R (g:=(mkF m 11 #[rv mb] [(.int (1:Int32)),(.ref mb)])) rfl (D 7 rfl) rfl (by decide) (cap:=1) (by decide) (by decide) (by decide) (by decide) (ad:="[I") (by decide)
 obtain ⟨k,A⟩: ∃z,z=F.size:=⟨_,rfl⟩
 rw[←A] at I J K
 have L:h0.size≤k:=Nat.le_trans KP.1 (Nat.le_of_eq A.symm)
 have X:n0≤k:=Nat.le_trans Z0 L
 have M:mb≠k:=Nat.ne_of_lt (Nat.lt_of_lt_of_le a.lt (Nat.le_of_eq A.symm))
 have KP:=KP.ext r
 have a:=a.ext r
 have f:=f.ext r
 have h:=h.ext r
 have j:=j.ext r
 have u:Exa Z G k "[I":=J
 have v:Arv Z G k H .int (1:Int32) [(.int (0:Int32))] (.int (0:Int32)):=(Arv.new I (by decide)).pad (pad_rep [] (.int (0:Int32)) 1)
 refine aG (mkF m 13 #[rv mb] [(.ref k),(.ref mb)]) K ?_
 refine fh 16 8 111 102 U b V h a (Or.inl (aj hw 112 rfl)) (ty:=(.array .int)) fun T175 Y X175 ae n=> ?_
 have af:=Fr.snoc X175 S x
 have ag:Fld Z Y mb "java/math/MutableBigInteger" "value" "[I" (.ref k):=h.same n
 have KP:=KP.wr n (Or.inl (List.mem_of_getElem? (i:=0) rfl))
 have a:=a.wr n
 have f:=f.other n (Or.inr (slot_ne (Or.inl (aj hw 110 rfl)) (Or.inl (aj hw 112 rfl)) (by decide) (t:= .int) (t':=(.array .int)) (by decide) (by decide)))
 have j:=j.other n (Or.inr (slot_ne (Or.inl (aj hw 114 rfl)) (Or.inl (aj hw 112 rfl)) (by decide) (t:= .int) (t':=(.array .int)) (by decide) (by decide)))
 have u:=u.wr n
 have v:=v.other n (Ne.symm M)
 have h:=ag
 refine ak 17 9 X175 b ?_
 refine aB 18 10 0 X175 b ?_
 refine fh 21 11 113 102 X175 b ae j a (Or.inl (aj hw 114 rfl)) (ty:= .int) fun aF ai N al o=> ?_
 have am:=Fr.snoc N af x
 have ao:Fld Z ai mb "java/math/MutableBigInteger" "intLen" "I" (.int (0:Int32)):=j.same o
 have KP:=KP.wr o (Or.inl (List.mem_of_getElem? (i:=0) rfl))
 have a:=a.wr o
 have f:=f.other o (Or.inr (slot_ne (Or.inl (aj hw 110 rfl)) (Or.inl (aj hw 114 rfl)) (by decide) (t:= .int) (t':= .int) (by decide) (by decide)))
 have h:=h.other o (Or.inr (slot_ne (Or.inl (aj hw 112 rfl)) (Or.inl (aj hw 114 rfl)) (by decide) (t:=(.array .int)) (t':= .int) (by decide) (by decide)))
 have u:=u.wr o
 have v:=v.other o (Ne.symm M)
 have j:=ao
 exact jE 12 N b hret O (by rw[al];exact ⟨rfl,am,KP,k,H,X,L,a,f,h,j,v,u⟩)
def V8 (Z:State)(mb a:Addr)(zz:Int32)(h0:Heap)(n0:Nat)(v:Option Value)(h:Heap)(L:List Loc):Prop:=v=none∧Fr n0 L∧Keep h0 h [mb]∧Exa Z h mb "java/math/MutableBigInteger"∧Fld Z h mb "java/math/MutableBigInteger" "offset" "I" (.int (0:Int32))∧Fld Z h mb "java/math/MutableBigInteger" "value" "[I" (.ref a)∧Fld Z h mb "java/math/MutableBigInteger" "intLen" "I" (.int zz)
theorem xT (l:Launch)(Z:State)(a0:Array Value)(hw: ∀d∈tables_1,d.before a0 Z=true)(ws:List Jvm.Cond)(mb a:Addr)(zz:Int32)(h0:Heap)(n0:Nat)(Z0:n0≤h0.size)(S:Old Z n0 h0)(w:n0≤mb)(f:Exa Z h0 mb "java/math/MutableBigInteger")(h:Fld Z h0 mb "java/math/MutableBigInteger" "offset" "I" (.int (0:Int32)))(j:Fld Z h0 mb "java/math/MutableBigInteger" "value" "[I" .null)(k:Fld Z h0 mb "java/math/MutableBigInteger" "intLen" "I" (.int (0:Int32)))(ka:ClassId)(vs:List Value)(y:a≠mb)(q:Arv Z h0 a ka .int zz vs (.int (0:Int32))):
  bp l (⟨"java/math/MutableBigInteger","<init>","([I)V"⟩:MethodName) (Jvm.Cond.code (⟨"java/math/MutableBigInteger","<init>","([I)V"⟩:MethodName) jdk_2101_method_3_code 2 none::ws) ({frames:=1,cells:=0,slots:=0,locals:=12}:Room) #[(.ref mb),(.ref a)] Z h0 (V8 Z mb a zz h0 n0):=by
 refine bI (plainFor_of_name jy) (fun m=>RZ m mb a) fun p e s m T U c s₁ hx z E A (B:s.vm.findClass "java/math/MutableBigInteger"=some m.cls) hnm hret X0 hZ e0=> ?_
 have D:=fj z Dj
 have b:=bG hx z Dj B hZ A hw
 have N0:=Fr.nil n0
 have KP:Keep h0 h0 [mb]:=Keep.refl _ _
 refine ak 1 0 X0 b ?_
 obtain ⟨V,x,F,G⟩:=initO X0 hx hZ B (aj hw 108 rfl) (aj hw 84 rfl) (aj hw 85 rfl) e0 (g:=(mkF m 1 #[rv mb,rv a] [(.ref mb)])) rfl (by rw[A];rfl) rfl (D 1 rfl) (by decide) (W:=0) (by show 2*0+_≤_;exact Nat.le_of_eq rfl) (by decide)
 refine aG (mkF m 4 #[rv mb,rv a] []) G ?_
 refine ak 5 2 x b ?_
 refine aB 6 3 0 x b ?_
 refine fh 9 4 109 102 x b F h f (Or.inl (aj hw 110 rfl)) (ty:= .int) fun X H v I n=> ?_
 have J:=Fr.snoc v N0 w
 have K:Fld Z H mb "java/math/MutableBigInteger" "offset" "I" (.int (0:Int32)):=h.same n
 have KP:=KP.wr n (Or.inl (List.mem_of_getElem? (i:=0) rfl))
 have f:=f.wr n
 have j:=j.other n (Or.inr (slot_ne (Or.inl (aj hw 112 rfl)) (Or.inl (aj hw 110 rfl)) (by decide) (t:=(.array .int)) (t':= .int) (by decide) (by decide)))
 have k:=k.other n (Or.inr (slot_ne (Or.inl (aj hw 114 rfl)) (Or.inl (aj hw 110 rfl)) (by decide) (t:= .int) (t':= .int) (by decide) (by decide)))
 have q:=q.other n y
 have h:=K
 refine ak 10 5 v b ?_
 refine ak 11 6 v b ?_
 refine fh 14 7 111 102 v b I j f (Or.inl (aj hw 112 rfl)) (ty:=(.array .int)) fun Y L r C o=> ?_
 have M:=Fr.snoc r J w
 have N:Fld Z L mb "java/math/MutableBigInteger" "value" "[I" (.ref a):=j.same o
 have KP:=KP.wr o (Or.inl (List.mem_of_getElem? (i:=0) rfl))
 have f:=f.wr o
 have h:=h.other o (Or.inr (slot_ne (Or.inl (aj hw 110 rfl)) (Or.inl (aj hw 112 rfl)) (by decide) (t:= .int) (t':=(.array .int)) (by decide) (by decide)))
 have k:=k.other o (Or.inr (slot_ne (Or.inl (aj hw 114 rfl)) (Or.inl (aj hw 112 rfl)) (by decide) (t:= .int) (t':=(.array .int)) (by decide) (by decide)))
 have q:=q.other o y
 have j:=N
 refine ak 15 8 r b ?_
 refine ak 16 9 r b ?_
 refine bU 17 10 r b C q ?_
 refine fh 20 11 113 102 r b C k f (Or.inl (aj hw 114 rfl)) (ty:= .int) fun T180 O X180 P u=> ?_
 have Q:=Fr.snoc X180 M w
 have R:Fld Z O mb "java/math/MutableBigInteger" "intLen" "I" (.int zz):=k.same u
 have KP:=KP.wr u (Or.inl (List.mem_of_getElem? (i:=0) rfl))
 have f:=f.wr u
 have h:=h.other u (Or.inr (slot_ne (Or.inl (aj hw 110 rfl)) (Or.inl (aj hw 114 rfl)) (by decide) (t:= .int) (t':= .int) (by decide) (by decide)))
 have j:=j.other u (Or.inr (slot_ne (Or.inl (aj hw 112 rfl)) (Or.inl (aj hw 114 rfl)) (by decide) (t:=(.array .int)) (t':= .int) (by decide) (by decide)))
 have k:=R
 exact jE 12 X180 b hret E (by rw[P];exact ⟨rfl,Q,KP,f,h,j,k⟩)
def V9 (Z:State)(mb:Addr)(y:Int32)(h0:Heap)(n0:Nat)(v:Option Value)(h:Heap)(L:List Loc):Prop:=v=none∧Fr n0 L∧Keep h0 h [mb]∧ ∃(a:Addr) (k:ClassId),n0≤a∧h0.size≤a∧Exa Z h mb "java/math/MutableBigInteger"∧Fld Z h mb "java/math/MutableBigInteger" "offset" "I" (.int (0:Int32))∧Fld Z h mb "java/math/MutableBigInteger" "value" "[I" (.ref a)∧Fld Z h mb "java/math/MutableBigInteger" "intLen" "I" (.int (1:Int32))∧Arv Z h a k .int (1:Int32) [(.int y)] (.int (0:Int32))∧Exa Z h a "[I"
theorem Eu (l:Launch)(Z:State)(a0:Array Value)(hw: ∀d∈tables_1,d.before a0 Z=true)(ws:List Jvm.Cond)(mb:Addr)(y:Int32)(h0:Heap)(n0:Nat)(Z0:n0≤h0.size)(OL:Old Z n0 h0)(B:n0≤mb)(b:Exa Z h0 mb "java/math/MutableBigInteger")(h:Fld Z h0 mb "java/math/MutableBigInteger" "offset" "I" (.int (0:Int32)))(f:Fld Z h0 mb "java/math/MutableBigInteger" "value" "[I" .null)(j:Fld Z h0 mb "java/math/MutableBigInteger" "intLen" "I" (.int (0:Int32))):
  bp l (⟨"java/math/MutableBigInteger","<init>","(I)V"⟩:MethodName) (Jvm.Cond.code (⟨"java/math/MutableBigInteger","<init>","(I)V"⟩:MethodName) jdk_2101_method_2_code 2 none::ws) ({frames:=1,cells:=1,slots:=1,locals:=12}:Room) #[(.ref mb),(.int y)] Z h0 (V9 Z mb y h0 n0):=by
 refine bI (plainFor_of_name jy) (fun m=>R_ m mb y) fun p e s m aL aM c s₁ hx J S K (L:s.vm.findClass "java/math/MutableBigInteger"=some m.cls) hnm hret X0 hZ e0=> ?_
 have D:=fj J Dm
 have a:=bG hx J Dm L hZ K hw
 have N0:=Fr.nil n0
 have KP:Keep h0 h0 [mb]:=Keep.refl _ _
 refine ak 1 0 X0 a ?_
 obtain ⟨aN,C,T,U⟩:=initO X0 hx hZ L (aj hw 108 rfl) (aj hw 84 rfl) (aj hw 85 rfl) e0 (g:=(mkF m 1 #[rv mb,iv y] [(.ref mb)])) rfl (by rw[K];rfl) rfl (D 1 rfl) (by decide) (W:=0) (by show 2*0+_≤_;exact Nat.le_of_eq rfl) (by decide)
 refine aG (mkF m 4 #[rv mb,iv y] []) U ?_
 refine ak 5 2 C a ?_
 refine aB 6 3 0 C a ?_
 refine fh 9 4 109 102 C a T h b (Or.inl (aj hw 110 rfl)) (ty:= .int) fun aO M A V v=> ?_
 have X:=Fr.snoc A N0 B
 have Y:Fld Z M mb "java/math/MutableBigInteger" "offset" "I" (.int (0:Int32)):=h.same v
 have KP:=KP.wr v (Or.inl (List.mem_of_getElem? (i:=0) rfl))
 have b:=b.wr v
 have f:=f.other v (Or.inr (slot_ne (Or.inl (aj hw 112 rfl)) (Or.inl (aj hw 110 rfl)) (by decide) (t:=(.array .int)) (t':= .int) (by decide) (by decide)))
 have j:=j.other v (Or.inr (slot_ne (Or.inl (aj hw 114 rfl)) (Or.inl (aj hw 110 rfl)) (by decide) (t:= .int) (t':= .int) (by decide) (by decide)))
 have h:=Y
 refine ak 10 5 A a ?_
 refine aB 11 6 1 A a ?_
 obtain ⟨aP,N,E,ae,af,w,O,P,Q⟩:=newPE A hx hZ (aj hw 52 rfl) V (g:=(mkF m 11 #[rv mb,iv y] [(.int (1:Int32)),(.ref mb)])) rfl (D 7 rfl) rfl (by decide) (cap:=1) (by decide) (by decide) (by decide) (by decide) (ad:="[I") (by decide)
 obtain ⟨k,F⟩: ∃z,z=M.size:=⟨_,rfl⟩
 rw[←F] at O P Q
 have G:h0.size≤k:=Nat.le_trans KP.1 (Nat.le_of_eq F.symm)
 have R:n0≤k:=Nat.le_trans Z0 G
 have x:mb≠k:=Nat.ne_of_lt (Nat.lt_of_lt_of_le b.lt (Nat.le_of_eq F.symm))
 have KP:=KP.ext w
 have b:=b.ext w
 have h:=h.ext w
 have f:=f.ext w
 have j:=j.ext w
 have n:Exa Z N k "[I":=P
 have o:Arv Z N k E .int (1:Int32) [(.int (0:Int32))] (.int (0:Int32)):=(Arv.new O (by decide)).pad (pad_rep [] (.int (0:Int32)) 1)
 refine aG (mkF m 13 #[rv mb,iv y] [(.ref k),(.ref mb)]) Q ?_
 refine fh 16 8 111 102 ae a af f b (Or.inl (aj hw 112 rfl)) (ty:=(.array .int)) fun T184 ag X184 ai q=> ?_
 have al:=Fr.snoc X184 X B
 have am:Fld Z ag mb "java/math/MutableBigInteger" "value" "[I" (.ref k):=f.same q
 have KP:=KP.wr q (Or.inl (List.mem_of_getElem? (i:=0) rfl))
 have b:=b.wr q
 have h:=h.other q (Or.inr (slot_ne (Or.inl (aj hw 110 rfl)) (Or.inl (aj hw 112 rfl)) (by decide) (t:= .int) (t':=(.array .int)) (by decide) (by decide)))
 have j:=j.other q (Or.inr (slot_ne (Or.inl (aj hw 114 rfl)) (Or.inl (aj hw 112 rfl)) (by decide) (t:= .int) (t':=(.array .int)) (by decide) (by decide)))
 have n:=n.wr q
 have o:=o.other q (Ne.symm x)
 have f:=am
 refine ak 17 9 X184 a ?_
 refine aB 18 10 1 X184 a ?_
 refine fh 21 11 113 102 X184 a ai j b (Or.inl (aj hw 114 rfl)) (ty:= .int) fun aQ ao H av r=> ?_
 have aw:=Fr.snoc H al B
 have ax:Fld Z ao mb "java/math/MutableBigInteger" "intLen" "I" (.int (1:Int32)):=j.same r
 have KP:=KP.wr r (Or.inl (List.mem_of_getElem? (i:=0) rfl))
 have b:=b.wr r
 have h:=h.other r (Or.inr (slot_ne (Or.inl (aj hw 110 rfl)) (Or.inl (aj hw 114 rfl)) (by decide) (t:= .int) (t':= .int) (by decide) (by decide)))
 have f:=f.other r (Or.inr (slot_ne (Or.inl (aj hw 112 rfl)) (Or.inl (aj hw 114 rfl)) (by decide) (t:=(.array .int)) (t':= .int) (by decide) (by decide)))
 have n:=n.wr r
 have o:=o.other r (Ne.symm x)
 have j:=ax
 refine ak 22 12 H a ?_
 refine aE 25 13 111 H a av f fun aS I aA=> ?_
 refine aB 26 14 0 I a ?_
 refine au 27 15 I a ?_
 refine iY 28 0 16 I a aA o fun T187 aC X187 aD u aF=> ?_
 have aH:=Fr.snoc X187 aw R
 have KP:=KP.wr u (Or.inr G)
 have b:=b.wr u
 have h:=h.other u (Or.inl x)
 have f:=f.other u (Or.inl x)
 have j:=j.other u (Or.inl x)
 have n:=n.wr u
 have o:Arv Z aC k E .int (1:Int32) [(.int y)] (.int (0:Int32)):=aF
 exact jE 17 X187 a hret S (by rw[aD];exact ⟨rfl,aH,KP,k,E,R,G,b,h,f,j,o,n⟩)
def V_ (Z:State)(a:Addr)(ka:ClassId)(u0:Int32)(h0:Heap)(n0:Nat)(v:Option Value)(h:Heap)(L:List Loc):Prop:= ∃(b:Addr) (kb:ClassId),v=some (.ref b)∧Fr n0 L∧Keep h0 h []∧n0≤b∧h0.size≤b∧Arv Z h b kb .int (1:Int32) [(.int u0)] (.int (0:Int32))∧Exa Z h b "[I"
theorem Wa (l:Launch)(Z:State)(a0:Array Value)(hw: ∀d∈tables_1,d.before a0 Z=true)(ws:List Jvm.Cond)(a:Addr)(ka:ClassId)(u0:Int32)(h0:Heap)(n0:Nat)(Z0:n0≤h0.size)(I:Old Z n0 h0)(i:Arv Z h0 a ka .int (1:Int32) [(.int u0)] (.int (0:Int32)))(w:Exa Z h0 a "[I"):
  bp l (⟨"java/util/Arrays","copyOfRange","([III)[I"⟩:MethodName) (Jvm.Cond.code (⟨"java/util/Arrays","copyOfRange","([III)[I"⟩:MethodName) jdk_65_method_136_code 3 (some (.array .int))::ws) ({frames:=1,cells:=1,slots:=1,locals:=30}:Room) #[(.ref a),(.int (0:Int32)),(.int (1:Int32))] Z h0 (V_ Z a ka u0 h0 n0):=by
 refine bI (plainFor_of_name og) (fun m=>Sb m a (0:Int32) (1:Int32)) fun p e s m J K c s₁ hx j x k (h:s.vm.findClass "java/util/Arrays"=some m.cls) hnm hret X0 hZ e0=> ?_
 have D:=fj j qD
 have b:=bG hx j qD h hZ k hw
 have N0:=Fr.nil n0
 have KP:Keep h0 h0 []:=Keep.refl _ _
 refine au 1 0 X0 b ?_
 refine bw 4 1 X0 b rfl ((if0 _ _).trans (teq (by decide:(0:Int32)=(0:Int32))).2) ?_
 refine au 5 2 X0 b ?_
 refine ak 6 3 X0 b ?_
 refine bU 7 4 X0 b e0 i ?_
 refine bQ 17 5 X0 b rfl (teq (by decide:(1:Int32)=(1:Int32))).1 ?_
 refine ak 18 11 X0 b ?_
 obtain ⟨L,n,y,A,B,o,q,r⟩:=cloneH X0 hx hZ h (aj hw 138 rfl) (aj hw 139 rfl) (aj hw 143 rfl) (aj hw 141 rfl) (aj hw 142 rfl) (aj hw 144 rfl) e0 (Arv.arh i) w (g:=(mkF m 18 #[rv a,iv 0,iv 1] [(.ref a)])) rfl (by rw[k];rfl) rfl (D 12 rfl) (by decide) (W:=0) (by show 2*0+_≤_;exact Nat.le_of_eq rfl) (by decide) (cap:=1) (by decide) (by decide) (by decide)
 obtain ⟨f,t⟩: ∃z,z=h0.size:=⟨_,rfl⟩
 rw[←t] at o q r
 have u:h0.size≤f:=Nat.le_trans KP.1 (Nat.le_of_eq t.symm)
 have C:n0≤f:=Nat.le_trans Z0 u
 have KP:=KP.ext B
 have E:Arv Z n f ka .int (1:Int32) [(.int u0)] (.int (0:Int32)):=o
 have v:Exa Z n f "[I":=q
 refine aG (mkF m 21 #[rv a,iv 0,iv 1] [(.ref f)]) r ?_
 obtain ⟨M,F,G,H⟩:=castY y hx hZ h (aj hw 145 rfl) A (Ins.self v) (g:=(mkF m 21 #[rv a,iv 0,iv 1] [(.ref f)])) rfl rfl (D 13 rfl)
 refine aG (mkF m 24 #[rv a,iv 0,iv 1] [(.ref f)]) H ?_
 exact dU 14 F b hret x (by rw[G];exact ⟨f,ka,rfl,N0,KP,C,u,E,v⟩)
def Wb (Z:State)(mb sr a:Addr)(ka:ClassId)(u0:Int32)(h0:Heap)(n0:Nat)(v:Option Value)(h:Heap)(L:List Loc):Prop:=v=none∧Fr n0 L∧Keep h0 h [mb]∧ ∃(b:Addr) (kb:ClassId),n0≤b∧h0.size≤b∧Exa Z h mb "java/math/MutableBigInteger"∧Fld Z h mb "java/math/MutableBigInteger" "offset" "I" (.int (0:Int32))∧Fld Z h mb "java/math/MutableBigInteger" "value" "[I" (.ref b)∧Fld Z h mb "java/math/MutableBigInteger" "intLen" "I" (.int (1:Int32))∧Arv Z h b kb .int (1:Int32) [(.int u0)] (.int (0:Int32))∧Exa Z h b "[I"
theorem Wg (l:Launch)(Z:State)(a0:Array Value)(hw: ∀d∈tables_1,d.before a0 Z=true)(ws:List Jvm.Cond)(mb sr a:Addr)(ka:ClassId)(u0:Int32)(h0:Heap)(n0:Nat)(Z0:n0≤h0.size)(u:Old Z n0 h0)(v:n0≤mb)(f:Exa Z h0 mb "java/math/MutableBigInteger")(k:Fld Z h0 mb "java/math/MutableBigInteger" "offset" "I" (.int (0:Int32)))(n:Fld Z h0 mb "java/math/MutableBigInteger" "value" "[I" .null)(h:Fld Z h0 mb "java/math/MutableBigInteger" "intLen" "I" (.int (0:Int32)))(aT:Exa Z h0 sr "java/math/MutableBigInteger")(r:Fld Z h0 sr "java/math/MutableBigInteger" "offset" "I" (.int (0:Int32)))(w:Fld Z h0 sr "java/math/MutableBigInteger" "value" "[I" (.ref a))(E:Fld Z h0 sr "java/math/MutableBigInteger" "intLen" "I" (.int (1:Int32)))(x:sr≠mb)(I:a≠mb)(y:Arv Z h0 a ka .int (1:Int32) [(.int u0)] (.int (0:Int32)))(A:Exa Z h0 a "[I"):
  bp l (⟨"java/math/MutableBigInteger","<init>","(Ljava/math/MutableBigInteger;)V"⟩:MethodName) (Jvm.Cond.code (⟨"java/math/MutableBigInteger","<init>","(Ljava/math/MutableBigInteger;)V"⟩:MethodName) jdk_2101_method_5_code 2 none::ws) ({frames:=2,cells:=1,slots:=1,locals:=48}:Room) #[(.ref mb),(.ref sr)] Z h0 (Wb Z mb sr a ka u0 h0 n0):=by
 refine bI (plainFor_of_name jy) (fun m=>Sc m mb sr) fun p e s m aU aV c s₁ hx J T K (L:s.vm.findClass "java/math/MutableBigInteger"=some m.cls) hnm hret X0 hZ e0=> ?_
 have D:=fj J wE
 have b:=bG hx J wE L hZ K hw
 have N0:=Fr.nil n0
 have KP:Keep h0 h0 [mb]:=Keep.refl _ _
 refine ak 1 0 X0 b ?_
 obtain ⟨aX,F,U,V⟩:=initO X0 hx hZ L (aj hw 108 rfl) (aj hw 84 rfl) (aj hw 85 rfl) e0 (g:=(mkF m 1 #[rv mb,rv sr] [(.ref mb)])) rfl (by rw[K];rfl) rfl (D 1 rfl) (by decide) (W:=0) (by show 2*0+_≤_;exact Nat.le_of_eq rfl) (by decide)
 refine aG (mkF m 4 #[rv mb,rv sr] []) V ?_
 refine ak 5 2 F b ?_
 refine aB 6 3 0 F b ?_
 refine fh 9 4 109 102 F b U k f (Or.inl (aj hw 110 rfl)) (ty:= .int) fun T191 X X191 Y j=> ?_
 have ad:=Fr.snoc X191 N0 v
 have ae:Fld Z X mb "java/math/MutableBigInteger" "offset" "I" (.int (0:Int32)):=k.same j
 have u:=u.wr j v
 have KP:=KP.wr j (Or.inl (List.mem_of_getElem? (i:=0) rfl))
 have f:=f.wr j
 have n:=n.other j (Or.inr (slot_ne (Or.inl (aj hw 112 rfl)) (Or.inl (aj hw 110 rfl)) (by decide) (t:=(.array .int)) (t':= .int) (by decide) (by decide)))
 have h:=h.other j (Or.inr (slot_ne (Or.inl (aj hw 114 rfl)) (Or.inl (aj hw 110 rfl)) (by decide) (t:= .int) (t':= .int) (by decide) (by decide)))
 have r:=r.other j (Or.inl x)
 have w:=w.other j (Or.inl x)
 have E:=E.other j (Or.inl x)
 have y:=y.other j I
 have A:=A.wr j
 have k:=ae
 refine ak 10 5 X191 b ?_
 refine ak 11 6 X191 b ?_
 refine aE 14 7 113 X191 b Y E fun aZ af ag=> ?_
 refine fh 17 8 113 102 af b ag h f (Or.inl (aj hw 114 rfl)) (ty:= .int) fun a5 M C ai o=> ?_
 have al:=Fr.snoc C ad v
 have am:Fld Z M mb "java/math/MutableBigInteger" "intLen" "I" (.int (1:Int32)):=h.same o
 have u:=u.wr o v
 have KP:=KP.wr o (Or.inl (List.mem_of_getElem? (i:=0) rfl))
 have f:=f.wr o
 have k:=k.other o (Or.inr (slot_ne (Or.inl (aj hw 110 rfl)) (Or.inl (aj hw 114 rfl)) (by decide) (t:= .int) (t':= .int) (by decide) (by decide)))
 have n:=n.other o (Or.inr (slot_ne (Or.inl (aj hw 112 rfl)) (Or.inl (aj hw 114 rfl)) (by decide) (t:=(.array .int)) (t':= .int) (by decide) (by decide)))
 have r:=r.other o (Or.inl x)
 have w:=w.other o (Or.inl x)
 have y:=y.other o I
 have A:=A.wr o
 have h:=am
 refine ak 18 9 C b ?_
 refine ak 19 10 C b ?_
 refine aE 22 11 111 C b ai w fun a6 N ao=> ?_
 refine ak 23 12 N b ?_
 refine aE 26 13 109 N b ao r fun a7 O av=> ?_
 refine ak 27 14 O b ?_
 refine aE 30 15 109 O b av r fun a8 P aw=> ?_
 refine ak 31 16 P b ?_
 refine aE 34 17 113 P b aw h fun a9 Q ax=> ?_
 refine bJ 35 18 Q b (z:=(1:Int32)) ?_
 have aA:=KP
 have aC:=f.lt
 refine bZ 38 3 1 1 1 19 137 55 56 57 Q b (Wa l Z a0 hw [] a ka u0 M n0 (Nat.le_trans Z0 KP.1) u y A) pL ax fun _ T198 a_ X198 aD=> ?_
 obtain ⟨bb,aF,rfl,aH,B,aK,R,G,H⟩:=aD
 have aL:=Fr.app al aH
 have KP:=KP.trans B all0
 have f:=f.keep B
 have k:=k.keep B nin0
 have n:=n.keep B nin0
 have h:=h.keep B nin0
 refine aJ [_,_] ?_
 have aM:h0.size≤bb:=Nat.le_trans aA.1 R
 have aN:mb≠bb:=Nat.ne_of_lt (Nat.lt_of_lt_of_le aC R)
 refine fh 41 20 111 102 X198 b rfl n f (Or.inl (aj hw 112 rfl)) (ty:=(.array .int)) fun a' aO S aP q=> ?_
 have aQ:=Fr.snoc S aL v
 have aS:Fld Z aO mb "java/math/MutableBigInteger" "value" "[I" (.ref bb):=n.same q
 have KP:=KP.wr q (Or.inl (List.mem_of_getElem? (i:=0) rfl))
 have f:=f.wr q
 have k:=k.other q (Or.inr (slot_ne (Or.inl (aj hw 110 rfl)) (Or.inl (aj hw 112 rfl)) (by decide) (t:= .int) (t':=(.array .int)) (by decide) (by decide)))
 have h:=h.other q (Or.inr (slot_ne (Or.inl (aj hw 114 rfl)) (Or.inl (aj hw 112 rfl)) (by decide) (t:= .int) (t':=(.array .int)) (by decide) (by decide)))
 have G:=G.other q (Ne.symm aN)
 have H:=H.wr q
 have n:=aS
 exact jE 21 S b hret T (by rw[aP];exact ⟨rfl,aQ,KP,bb,aF,aK,aM,f,k,n,h,G,H⟩)
def Wh (Z:State)(a:Addr)(ka:ClassId)(u0 u1:Int32)(h0:Heap)(n0:Nat)(v:Option Value)(h:Heap)(L:List Loc):Prop:= ∃(b:Addr) (kb:ClassId),v=some (.ref b)∧Fr n0 L∧Keep h0 h []∧n0≤b∧h0.size≤b∧Arv Z h b kb .int (2:Int32) [(.int u0),(.int u1)] (.int (0:Int32))∧Exa Z h b "[I"
theorem Wj (l:Launch)(Z:State)(a0:Array Value)(hw: ∀d∈tables_1,d.before a0 Z=true)(ws:List Jvm.Cond)(a:Addr)(ka:ClassId)(u0 u1:Int32)(h0:Heap)(n0:Nat)(Z0:n0≤h0.size)(H:Old Z n0 h0)(i:Arv Z h0 a ka .int (2:Int32) [(.int u0),(.int u1)] (.int (0:Int32)))(w:Exa Z h0 a "[I"):
  bp l (⟨"java/util/Arrays","copyOfRange","([III)[I"⟩:MethodName) (Jvm.Cond.code (⟨"java/util/Arrays","copyOfRange","([III)[I"⟩:MethodName) jdk_65_method_136_code 3 (some (.array .int))::ws) ({frames:=1,cells:=1,slots:=2,locals:=30}:Room) #[(.ref a),(.int (0:Int32)),(.int (2:Int32))] Z h0 (Wh Z a ka u0 u1 h0 n0):=by
 refine bI (plainFor_of_name og) (fun m=>Sf m a (0:Int32) (2:Int32)) fun p e s m I J c s₁ hx j x k (h:s.vm.findClass "java/util/Arrays"=some m.cls) hnm hret X0 hZ e0=> ?_
 have D:=fj j qD
 have b:=bG hx j qD h hZ k hw
 have N0:=Fr.nil n0
 have KP:Keep h0 h0 []:=Keep.refl _ _
 refine au 1 0 X0 b ?_
 refine bw 4 1 X0 b rfl ((if0 _ _).trans (teq (by decide:(0:Int32)=(0:Int32))).2) ?_
 refine au 5 2 X0 b ?_
 refine ak 6 3 X0 b ?_
 refine bU 7 4 X0 b e0 i ?_
 refine bQ 17 5 X0 b rfl (teq (by decide:(2:Int32)=(2:Int32))).1 ?_
 refine ak 18 11 X0 b ?_
 obtain ⟨K,n,y,A,B,o,q,r⟩:=cloneH X0 hx hZ h (aj hw 138 rfl) (aj hw 139 rfl) (aj hw 143 rfl) (aj hw 141 rfl) (aj hw 142 rfl) (aj hw 144 rfl) e0 (Arv.arh i) w (g:=(mkF m 18 #[rv a,iv 0,iv 2] [(.ref a)])) rfl (by rw[k];rfl) rfl (D 12 rfl) (by decide) (W:=0) (by show 2*0+_≤_;exact Nat.le_of_eq rfl) (by decide) (cap:=2) (by decide) (by decide) (by decide)
 obtain ⟨f,t⟩: ∃z,z=h0.size:=⟨_,rfl⟩
 rw[←t] at o q r
 have u:h0.size≤f:=Nat.le_trans KP.1 (Nat.le_of_eq t.symm)
 have C:n0≤f:=Nat.le_trans Z0 u
 have KP:=KP.ext B
 have E:Arv Z n f ka .int (2:Int32) [(.int u0),(.int u1)] (.int (0:Int32)):=o
 have v:Exa Z n f "[I":=q
 refine aG (mkF m 21 #[rv a,iv 0,iv 2] [(.ref f)]) r ?_
 obtain ⟨T201,X201,F,G⟩:=castY y hx hZ h (aj hw 145 rfl) A (Ins.self v) (g:=(mkF m 21 #[rv a,iv 0,iv 2] [(.ref f)])) rfl rfl (D 13 rfl)
 refine aG (mkF m 24 #[rv a,iv 0,iv 2] [(.ref f)]) G ?_
 exact dU 14 X201 b hret x (by rw[F];exact ⟨f,ka,rfl,N0,KP,C,u,E,v⟩)
def Wk (Z:State)(mb sr a:Addr)(ka:ClassId)(u0 u1:Int32)(h0:Heap)(n0:Nat)(v:Option Value)(h:Heap)(L:List Loc):Prop:=v=none∧Fr n0 L∧Keep h0 h [mb]∧ ∃(b:Addr) (kb:ClassId),n0≤b∧h0.size≤b∧Exa Z h mb "java/math/MutableBigInteger"∧Fld Z h mb "java/math/MutableBigInteger" "offset" "I" (.int (0:Int32))∧Fld Z h mb "java/math/MutableBigInteger" "value" "[I" (.ref b)∧Fld Z h mb "java/math/MutableBigInteger" "intLen" "I" (.int (2:Int32))∧Arv Z h b kb .int (2:Int32) [(.int u0),(.int u1)] (.int (0:Int32))∧Exa Z h b "[I"
theorem Wn (l:Launch)(Z:State)(a0:Array Value)(hw: ∀d∈tables_1,d.before a0 Z=true)(ws:List Jvm.Cond)(mb sr a:Addr)(ka:ClassId)(u0 u1:Int32)(h0:Heap)(n0:Nat)(Z0:n0≤h0.size)(u:Old Z n0 h0)(v:n0≤mb)(f:Exa Z h0 mb "java/math/MutableBigInteger")(k:Fld Z h0 mb "java/math/MutableBigInteger" "offset" "I" (.int (0:Int32)))(n:Fld Z h0 mb "java/math/MutableBigInteger" "value" "[I" .null)(h:Fld Z h0 mb "java/math/MutableBigInteger" "intLen" "I" (.int (0:Int32)))(aU:Exa Z h0 sr "java/math/MutableBigInteger")(r:Fld Z h0 sr "java/math/MutableBigInteger" "offset" "I" (.int (0:Int32)))(w:Fld Z h0 sr "java/math/MutableBigInteger" "value" "[I" (.ref a))(F:Fld Z h0 sr "java/math/MutableBigInteger" "intLen" "I" (.int (2:Int32)))(x:sr≠mb)(J:a≠mb)(y:Arv Z h0 a ka .int (2:Int32) [(.int u0),(.int u1)] (.int (0:Int32)))(A:Exa Z h0 a "[I"):
  bp l (⟨"java/math/MutableBigInteger","<init>","(Ljava/math/MutableBigInteger;)V"⟩:MethodName) (Jvm.Cond.code (⟨"java/math/MutableBigInteger","<init>","(Ljava/math/MutableBigInteger;)V"⟩:MethodName) jdk_2101_method_5_code 2 none::ws) ({frames:=2,cells:=1,slots:=2,locals:=48}:Room) #[(.ref mb),(.ref sr)] Z h0 (Wk Z mb sr a ka u0 u1 h0 n0):=by
 refine bI (plainFor_of_name jy) (fun m=>Sg m mb sr) fun p e s m aV aX c s₁ hx K U L (M:s.vm.findClass "java/math/MutableBigInteger"=some m.cls) hnm hret X0 hZ e0=> ?_
 have D:=fj K wE
 have b:=bG hx K wE M hZ L hw
 have N0:=Fr.nil n0
 have KP:Keep h0 h0 [mb]:=Keep.refl _ _
 refine ak 1 0 X0 b ?_
 obtain ⟨aZ,G,V,X⟩:=initO X0 hx hZ M (aj hw 108 rfl) (aj hw 84 rfl) (aj hw 85 rfl) e0 (g:=(mkF m 1 #[rv mb,rv sr] [(.ref mb)])) rfl (by rw[L];rfl) rfl (D 1 rfl) (by decide) (W:=0) (by show 2*0+_≤_;exact Nat.le_of_eq rfl) (by decide)
 refine aG (mkF m 4 #[rv mb,rv sr] []) X ?_
 refine ak 5 2 G b ?_
 refine aB 6 3 0 G b ?_
 refine fh 9 4 109 102 G b V k f (Or.inl (aj hw 110 rfl)) (ty:= .int) fun a5 Y C ad j=> ?_
 have ae:=Fr.snoc C N0 v
 have af:Fld Z Y mb "java/math/MutableBigInteger" "offset" "I" (.int (0:Int32)):=k.same j
 have u:=u.wr j v
 have KP:=KP.wr j (Or.inl (List.mem_of_getElem? (i:=0) rfl))
 have f:=f.wr j
 have n:=n.other j (Or.inr (slot_ne (Or.inl (aj hw 112 rfl)) (Or.inl (aj hw 110 rfl)) (by decide) (t:=(.array .int)) (t':= .int) (by decide) (by decide)))
 have h:=h.other j (Or.inr (slot_ne (Or.inl (aj hw 114 rfl)) (Or.inl (aj hw 110 rfl)) (by decide) (t:= .int) (t':= .int) (by decide) (by decide)))
 have r:=r.other j (Or.inl x)
 have w:=w.other j (Or.inl x)
 have F:=F.other j (Or.inl x)
 have y:=y.other j J
 have A:=A.wr j
 have k:=af
 refine ak 10 5 C b ?_
 refine ak 11 6 C b ?_
 refine aE 14 7 113 C b ad F fun T204 X204 ag=> ?_
 refine fh 17 8 113 102 X204 b ag h f (Or.inl (aj hw 114 rfl)) (ty:= .int) fun a6 N E ai o=> ?_
 have al:=Fr.snoc E ae v
 have am:Fld Z N mb "java/math/MutableBigInteger" "intLen" "I" (.int (2:Int32)):=h.same o
 have u:=u.wr o v
 have KP:=KP.wr o (Or.inl (List.mem_of_getElem? (i:=0) rfl))
 have f:=f.wr o
 have k:=k.other o (Or.inr (slot_ne (Or.inl (aj hw 110 rfl)) (Or.inl (aj hw 114 rfl)) (by decide) (t:= .int) (t':= .int) (by decide) (by decide)))
 have n:=n.other o (Or.inr (slot_ne (Or.inl (aj hw 112 rfl)) (Or.inl (aj hw 114 rfl)) (by decide) (t:=(.array .int)) (t':= .int) (by decide) (by decide)))
 have r:=r.other o (Or.inl x)
 have w:=w.other o (Or.inl x)
 have y:=y.other o J
 have A:=A.wr o
 have h:=am
 refine ak 18 9 E b ?_
 refine ak 19 10 E b ?_
 refine aE 22 11 111 E b ai w fun a7 O ao=> ?_
 refine ak 23 12 O b ?_
 refine aE 26 13 109 O b ao r fun a8 P av=> ?_
 refine ak 27 14 P b ?_
 refine aE 30 15 109 P b av r fun a9 Q aw=> ?_
 refine ak 31 16 Q b ?_
 refine aE 34 17 113 Q b aw h fun a_ R ax=> ?_
 refine bJ 35 18 R b (z:=(2:Int32)) ?_
 have aA:=KP
 have aC:=f.lt
 refine bZ 38 3 1 1 2 19 137 55 56 57 R b (Wj l Z a0 hw [] a ka u0 u1 N n0 (Nat.le_trans Z0 KP.1) u y A) pL ax fun _ a' bd aD aF=> ?_
 obtain ⟨bb,aH,rfl,aK,B,aL,S,H,I⟩:=aF
 have aM:=Fr.app al aK
 have KP:=KP.trans B all0
 have f:=f.keep B
 have k:=k.keep B nin0
 have n:=n.keep B nin0
 have h:=h.keep B nin0
 refine aJ [_,_] ?_
 have aN:h0.size≤bb:=Nat.le_trans aA.1 S
 have aO:mb≠bb:=Nat.ne_of_lt (Nat.lt_of_lt_of_le aC S)
 refine fh 41 20 111 102 aD b rfl n f (Or.inl (aj hw 112 rfl)) (ty:=(.array .int)) fun be aP T aQ q=> ?_
 have aS:=Fr.snoc T aM v
 have aT:Fld Z aP mb "java/math/MutableBigInteger" "value" "[I" (.ref bb):=n.same q
 have KP:=KP.wr q (Or.inl (List.mem_of_getElem? (i:=0) rfl))
 have f:=f.wr q
 have k:=k.other q (Or.inr (slot_ne (Or.inl (aj hw 110 rfl)) (Or.inl (aj hw 112 rfl)) (by decide) (t:= .int) (t':=(.array .int)) (by decide) (by decide)))
 have h:=h.other q (Or.inr (slot_ne (Or.inl (aj hw 114 rfl)) (Or.inl (aj hw 112 rfl)) (by decide) (t:= .int) (t':=(.array .int)) (by decide) (by decide)))
 have H:=H.other q (Ne.symm aO)
 have I:=I.wr q
 have n:=aT
 exact jE 21 T b hret U (by rw[aQ];exact ⟨rfl,aS,KP,bb,aH,aL,aN,f,k,n,h,H,I⟩)
def Wo (Z:State)(mb sr:Addr)(h0:Heap)(n0:Nat)(v:Option Value)(h:Heap)(L:List Loc):Prop:=v=some (.int (-1))∧Fr n0 L∧h=h0
theorem Wq (l:Launch)(Z:State)(a0:Array Value)(hw: ∀d∈tables_1,d.before a0 Z=true)(ws:List Jvm.Cond)(mb sr:Addr)(h0:Heap)(n0:Nat)(Z0:n0≤h0.size)(r:Old Z n0 h0)(lm ls:Int32)(g:Fld Z h0 mb "java/math/MutableBigInteger" "intLen" "I" (.int lm))(h:Fld Z h0 sr "java/math/MutableBigInteger" "intLen" "I" (.int ls))(hl:lm<ls):
  bp l (⟨"java/math/MutableBigInteger","compare","(Ljava/math/MutableBigInteger;)I"⟩:MethodName) (Jvm.Cond.code (⟨"java/math/MutableBigInteger","compare","(Ljava/math/MutableBigInteger;)I"⟩:MethodName) jdk_2101_method_15_code 8 (some .int)::ws) ({frames:=0,cells:=0,slots:=0,locals:=0}:Room) #[(.ref mb),(.ref sr)] Z h0 (Wo Z mb sr h0 n0):=by
 refine bI (plainFor_of_name jy) (fun m=>Si m mb sr) fun p e s m t u c s₁ hx i j k (n:s.vm.findClass "java/math/MutableBigInteger"=some m.cls) hnm hret X0 hZ e0=> ?_
 have a:=bG hx i wF n hZ k hw
 have N0:=Fr.nil n0
 refine ak 1 0 X0 a ?_
 refine aE 4 1 113 X0 a e0 h fun v f o=> ?_
 refine eO 5 2 #[_,_,_,_,_,_,_,_] f a ?_
 refine ak 6 3 f a ?_
 refine aE 9 4 113 f a o g fun w b q=> ?_
 refine au 10 5 b a ?_
 refine bY 13 6 b a rfl (tlt hl).2.1 ?_
 refine aB 14 7 (-1) b a ?_
 exact gg 8 b a hret j (by rw[q];exact ⟨rfl,N0,rfl⟩)
def Wu (Z:State)(mb sr:Addr)(h0:Heap)(n0:Nat)(v:Option Value)(h:Heap)(L:List Loc):Prop:=v=some (.int 1)∧Fr n0 L∧h=h0
theorem Ww (l:Launch)(Z:State)(a0:Array Value)(hw: ∀d∈tables_1,d.before a0 Z=true)(ws:List Jvm.Cond)(mb sr:Addr)(h0:Heap)(n0:Nat)(Z0:n0≤h0.size)(u:Old Z n0 h0)(lm ls:Int32)(h:Fld Z h0 mb "java/math/MutableBigInteger" "intLen" "I" (.int lm))(i:Fld Z h0 sr "java/math/MutableBigInteger" "intLen" "I" (.int ls))(hl:ls<lm):
  bp l (⟨"java/math/MutableBigInteger","compare","(Ljava/math/MutableBigInteger;)I"⟩:MethodName) (Jvm.Cond.code (⟨"java/math/MutableBigInteger","compare","(Ljava/math/MutableBigInteger;)I"⟩:MethodName) jdk_2101_method_15_code 8 (some .int)::ws) ({frames:=0,cells:=0,slots:=0,locals:=0}:Room) #[(.ref mb),(.ref sr)] Z h0 (Wu Z mb sr h0 n0):=by
 refine bI (plainFor_of_name jy) (fun m=>Sj m mb sr) fun p e s m v w c s₁ hx j k n (o:s.vm.findClass "java/math/MutableBigInteger"=some m.cls) hnm hret X0 hZ e0=> ?_
 have a:=bG hx j wF o hZ n hw
 have N0:=Fr.nil n0
 refine ak 1 0 X0 a ?_
 refine aE 4 1 113 X0 a e0 i fun x g q=> ?_
 refine eO 5 2 #[_,_,_,_,_,_,_,_] g a ?_
 refine ak 6 3 g a ?_
 refine aE 9 4 113 g a q h fun y b r=> ?_
 refine au 10 5 b a ?_
 refine bQ 15 6 b a rfl (flt (HJ hl)).2.1 ?_
 refine ak 16 9 b a ?_
 refine aE 19 10 113 b a r h fun z f t=> ?_
 refine au 20 11 f a ?_
 refine bY 23 12 f a rfl (tlt hl).2.2.2 ?_
 refine aB 24 13 1 f a ?_
 exact gg 14 f a hret k (by rw[t];exact ⟨rfl,N0,rfl⟩)
def Wy (Z:State)(mb a:Addr)(ka:ClassId)(x0:Int32)(sr b:Addr)(kb:ClassId)(y0:Int32)(h0:Heap)(n0:Nat)(v:Option Value)(h:Heap)(L:List Loc):Prop:= ∃r:Int32,v=some (.int r)∧Fr n0 L∧h=h0∧qt (ah x0) (ah y0) r
theorem Wz (l:Launch)(Z:State)(a0:Array Value)(hw: ∀d∈tables_1,d.before a0 Z=true)(ws:List Jvm.Cond)(mb a:Addr)(ka:ClassId)(x0:Int32)(sr b:Addr)(kb:ClassId)(y0:Int32)(h0:Heap)(n0:Nat)(Z0:n0≤h0.size)(U:Old Z n0 h0)(V:Exa Z h0 mb "java/math/MutableBigInteger")(r:Fld Z h0 mb "java/math/MutableBigInteger" "offset" "I" (.int (0:Int32)))(B:Fld Z h0 mb "java/math/MutableBigInteger" "value" "[I" (.ref a))(i:Fld Z h0 mb "java/math/MutableBigInteger" "intLen" "I" (.int (1:Int32)))(W:Exa Z h0 sr "java/math/MutableBigInteger")(C:Fld Z h0 sr "java/math/MutableBigInteger" "offset" "I" (.int (0:Int32)))(D:Fld Z h0 sr "java/math/MutableBigInteger" "value" "[I" (.ref b))(E:Fld Z h0 sr "java/math/MutableBigInteger" "intLen" "I" (.int (1:Int32)))(F:Arv Z h0 a ka .int (1:Int32) [(.int x0)] (.int (0:Int32)))(G:Arv Z h0 b kb .int (1:Int32) [(.int y0)] (.int (0:Int32))):
  bp l (⟨"java/math/MutableBigInteger","compare","(Ljava/math/MutableBigInteger;)I"⟩:MethodName) (Jvm.Cond.code (⟨"java/math/MutableBigInteger","compare","(Ljava/math/MutableBigInteger;)I"⟩:MethodName) jdk_2101_method_15_code 8 (some .int)::ws) ({frames:=0,cells:=0,slots:=0,locals:=0}:Room) #[(.ref mb),(.ref sr)] Z h0 (Wy Z mb a ka x0 sr b kb y0 h0 n0):=by
 refine bI (plainFor_of_name jy) (fun m=>Sm m mb sr) fun p e s m X Y c s₁ hx H t I (J:s.vm.findClass "java/math/MutableBigInteger"=some m.cls) hnm hret X0 hZ e0=> ?_
 have f:=bG hx H wF J hZ I hw
 have N0:=Fr.nil n0
 refine ak 1 0 X0 f ?_
 refine aE 4 1 113 X0 f e0 E fun ad u K=> ?_
 refine eO 5 2 #[_,_,_,_,_,_,_,_] u f ?_
 refine ak 6 3 u f ?_
 refine aE 9 4 113 u f K i fun ae j L=> ?_
 refine au 10 5 j f ?_
 refine bQ 15 6 j f rfl (flt (by decide: ¬((1:Int32)<(1:Int32)))).2.1 ?_
 refine ak 16 9 j f ?_
 refine aE 19 10 113 j f L i fun af k M=> ?_
 refine au 20 11 k f ?_
 refine bQ 25 12 k f rfl (flt (by decide: ¬((1:Int32)<(1:Int32)))).2.2.2 ?_
 refine ak 26 15 k f ?_
 refine aE 29 16 111 k f M D fun ag v N=> ?_
 refine qu 30 17 #[_,_,_,_,_,_,_,_] v f ?_
 refine ak 31 18 v f ?_
 refine aE 34 19 109 v f N r fun ai w O=> ?_
 refine bh 36 20 #[_,_,_,_,_,_,_,_] w f ?_
 refine ak 37 21 w f ?_
 refine aE 40 22 109 w f O C fun al n P=> ?_
 refine bh 42 23 #[_,_,_,_,_,_,_,_] n f ?_
 refine aq 44 24 n f ?_
 refine ak 45 25 n f ?_
 refine aE 48 26 113 n f P i fun am y Q=> ?_
 refine ak 49 27 y f ?_
 refine aE 52 28 109 y f Q r fun ao o R=> ?_
 refine bJ 53 29 o f (z:=(1:Int32)) ?_
 refine bY 56 30 o f rfl (tlt (by decide:(0:Int32)<(1:Int32))).2.1 ?_
 refine ak 57 31 o f ?_
 refine aE 60 32 111 o f R B fun av g h=> ?_
 refine aq 62 33 g f ?_
 refine eY 63 34 g f h F (x:=x0) ?_
 refine mQ 65 230 35 g f ?_
 refine bJ 66 36 g f ?_
 refine bh 68 37 #[_,_,_,_,_,_,_,_] g f ?_
 refine ak 69 38 g f ?_
 refine aq 71 39 g f ?_
 refine eY 72 40 g f h G (x:=y0) ?_
 refine mQ 74 230 41 g f ?_
 refine bJ 75 42 g f ?_
 refine bh 77 43 #[_,_,_,_,_,_,_,_] g f ?_
 refine aq 79 44 g f ?_
 refine aq 81 45 g f ?_
 by_cases ha0:(x0+(-2147483648:Int32))<(y0+(-2147483648:Int32))
 ·refine bY 84 46 g f rfl (tlt ha0).2.1 ?_
  refine aB 85 47 (-1) g f ?_
  exact gg 48 g f hret t (by rw[h];exact ⟨_,rfl,N0,rfl,Or.inl ⟨rfl,(qQ ha0)⟩⟩)
 ·refine bQ 86 46 g f rfl (flt ha0).2.1 ?_
  refine aq 88 49 g f ?_
  refine aq 90 50 g f ?_
  by_cases hb0:(y0+(-2147483648:Int32))<(x0+(-2147483648:Int32))
  ·refine bY 93 51 g f rfl (tlt hb0).2.2.2 ?_
   refine aB 94 52 1 g f ?_
   exact gg 53 g f hret t (by rw[h];exact ⟨_,rfl,N0,rfl,Or.inr (Or.inr ⟨rfl,(qQ hb0)⟩)⟩)
  ·refine bQ 95 51 g f rfl (flt hb0).2.2.2 ?_
   refine dG 98 54 #[_,_,_,_,iv 1,_,_,_] g f ?_
   refine dG 101 55 #[_,_,_,_,_,iv 1,_,_] g f ?_
   refine bL 42 56 g f ?_
   refine aq 44 24 g f ?_
   refine ak 45 25 g f ?_
   refine aE 48 26 113 g f h i fun aw A S=> ?_
   refine ak 49 27 A f ?_
   refine aE 52 28 109 A f S r fun ax q T=> ?_
   refine bJ 53 29 q f (z:=(1:Int32)) ?_
   refine bQ 104 30 q f rfl (flt (by decide: ¬((1:Int32)<(1:Int32)))).2.1 ?_
   refine aB 105 57 0 q f ?_
   exact gg 58 q f hret t (by rw[T];exact ⟨_,rfl,N0,rfl,Or.inr (Or.inl ⟨rfl,(Int.le_antisymm (om hb0) (om ha0))⟩)⟩)
def WA (Z:State)(mb a:Addr)(ka:ClassId)(x0 x1:Int32)(sr b:Addr)(kb:ClassId)(y0 y1:Int32)(h0:Heap)(n0:Nat)(v:Option Value)(h:Heap)(L:List Loc):Prop:= ∃r:Int32,v=some (.int r)∧Fr n0 L∧h=h0∧qt ((ah x0*4294967296+ah x1)) ((ah y0*4294967296+ah y1)) r
theorem WB (l:Launch)(Z:State)(a0:Array Value)(hw: ∀d∈tables_1,d.before a0 Z=true)(ws:List Jvm.Cond)(mb a:Addr)(ka:ClassId)(x0 x1:Int32)(sr b:Addr)(kb:ClassId)(y0 y1:Int32)(h0:Heap)(n0:Nat)(Z0:n0≤h0.size)(OL:Old Z n0 h0)(al:Exa Z h0 mb "java/math/MutableBigInteger")(o:Fld Z h0 mb "java/math/MutableBigInteger" "offset" "I" (.int (0:Int32)))(F:Fld Z h0 mb "java/math/MutableBigInteger" "value" "[I" (.ref a))(i:Fld Z h0 mb "java/math/MutableBigInteger" "intLen" "I" (.int (2:Int32)))(am:Exa Z h0 sr "java/math/MutableBigInteger")(L:Fld Z h0 sr "java/math/MutableBigInteger" "offset" "I" (.int (0:Int32)))(M:Fld Z h0 sr "java/math/MutableBigInteger" "value" "[I" (.ref b))(N:Fld Z h0 sr "java/math/MutableBigInteger" "intLen" "I" (.int (2:Int32)))(G:Arv Z h0 a ka .int (2:Int32) [(.int x0),(.int x1)] (.int (0:Int32)))(H:Arv Z h0 b kb .int (2:Int32) [(.int y0),(.int y1)] (.int (0:Int32))):
  bp l (⟨"java/math/MutableBigInteger","compare","(Ljava/math/MutableBigInteger;)I"⟩:MethodName) (Jvm.Cond.code (⟨"java/math/MutableBigInteger","compare","(Ljava/math/MutableBigInteger;)I"⟩:MethodName) jdk_2101_method_15_code 8 (some .int)::ws) ({frames:=0,cells:=0,slots:=0,locals:=0}:Room) #[(.ref mb),(.ref sr)] Z h0 (WA Z mb a ka x0 x1 sr b kb y0 y1 h0 n0):=by
 refine bI (plainFor_of_name jy) (fun m=>Sn m mb sr) fun p e s m ao av c s₁ hx O j P (Q:s.vm.findClass "java/math/MutableBigInteger"=some m.cls) hnm hret X0 hZ e0=> ?_
 have f:=bG hx O wF Q hZ P hw
 have N0:=Fr.nil n0
 refine ak 1 0 X0 f ?_
 refine aE 4 1 113 X0 f e0 N fun aw C R=> ?_
 refine eO 5 2 #[_,_,_,_,_,_,_,_] C f ?_
 refine ak 6 3 C f ?_
 refine aE 9 4 113 C f R i fun ax r S=> ?_
 refine au 10 5 r f ?_
 refine bQ 15 6 r f rfl (flt (by decide: ¬((2:Int32)<(2:Int32)))).2.1 ?_
 refine ak 16 9 r f ?_
 refine aE 19 10 113 r f S i fun aA t T=> ?_
 refine au 20 11 t f ?_
 refine bQ 25 12 t f rfl (flt (by decide: ¬((2:Int32)<(2:Int32)))).2.2.2 ?_
 refine ak 26 15 t f ?_
 refine aE 29 16 111 t f T M fun aC D U=> ?_
 refine qu 30 17 #[_,_,_,_,_,_,_,_] D f ?_
 refine ak 31 18 D f ?_
 refine aE 34 19 109 D f U o fun aD E V=> ?_
 refine bh 36 20 #[_,_,_,_,_,_,_,_] E f ?_
 refine ak 37 21 E f ?_
 refine aE 40 22 109 E f V L fun aF u W=> ?_
 refine bh 42 23 #[_,_,_,_,_,_,_,_] u f ?_
 refine aq 44 24 u f ?_
 refine ak 45 25 u f ?_
 refine aE 48 26 113 u f W i fun aH I X=> ?_
 refine ak 49 27 I f ?_
 refine aE 52 28 109 I f X o fun aK v Y=> ?_
 refine bJ 53 29 v f (z:=(2:Int32)) ?_
 refine bY 56 30 v f rfl (tlt (by decide:(0:Int32)<(2:Int32))).2.1 ?_
 refine ak 57 31 v f ?_
 refine aE 60 32 111 v f Y F fun aL g k=> ?_
 refine aq 62 33 g f ?_
 refine eY 63 34 g f k G (x:=x0) ?_
 refine mQ 65 230 35 g f ?_
 refine bJ 66 36 g f ?_
 refine bh 68 37 #[_,_,_,_,_,_,_,_] g f ?_
 refine ak 69 38 g f ?_
 refine aq 71 39 g f ?_
 refine eY 72 40 g f k H (x:=y0) ?_
 refine mQ 74 230 41 g f ?_
 refine bJ 75 42 g f ?_
 refine bh 77 43 #[_,_,_,_,_,_,_,_] g f ?_
 refine aq 79 44 g f ?_
 refine aq 81 45 g f ?_
 by_cases ha0:(x0+(-2147483648:Int32))<(y0+(-2147483648:Int32))
 ·refine bY 84 46 g f rfl (tlt ha0).2.1 ?_
  refine aB 85 47 (-1) g f ?_
  exact gg 48 g f hret j (by rw[k];exact ⟨_,rfl,N0,rfl,Or.inl ⟨rfl,(vl (qQ ha0))⟩⟩)
 ·refine bQ 86 46 g f rfl (flt ha0).2.1 ?_
  refine aq 88 49 g f ?_
  refine aq 90 50 g f ?_
  by_cases hb0:(y0+(-2147483648:Int32))<(x0+(-2147483648:Int32))
  ·refine bY 93 51 g f rfl (tlt hb0).2.2.2 ?_
   refine aB 94 52 1 g f ?_
   exact gg 53 g f hret j (by rw[k];exact ⟨_,rfl,N0,rfl,Or.inr (Or.inr ⟨rfl,(vl (qQ hb0))⟩)⟩)
  ·refine bQ 95 51 g f rfl (flt hb0).2.2.2 ?_
   refine dG 98 54 #[_,_,_,_,iv 1,_,_,_] g f ?_
   refine dG 101 55 #[_,_,_,_,_,iv 1,_,_] g f ?_
   refine bL 42 56 g f ?_
   refine aq 44 24 g f ?_
   refine ak 45 25 g f ?_
   refine aE 48 26 113 g f k i fun aM J ad=> ?_
   refine ak 49 27 J f ?_
   refine aE 52 28 109 J f ad o fun aN w ae=> ?_
   refine bJ 53 29 w f (z:=(2:Int32)) ?_
   refine bY 56 30 w f rfl (tlt (by decide:(1:Int32)<(2:Int32))).2.1 ?_
   refine ak 57 31 w f ?_
   refine aE 60 32 111 w f ae F fun aO h n=> ?_
   refine aq 62 33 h f ?_
   refine eY 63 34 h f n G (x:=x1) ?_
   refine mQ 65 230 35 h f ?_
   refine bJ 66 36 h f ?_
   refine bh 68 37 #[_,_,_,_,_,_,_,_] h f ?_
   refine ak 69 38 h f ?_
   refine aq 71 39 h f ?_
   refine eY 72 40 h f n H (x:=y1) ?_
   refine mQ 74 230 41 h f ?_
   refine bJ 75 42 h f ?_
   refine bh 77 43 #[_,_,_,_,_,_,_,_] h f ?_
   refine aq 79 44 h f ?_
   refine aq 81 45 h f ?_
   by_cases ha1:(x1+(-2147483648:Int32))<(y1+(-2147483648:Int32))
   ·refine bY 84 46 h f rfl (tlt ha1).2.1 ?_
    refine aB 85 47 (-1) h f ?_
    exact gg 48 h f hret j (by rw[n];exact ⟨_,rfl,N0,rfl,Or.inl ⟨rfl,(by have q:=qQ ha1;have e:=yF (A:=ah x1) (B:=ah y1) (om ha0) (om hb0);omega)⟩⟩)
   ·refine bQ 86 46 h f rfl (flt ha1).2.1 ?_
    refine aq 88 49 h f ?_
    refine aq 90 50 h f ?_
    by_cases hb1:(y1+(-2147483648:Int32))<(x1+(-2147483648:Int32))
    ·refine bY 93 51 h f rfl (tlt hb1).2.2.2 ?_
     refine aB 94 52 1 h f ?_
     exact gg 53 h f hret j (by rw[n];exact ⟨_,rfl,N0,rfl,Or.inr (Or.inr ⟨rfl,(by have q:=qQ hb1;have e:=yF (A:=ah x1) (B:=ah y1) (om ha0) (om hb0);omega)⟩)⟩)
    ·refine bQ 95 51 h f rfl (flt hb1).2.2.2 ?_
     refine dG 98 54 #[_,_,_,_,iv 2,_,_,_] h f ?_
     refine dG 101 55 #[_,_,_,_,_,iv 2,_,_] h f ?_
     refine bL 42 56 h f ?_
     refine aq 44 24 h f ?_
     refine ak 45 25 h f ?_
     refine aE 48 26 113 h f n i fun aP K af=> ?_
     refine ak 49 27 K f ?_
     refine aE 52 28 109 K f af o fun aQ y ag=> ?_
     refine bJ 53 29 y f (z:=(2:Int32)) ?_
     refine bQ 104 30 y f rfl (flt (by decide: ¬((2:Int32)<(2:Int32)))).2.1 ?_
     refine aB 105 57 0 y f ?_
     exact gg 58 y f hret j (by rw[ag];exact ⟨_,rfl,N0,rfl,Or.inr (Or.inl ⟨rfl,(by have p:=om ha1;have q:=om hb1;have e:=yF (A:=ah x1) (B:=ah y1) (om ha0) (om hb0);omega)⟩)⟩)
def WD (Z:State)(bx:Addr)(sg:Int32)(h0:Heap)(n0:Nat)(v:Option Value)(h:Heap)(L:List Loc):Prop:=v=some (.int sg)∧Fr n0 L∧h=h0
theorem WI (l:Launch)(Z:State)(a0:Array Value)(hw: ∀d∈tables_1,d.before a0 Z=true)(ws:List Jvm.Cond)(bx:Addr)(sg:Int32)(h0:Heap)(n0:Nat)(Z0:n0≤h0.size)(k:Old Z n0 h0)(Fs:Fld Z h0 bx "java/math/BigInteger" "signum" "I" (.int sg)):
  bp l (⟨"java/math/BigInteger","signum","()I"⟩:MethodName) (Jvm.Cond.code (⟨"java/math/BigInteger","signum","()I"⟩:MethodName) jdk_2097_method_81_code 1 (some .int)::ws) ({frames:=0,cells:=0,slots:=0,locals:=0}:Room) #[(.ref bx)] Z h0 (WD Z bx sg h0 n0):=by
 refine bI (plainFor_of_name gF) (fun m=>Sr m bx) fun p e s m n o c s₁ hx b f g (h:s.vm.findClass "java/math/BigInteger"=some m.cls) hnm hret X0 hZ e0=> ?_
 have a:=bG hx b NH h hZ g hw
 have N0:=Fr.nil n0
 refine ak 1 0 X0 a ?_
 refine aE 4 1 38 X0 a e0 Fs fun q i j=> ?_
 exact gg 2 i a hret f (by rw[j];exact ⟨rfl,N0,rfl⟩)
def WJ (Z:State)(bx:Addr)(h0:Heap)(n0:Nat)(v:Option Value)(h:Heap)(L:List Loc):Prop:=v=some (.int 0)∧Fr n0 L∧h=h0
theorem WK (l:Launch)(Z:State)(a0:Array Value)(hw: ∀d∈tables_1,d.before a0 Z=true)(ws:List Jvm.Cond)(bx:Addr)(h0:Heap)(n0:Nat)(Z0:n0≤h0.size)(k:Old Z n0 h0)(Fs:Fld Z h0 bx "java/math/BigInteger" "signum" "I" (.int (1:Int32))):
  bp l (⟨"java/math/BigInteger","signInt","()I"⟩:MethodName) (Jvm.Cond.code (⟨"java/math/BigInteger","signInt","()I"⟩:MethodName) jdk_2097_method_147_code 1 (some .int)::ws) ({frames:=0,cells:=0,slots:=0,locals:=0}:Room) #[(.ref bx)] Z h0 (WJ Z bx h0 n0):=by
 refine bI (plainFor_of_name gF) (fun m=>SR m bx) fun p e s m n o c s₁ hx f g h (i:s.vm.findClass "java/math/BigInteger"=some m.cls) hnm hret X0 hZ e0=> ?_
 have a:=bG hx f NK i hZ h hw
 have N0:=Fr.nil n0
 refine ak 1 0 X0 a ?_
 refine aE 4 1 38 X0 a e0 Fs fun q b j=> ?_
 refine bk 11 2 b a rfl ((if0 _ _).trans (flt (by decide: ¬((1:Int32)<(0:Int32)))).2.1) ?_
 refine aB 12 5 0 b a ?_
 exact gg 6 b a hret g (by rw[j];exact ⟨rfl,N0,rfl⟩)
def WM (Z:State)(bx ma:Addr)(ka:ClassId)(w0:Int32)(h0:Heap)(n0:Nat)(v:Option Value)(h:Heap)(L:List Loc):Prop:=v=some (.int (0:Int32))∧Fr n0 L∧h=h0
theorem WO (l:Launch)(Z:State)(a0:Array Value)(hw: ∀d∈tables_1,d.before a0 Z=true)(ws:List Jvm.Cond)(bx ma:Addr)(ka:ClassId)(w0:Int32)(h0:Heap)(n0:Nat)(Z0:n0≤h0.size)(h:Old Z n0 h0)(i:fY Z h0 bx ma ka [w0]):
  bp l (⟨"java/math/BigInteger","getInt","(I)I"⟩:MethodName) (Jvm.Cond.code (⟨"java/math/BigInteger","getInt","(I)I"⟩:MethodName) jdk_2097_method_148_code 3 (some .int)::ws) ({frames:=1,cells:=0,slots:=0,locals:=14}:Room) #[(.ref bx),(.int (1:Int32))] Z h0 (WM Z bx ma ka w0 h0 n0):=by
 refine bI (plainFor_of_name gF) (fun m=>S8 m bx (1:Int32)) fun p e s m z A c s₁ hx j k n (o:s.vm.findClass "java/math/BigInteger"=some m.cls) hnm hret X0 hZ e0=> ?_
 have a:=bG hx j wJ o hZ n hw
 have N0:=Fr.nil n0
 have KP:Keep h0 h0 []:=Keep.refl _ _
 obtain ⟨q,r,t,f,B⟩:=id i
 have f:Arv Z h0 ma ka .int (1:Int32) [(.int w0)] (.int (0:Int32)):=f
 refine au 1 0 X0 a ?_
 refine bk 6 1 X0 a rfl ((if0 _ _).trans (flt (by decide: ¬((1:Int32)<(0:Int32)))).2.1) ?_
 refine au 7 4 X0 a ?_
 refine ak 8 5 X0 a ?_
 refine aE 11 6 40 X0 a e0 t fun C b g=> ?_
 refine bU 12 7 b a g f ?_
 refine bY 15 8 b a rfl (flt (by decide: ¬((1:Int32)<(1:Int32)))).1 ?_
 refine ak 16 9 b a ?_
 refine ly 19 0 0 0 0 10 192 193 195 194 24 196 b a (WK l Z a0 hw [] bx h0 n0 (Nat.le_trans Z0 KP.1) h r) DY g q fun _ D E u v=> ?_
 obtain ⟨rfl,w,x⟩:=v
 have y:=Fr.app N0 w
 refine aJ [_] ?_
 exact gg 11 u a hret k (by rw[x];exact ⟨rfl,y,rfl⟩)
def WQ (Z:State)(bx ma:Addr)(ka:ClassId)(w0:Int32)(h0:Heap)(n0:Nat)(v:Option Value)(h:Heap)(L:List Loc):Prop:=v=some (.int w0)∧Fr n0 L∧h=h0
theorem WR (l:Launch)(Z:State)(a0:Array Value)(hw: ∀d∈tables_1,d.before a0 Z=true)(ws:List Jvm.Cond)(bx ma:Addr)(ka:ClassId)(w0:Int32)(h0:Heap)(n0:Nat)(Z0:n0≤h0.size)(A:Old Z n0 h0)(o:fY Z h0 bx ma ka [w0]):
  bp l (⟨"java/math/BigInteger","getInt","(I)I"⟩:MethodName) (Jvm.Cond.code (⟨"java/math/BigInteger","getInt","(I)I"⟩:MethodName) jdk_2097_method_148_code 3 (some .int)::ws) ({frames:=1,cells:=0,slots:=0,locals:=14}:Room) #[(.ref bx),(.int (0:Int32))] Z h0 (WQ Z bx ma ka w0 h0 n0):=by
 refine bI (plainFor_of_name gF) (fun m=>S9 m bx (0:Int32)) fun p e s m B C c s₁ hx q r t (u:s.vm.findClass "java/math/BigInteger"=some m.cls) hnm hret X0 hZ e0=> ?_
 have a:=bG hx q wJ u hZ t hw
 have N0:=Fr.nil n0
 obtain ⟨D,v,i,f,E⟩:=id o
 have f:Arv Z h0 ma ka .int (1:Int32) [(.int w0)] (.int (0:Int32)):=f
 refine au 1 0 X0 a ?_
 refine bk 6 1 X0 a rfl ((if0 _ _).trans (flt (by decide: ¬((0:Int32)<(0:Int32)))).2.1) ?_
 refine au 7 4 X0 a ?_
 refine ak 8 5 X0 a ?_
 refine aE 11 6 40 X0 a e0 i fun F g k=> ?_
 refine bU 12 7 g a k f ?_
 refine bQ 20 8 g a rfl (tlt (by decide:(0:Int32)<(1:Int32))).1 ?_
 refine ak 21 12 g a ?_
 refine aE 24 13 40 g a k i fun G n w=> ?_
 refine ak 25 14 n a ?_
 refine aE 28 15 40 n a w i fun H b j=> ?_
 refine bU 29 16 b a j f ?_
 refine au 30 17 b a ?_
 refine dQ 31 18 b a (z:=(1:Int32)) ?_
 refine aB 32 19 1 b a ?_
 refine dQ 33 20 b a (z:=(0:Int32)) ?_
 refine eY 34 21 b a j f (x:=w0) ?_
 refine eO 35 22 #[_,_,_] b a ?_
 refine ak 36 23 b a ?_
 refine aE 39 24 38 b a j v fun I h y=> ?_
 refine bw 42 25 h a rfl ((if0 _ _).trans (flt (by decide: ¬((1:Int32)<(0:Int32)))).1) ?_
 refine au 43 26 h a ?_
 refine bL 62 27 h a ?_
 exact gg 38 h a hret r (by rw[y];exact ⟨rfl,N0,rfl⟩)
def WS (Z:State)(bx ma:Addr)(ka:ClassId)(w0:Int32)(h0:Heap)(n0:Nat)(v:Option Value)(h:Heap)(L:List Loc):Prop:= ∃r:Int64,v=some (.long r)∧Fr n0 L∧h=h0∧r.toInt=ah w0
theorem WU (l:Launch)(Z:State)(a0:Array Value)(hw: ∀d∈tables_1,d.before a0 Z=true)(ws:List Jvm.Cond)(bx ma:Addr)(ka:ClassId)(w0:Int32)(h0:Heap)(n0:Nat)(Z0:n0≤h0.size)(h:Old Z n0 h0)(g:fY Z h0 bx ma ka [w0]):
  bp l (⟨"java/math/BigInteger","longValue","()J"⟩:MethodName) (Jvm.Cond.code (⟨"java/math/BigInteger","longValue","()J"⟩:MethodName) jdk_2097_method_136_code 4 (some .long)::ws) ({frames:=2,cells:=0,slots:=0,locals:=34}:Room) #[(.ref bx)] Z h0 (WS Z bx ma ka w0 h0 n0):=by
 refine bI (plainFor_of_name gF) (fun m=>S_ m bx) fun p e s m z A c s₁ hx j k n (o:s.vm.findClass "java/math/BigInteger"=some m.cls) hnm hret X0 hZ e0=> ?_
 have a:=bG hx j Dp o hZ n hw
 have N0:=Fr.nil n0
 have KP:Keep h0 h0 []:=Keep.refl _ _
 obtain ⟨i,B,C,D,E⟩:=id g
 refine jl 1 0 0 X0 a ?_
 refine pY 2 1 #[_,_,_,_] X0 a ?_
 refine aB 3 2 1 X0 a ?_
 refine eO 4 3 #[_,_,_,_] X0 a ?_
 refine au 5 4 X0 a ?_
 refine bw 8 5 X0 a rfl ((if0 _ _).trans (flt (by decide: ¬((1:Int32)<(0:Int32)))).1) ?_
 refine eW 9 6 X0 a ?_
 refine bT 11 7 32 X0 a ?_
 refine kj 12 8 X0 a ?_
 refine ak 13 9 X0 a ?_
 refine au 14 10 X0 a ?_
 refine ly 17 1 2 0 0 11 187 188 190 189 24 191 X0 a (WO l Z a0 hw [] bx ma ka w0 h0 n0 (Nat.le_trans Z0 KP.1) h g) mX e0 i fun _ F G b q=> ?_
 obtain ⟨rfl,r,t⟩:=q
 have u:=Fr.app N0 r
 refine aJ [_,_] ?_
 refine bW 18 12 b a ?_
 refine bO 21 53 13 b a ?_
 refine bR 22 14 b a ?_
 refine iu 23 15 b a ?_
 refine pY 24 16 #[_,_,_,_] b a ?_
 refine dG 27 17 #[_,_,_,iv 0] b a ?_
 refine bL 4 18 b a ?_
 refine au 5 4 b a ?_
 refine bw 8 5 b a rfl ((if0 _ _).trans (flt (by decide: ¬((0:Int32)<(0:Int32)))).1) ?_
 refine eW 9 6 b a ?_
 refine bT 11 7 32 b a ?_
 refine kj 12 8 b a ?_
 refine ak 13 9 b a ?_
 refine au 14 10 b a ?_
 refine ly 17 1 2 0 0 11 187 188 190 189 24 191 b a (WR l Z a0 hw [] bx ma ka w0 h0 n0 (Nat.le_trans Z0 KP.1) h g) mX t i fun _ H I f v=> ?_
 obtain ⟨rfl,w,x⟩:=v
 have y:=Fr.app u w
 refine aJ [_,_] ?_
 refine bW 18 12 f a ?_
 refine bO 21 53 13 f a ?_
 refine bR 22 14 f a ?_
 refine iu 23 15 f a ?_
 refine pY 24 16 #[_,_,_,_] f a ?_
 refine dG 27 17 #[_,_,_,iv (-1:Int32)] f a ?_
 refine bL 4 18 f a ?_
 refine au 5 4 f a ?_
 refine bk 30 5 f a rfl ((if0 _ _).trans (tlt (by decide:(-1:Int32)<(0:Int32))).1) ?_
 refine eW 31 19 f a ?_
 exact ou 20 f a hret k (by rw[x];exact ⟨_,rfl,y,rfl,HT⟩)
def WW (Z:State)(bx ma:Addr)(ka:ClassId)(w0 w1:Int32)(h0:Heap)(n0:Nat)(v:Option Value)(h:Heap)(L:List Loc):Prop:=v=some (.int w0)∧Fr n0 L∧h=h0
theorem WX (l:Launch)(Z:State)(a0:Array Value)(hw: ∀d∈tables_1,d.before a0 Z=true)(ws:List Jvm.Cond)(bx ma:Addr)(ka:ClassId)(w0 w1:Int32)(h0:Heap)(n0:Nat)(Z0:n0≤h0.size)(y:Old Z n0 h0)(o:fY Z h0 bx ma ka [w0,w1]):
  bp l (⟨"java/math/BigInteger","getInt","(I)I"⟩:MethodName) (Jvm.Cond.code (⟨"java/math/BigInteger","getInt","(I)I"⟩:MethodName) jdk_2097_method_148_code 3 (some .int)::ws) ({frames:=1,cells:=0,slots:=0,locals:=14}:Room) #[(.ref bx),(.int (1:Int32))] Z h0 (WW Z bx ma ka w0 w1 h0 n0):=by
 refine bI (plainFor_of_name gF) (fun m=>Te m bx (1:Int32)) fun p e s m A B c s₁ hx q r t (u:s.vm.findClass "java/math/BigInteger"=some m.cls) hnm hret X0 hZ e0=> ?_
 have a:=bG hx q wJ u hZ t hw
 have N0:=Fr.nil n0
 obtain ⟨C,v,i,f,D⟩:=id o
 have f:Arv Z h0 ma ka .int (2:Int32) [(.int w0),(.int w1)] (.int (0:Int32)):=f
 refine au 1 0 X0 a ?_
 refine bk 6 1 X0 a rfl ((if0 _ _).trans (flt (by decide: ¬((1:Int32)<(0:Int32)))).2.1) ?_
 refine au 7 4 X0 a ?_
 refine ak 8 5 X0 a ?_
 refine aE 11 6 40 X0 a e0 i fun E g k=> ?_
 refine bU 12 7 g a k f ?_
 refine bQ 20 8 g a rfl (tlt (by decide:(1:Int32)<(2:Int32))).1 ?_
 refine ak 21 12 g a ?_
 refine aE 24 13 40 g a k i fun F n w=> ?_
 refine ak 25 14 n a ?_
 refine aE 28 15 40 n a w i fun G b j=> ?_
 refine bU 29 16 b a j f ?_
 refine au 30 17 b a ?_
 refine dQ 31 18 b a (z:=(1:Int32)) ?_
 refine aB 32 19 1 b a ?_
 refine dQ 33 20 b a (z:=(0:Int32)) ?_
 refine eY 34 21 b a j f (x:=w0) ?_
 refine eO 35 22 #[_,_,_] b a ?_
 refine ak 36 23 b a ?_
 refine aE 39 24 38 b a j v fun H h e255=> ?_
 refine bw 42 25 h a rfl ((if0 _ _).trans (flt (by decide: ¬((1:Int32)<(0:Int32)))).1) ?_
 refine au 43 26 h a ?_
 refine bL 62 27 h a ?_
 exact gg 38 h a hret r (by rw[e255];exact ⟨rfl,N0,rfl⟩)
def WY (Z:State)(bx ma:Addr)(ka:ClassId)(w0 w1:Int32)(h0:Heap)(n0:Nat)(v:Option Value)(h:Heap)(L:List Loc):Prop:=v=some (.int w1)∧Fr n0 L∧h=h0
theorem WZ (l:Launch)(Z:State)(a0:Array Value)(hw: ∀d∈tables_1,d.before a0 Z=true)(ws:List Jvm.Cond)(bx ma:Addr)(ka:ClassId)(w0 w1:Int32)(h0:Heap)(n0:Nat)(Z0:n0≤h0.size)(A:Old Z n0 h0)(o:fY Z h0 bx ma ka [w0,w1]):
  bp l (⟨"java/math/BigInteger","getInt","(I)I"⟩:MethodName) (Jvm.Cond.code (⟨"java/math/BigInteger","getInt","(I)I"⟩:MethodName) jdk_2097_method_148_code 3 (some .int)::ws) ({frames:=1,cells:=0,slots:=0,locals:=14}:Room) #[(.ref bx),(.int (0:Int32))] Z h0 (WY Z bx ma ka w0 w1 h0 n0):=by
 refine bI (plainFor_of_name gF) (fun m=>Tf m bx (0:Int32)) fun p e s m B C c s₁ hx q r t (u:s.vm.findClass "java/math/BigInteger"=some m.cls) hnm hret X0 hZ e0=> ?_
 have a:=bG hx q wJ u hZ t hw
 have N0:=Fr.nil n0
 obtain ⟨D,v,i,f,E⟩:=id o
 have f:Arv Z h0 ma ka .int (2:Int32) [(.int w0),(.int w1)] (.int (0:Int32)):=f
 refine au 1 0 X0 a ?_
 refine bk 6 1 X0 a rfl ((if0 _ _).trans (flt (by decide: ¬((0:Int32)<(0:Int32)))).2.1) ?_
 refine au 7 4 X0 a ?_
 refine ak 8 5 X0 a ?_
 refine aE 11 6 40 X0 a e0 i fun F g k=> ?_
 refine bU 12 7 g a k f ?_
 refine bQ 20 8 g a rfl (tlt (by decide:(0:Int32)<(2:Int32))).1 ?_
 refine ak 21 12 g a ?_
 refine aE 24 13 40 g a k i fun G n w=> ?_
 refine ak 25 14 n a ?_
 refine aE 28 15 40 n a w i fun H b j=> ?_
 refine bU 29 16 b a j f ?_
 refine au 30 17 b a ?_
 refine dQ 31 18 b a (z:=(2:Int32)) ?_
 refine aB 32 19 1 b a ?_
 refine dQ 33 20 b a (z:=(1:Int32)) ?_
 refine eY 34 21 b a j f (x:=w1) ?_
 refine eO 35 22 #[_,_,_] b a ?_
 refine ak 36 23 b a ?_
 refine aE 39 24 38 b a j v fun I h y=> ?_
 refine bw 42 25 h a rfl ((if0 _ _).trans (flt (by decide: ¬((1:Int32)<(0:Int32)))).1) ?_
 refine au 43 26 h a ?_
 refine bL 62 27 h a ?_
 exact gg 38 h a hret r (by rw[y];exact ⟨rfl,N0,rfl⟩)
def W_ (Z:State)(bx ma:Addr)(ka:ClassId)(w0 w1:Int32)(h0:Heap)(n0:Nat)(v:Option Value)(h:Heap)(L:List Loc):Prop:= ∃r:Int64,v=some (.long r)∧Fr n0 L∧h=h0∧r.toInt=(ah w0*4294967296+ah w1)
theorem Xf (l:Launch)(Z:State)(a0:Array Value)(hw: ∀d∈tables_1,d.before a0 Z=true)(ws:List Jvm.Cond)(bx ma:Addr)(ka:ClassId)(w0 w1:Int32)(h0:Heap)(n0:Nat)(Z0:n0≤h0.size)(h:Old Z n0 h0)(g:fY Z h0 bx ma ka [w0,w1])(j:ah w0*4294967296+ah w1<9007199254740992):
  bp l (⟨"java/math/BigInteger","longValue","()J"⟩:MethodName) (Jvm.Cond.code (⟨"java/math/BigInteger","longValue","()J"⟩:MethodName) jdk_2097_method_136_code 4 (some .long)::ws) ({frames:=2,cells:=0,slots:=0,locals:=34}:Room) #[(.ref bx)] Z h0 (W_ Z bx ma ka w0 w1 h0 n0):=by
 refine bI (plainFor_of_name gF) (fun m=>Tg m bx) fun p e s m A B c s₁ hx k n o (q:s.vm.findClass "java/math/BigInteger"=some m.cls) hnm hret X0 hZ e0=> ?_
 have a:=bG hx k Dp q hZ o hw
 have N0:=Fr.nil n0
 have KP:Keep h0 h0 []:=Keep.refl _ _
 obtain ⟨i,C,D,E,F⟩:=id g
 refine jl 1 0 0 X0 a ?_
 refine pY 2 1 #[_,_,_,_] X0 a ?_
 refine aB 3 2 1 X0 a ?_
 refine eO 4 3 #[_,_,_,_] X0 a ?_
 refine au 5 4 X0 a ?_
 refine bw 8 5 X0 a rfl ((if0 _ _).trans (flt (by decide: ¬((1:Int32)<(0:Int32)))).1) ?_
 refine eW 9 6 X0 a ?_
 refine bT 11 7 32 X0 a ?_
 refine kj 12 8 X0 a ?_
 refine ak 13 9 X0 a ?_
 refine au 14 10 X0 a ?_
 refine ly 17 1 2 0 0 11 187 188 190 189 24 191 X0 a (WX l Z a0 hw [] bx ma ka w0 w1 h0 n0 (Nat.le_trans Z0 KP.1) h g) mX e0 i fun _ G H b r=> ?_
 obtain ⟨rfl,t,u⟩:=r
 have v:=Fr.app N0 t
 refine aJ [_,_] ?_
 refine bW 18 12 b a ?_
 refine bO 21 53 13 b a ?_
 refine bR 22 14 b a ?_
 refine iu 23 15 b a ?_
 refine pY 24 16 #[_,_,_,_] b a ?_
 refine dG 27 17 #[_,_,_,iv 0] b a ?_
 refine bL 4 18 b a ?_
 refine au 5 4 b a ?_
 refine bw 8 5 b a rfl ((if0 _ _).trans (flt (by decide: ¬((0:Int32)<(0:Int32)))).1) ?_
 refine eW 9 6 b a ?_
 refine bT 11 7 32 b a ?_
 refine kj 12 8 b a ?_
 refine ak 13 9 b a ?_
 refine au 14 10 b a ?_
 refine ly 17 1 2 0 0 11 187 188 190 189 24 191 b a (WZ l Z a0 hw [] bx ma ka w0 w1 h0 n0 (Nat.le_trans Z0 KP.1) h g) mX u i fun _ I J f w=> ?_
 obtain ⟨rfl,x,y⟩:=w
 have z:=Fr.app v x
 refine aJ [_,_] ?_
 refine bW 18 12 f a ?_
 refine bO 21 53 13 f a ?_
 refine bR 22 14 f a ?_
 refine iu 23 15 f a ?_
 refine pY 24 16 #[_,_,_,_] f a ?_
 refine dG 27 17 #[_,_,_,iv (-1:Int32)] f a ?_
 refine bL 4 18 f a ?_
 refine au 5 4 f a ?_
 refine bk 30 5 f a rfl ((if0 _ _).trans (tlt (by decide:(-1:Int32)<(0:Int32))).1) ?_
 refine eW 31 19 f a ?_
 exact ou 20 f a hret n (by rw[y];exact ⟨_,rfl,z,rfl,HO j⟩)
def Xg (Z:State)(mb a:Addr)(ka:ClassId)(h0:Heap)(n0:Nat)(v:Option Value)(h:Heap)(L:List Loc):Prop:=v=none∧Fr n0 L∧Keep h0 h [mb,a]∧Exa Z h mb "java/math/MutableBigInteger"∧Fld Z h mb "java/math/MutableBigInteger" "offset" "I" (.int (0:Int32))∧Fld Z h mb "java/math/MutableBigInteger" "value" "[I" (.ref a)∧Fld Z h mb "java/math/MutableBigInteger" "intLen" "I" (.int (0:Int32))∧Arv Z h a ka .int (1:Int32) [(.int (0:Int32))] (.int (0:Int32))
theorem Xh (l:Launch)(Z:State)(a0:Array Value)(hw: ∀d∈tables_1,d.before a0 Z=true)(ws:List Jvm.Cond)(mb a:Addr)(ka:ClassId)(h0:Heap)(n0:Nat)(Z0:n0≤h0.size)(W:Old Z n0 h0)(oo ll y:Int32)(A:n0≤mb)(F:n0≤a)(v:mb≠a)(f:Exa Z h0 mb "java/math/MutableBigInteger")(h:Fld Z h0 mb "java/math/MutableBigInteger" "offset" "I" (.int oo))(g:Fld Z h0 mb "java/math/MutableBigInteger" "value" "[I" (.ref a))(j:Fld Z h0 mb "java/math/MutableBigInteger" "intLen" "I" (.int ll))(n:Arv Z h0 a ka .int (1:Int32) [(.int y)] (.int (0:Int32))):
  bp l (⟨"java/math/MutableBigInteger","clear","()V"⟩:MethodName) (Jvm.Cond.code (⟨"java/math/MutableBigInteger","clear","()V"⟩:MethodName) jdk_2101_method_13_code 3 none::ws) ({frames:=0,cells:=0,slots:=0,locals:=0}:Room) #[(.ref mb)] Z h0 (Xg Z mb a ka h0 n0):=by
 refine bI (plainFor_of_name jy) (fun m=>Ti m mb) fun p e s m X Y c s₁ hx B G H (I:s.vm.findClass "java/math/MutableBigInteger"=some m.cls) hnm hret X0 hZ e0=> ?_
 have D:=fj B Dq
 have b:=bG hx B Dq I hZ H hw
 have N0:=Fr.nil n0
 have KP:Keep h0 h0 [mb,a]:=Keep.refl _ _
 refine ak 1 0 X0 b ?_
 refine ak 2 1 X0 b ?_
 refine aB 3 2 0 X0 b ?_
 refine aG (T':=s₁) (mkF m 4 #[rv mb,.unset,.unset] [(.int (0:Int32)),(.ref mb),(.int (0:Int32)),(.ref mb)]) (fun _ k=>XS.dupX1 X0.here hx rfl (D 3 rfl) rfl rfl rfl k) ?_
 refine fh 7 4 113 102 X0 b e0 j f (Or.inl (aj hw 114 rfl)) (ty:= .int) fun ad J C K r=> ?_
 have L:=Fr.snoc C N0 A
 have M:Fld Z J mb "java/math/MutableBigInteger" "intLen" "I" (.int (0:Int32)):=j.same r
 have KP:=KP.wr r (Or.inl (List.mem_of_getElem? (i:=0) rfl))
 have f:=f.wr r
 have h:=h.other r (Or.inr (slot_ne (Or.inl (aj hw 110 rfl)) (Or.inl (aj hw 114 rfl)) (by decide) (t:= .int) (t':= .int) (by decide) (by decide)))
 have g:=g.other r (Or.inr (slot_ne (Or.inl (aj hw 112 rfl)) (Or.inl (aj hw 114 rfl)) (by decide) (t:=(.array .int)) (t':= .int) (by decide) (by decide)))
 have n:=n.other r (Ne.symm v)
 have j:=M
 refine fh 10 5 109 102 C b K h f (Or.inl (aj hw 110 rfl)) (ty:= .int) fun ae N w O u=> ?_
 have P:=Fr.snoc w L A
 have Q:Fld Z N mb "java/math/MutableBigInteger" "offset" "I" (.int (0:Int32)):=h.same u
 have KP:=KP.wr u (Or.inl (List.mem_of_getElem? (i:=0) rfl))
 have f:=f.wr u
 have g:=g.other u (Or.inr (slot_ne (Or.inl (aj hw 112 rfl)) (Or.inl (aj hw 110 rfl)) (by decide) (t:=(.array .int)) (t':= .int) (by decide) (by decide)))
 have j:=j.other u (Or.inr (slot_ne (Or.inl (aj hw 114 rfl)) (Or.inl (aj hw 110 rfl)) (by decide) (t:= .int) (t':= .int) (by decide) (by decide)))
 have n:=n.other u (Ne.symm v)
 have h:=Q
 refine aB 11 6 0 w b ?_
 refine eO 12 7 #[_,_,_] w b ?_
 refine ak 13 8 w b ?_
 refine aE 16 9 111 w b O g fun af o E=> ?_
 refine bU 17 10 o b E n ?_
 refine eO 18 11 #[_,_,_] o b ?_
 refine au 19 12 o b ?_
 refine au 20 13 o b ?_
 refine bY 23 14 o b rfl (tlt (by decide:(0:Int32)<(1:Int32))).2.1 ?_
 refine ak 24 15 o b ?_
 refine aE 27 16 111 o b E g fun ag z R=> ?_
 refine au 28 17 z b ?_
 refine aB 29 18 0 z b ?_
 refine iY 30 0 19 z b R n fun ai S q T x U=> ?_
 have V:=Fr.snoc q P F
 have KP:=KP.wr x (Or.inl (List.mem_of_getElem? (i:=1) rfl))
 have f:=f.wr x
 have h:=h.other x (Or.inl v)
 have g:=g.other x (Or.inl v)
 have j:=j.other x (Or.inl v)
 have n:Arv Z S a ka .int (1:Int32) [(.int (0:Int32))] (.int (0:Int32)):=U
 refine dG 33 20 #[_,iv 1,_] q b ?_
 refine bL 18 21 q b ?_
 refine au 19 12 q b ?_
 refine au 20 13 q b ?_
 refine bQ 36 14 q b rfl (flt (by decide: ¬((1:Int32)<(1:Int32)))).2.1 ?_
 exact jE 22 q b hret G (by rw[T];exact ⟨rfl,V,KP,f,h,g,j,n⟩)
def zu (Z:State)(ra:Addr)(kr:ClassId)(zz:Int32)(f:Nat→Int32)(a dl xq:Int32)(k:Nat)(h0:Heap)(n0:Nat)(v:Option Value)(h:Heap)(L:List Loc):Prop:= ∃b' c' r:Int32,v=some (.int r)∧Fr n0 L∧Keep h0 h [ra]∧bM Z h ra kr zz (fJ (fJ f (k+2) c') (k+1) b')∧vV (f (k+1)) (f (k+2)) a dl xq b' c' r
theorem Ew (l:Launch)(Z:State)(a0:Array Value)(hw: ∀d∈tables_1,d.before a0 Z=true)(ws:List Jvm.Cond)(mb ra:Addr)(kr:ClassId)(zz:Int32)(f:Nat→Int32)(da:Addr)(kd:ClassId)(r dl xq h:Int32)(k:Nat)(h0:Heap)(n0:Nat)(Z0:n0≤h0.size)(OL:Old Z n0 h0)(w:n0≤ra)(G:da≠ra)(j:bM Z h0 ra kr zz f)(t:Arv Z h0 da kd .int (2:Int32) [(.int r),(.int dl)] (.int (0:Int32)))(hk:h.toInt=k)(hz:((k+2:Nat):Int)<zz.toInt):
  bp l (⟨"java/math/MutableBigInteger","mulsub","([I[IIII)I"⟩:MethodName) (Jvm.Cond.code (⟨"java/math/MutableBigInteger","mulsub","([I[IIII)I"⟩:MethodName) jdk_2101_method_39_code 15 (some .int)::ws) ({frames:=0,cells:=0,slots:=0,locals:=0}:Room) #[(.ref mb),(.ref ra),(.ref da),(.int xq),(.int (2:Int32)),(.int h)] Z h0 (zu Z ra kr zz f r dl xq k h0 n0):=by
 refine bI (plainFor_of_name jy) (fun m=>Tj m mb ra da xq (2:Int32) h) fun p e s m y al c s₁ hx A H I (J:s.vm.findClass "java/math/MutableBigInteger"=some m.cls) hnm hret X0 hZ e0=> ?_
 have D:=fj A Ds
 have a:=bG hx A Ds J hZ I hw
 have N0:=Fr.nil n0
 have KP:Keep h0 h0 [ra]:=Keep.refl _ _
 refine au 1 0 X0 a ?_
 refine bW 2 1 X0 a ?_
 refine bO 5 214 2 X0 a ?_
 refine bR 6 3 X0 a ?_
 generalize K:((xq.toInt64)&&&(4294967295:Int64))=xl
 have i2:=pE (c:=2) (n:=2) hk rfl hz
 have i1:=yM (k:=k+1) i2
 refine dN 8 4 #[_,_,_,_,_,_,_,_,_,_,_,_,_,_,_] X0 a ?_
 refine jl 9 5 0 X0 a ?_
 refine dN 11 6 #[_,_,_,_,_,_,_,_,_,_,_,_,_,_,_] X0 a ?_
 refine aq 13 7 X0 a ?_
 refine aq 15 8 X0 a ?_
 refine bJ 16 9 X0 a ?_
 refine bh 18 10 #[_,_,_,_,_,_,_,_,_,_,_,_,_,_,_] X0 a ?_
 refine aq 20 11 X0 a ?_
 refine aB 21 12 1 X0 a ?_
 refine dQ 22 13 X0 a (z:=(1:Int32)) ?_
 refine bh 24 14 #[_,_,_,_,_,_,_,_,_,_,_,_,_,_,_] X0 a ?_
 refine aq 26 15 X0 a ?_
 refine bw 29 16 X0 a rfl ((if0 _ _).trans (flt (by decide: ¬((1:Int32)<(0:Int32)))).1) ?_
 refine ak 30 17 X0 a ?_
 refine aq 32 18 X0 a ?_
 refine eY 33 19 X0 a e0 t (x:=dl) ?_
 refine bW 34 20 X0 a ?_
 refine bO 37 214 21 X0 a ?_
 refine bR 38 22 X0 a ?_
 refine aI 40 23 X0 a ?_
 refine jA 41 24 X0 a ?_
 refine aI 43 25 X0 a ?_
 refine iu 44 26 X0 a ?_
 generalize L:((((dl.toInt64)&&&(4294967295:Int64))*xl)+(0:Int64))=pr1
 refine dN 46 27 #[_,_,_,_,_,_,_,_,_,_,_,_,_,_,_] X0 a ?_
 refine ak 47 28 X0 a ?_
 refine aq 49 29 X0 a ?_
 refine jB 50 (k+2) X0 hx hZ e0 j i2 hz (D 30 rfl) rfl ?_
 refine bW 51 31 X0 a ?_
 refine aI 53 32 X0 a ?_
 refine mK 54 33 X0 a ?_
 generalize M:(((f (k+2)).toInt64)-pr1)=u
 refine dN 56 34 #[_,_,_,_,_,_,_,_,_,_,_,_,_,_,_] X0 a ?_
 refine ak 57 35 X0 a ?_
 refine aq 59 36 X0 a ?_
 refine dG 62 37 #[_,_,_,_,_,iv ((h+(2:Int32))+(-1:Int32)),_,_,_,_,_,_,_,_,_] X0 a ?_
 refine aI 64 38 X0 a ?_
 refine gn 65 39 X0 a ?_
 refine jW 66 (k+2) X0 hx hZ e0 j i2 hz (D 40 rfl) rfl fun N am b v B O=> ?_
 have P:=Fr.snoc b N0 w
 have KP:=KP.wr B (Or.inl (List.mem_of_getElem? (i:=0) rfl))
 have t:=t.other B G
 have j:=O
 refine aI 68 41 b a ?_
 refine bT 70 42 32 b a ?_
 refine jD 71 43 b a ?_
 refine aI 73 44 b a ?_
 refine bO 76 214 45 b a ?_
 refine bR 77 46 b a ?_
 refine aI 79 47 b a ?_
 refine gn 80 48 b a ?_
 refine aB 81 49 (-1) b a ?_
 refine yJ 82 50 b a ?_
 refine bW 83 51 b a ?_
 refine bO 86 214 52 b a ?_
 refine bR 87 53 b a ?_
 refine iq 88 54 b a ?_
 suffices C: ∀g1:Int32,((0:Int32)<(lcmpW (u&&&(4294967295:Int64)) ((((pr1.toInt32)^^^(-1:Int32)).toInt64)&&&(4294967295:Int64)))→g1=(1:Int32))→(¬(0:Int32)<(lcmpW (u&&&(4294967295:Int64)) ((((pr1.toInt32)^^^(-1:Int32)).toInt64)&&&(4294967295:Int64)))→g1=(0:Int32))→ay p e y (gb s (zu Z ra kr zz f r dl xq k h0 n0) ({frames:=0,cells:=0,slots:=0,locals:=0}:Room).cells ({frames:=0,cells:=0,slots:=0,locals:=0}:Room).slots) N (mkF m 96 #[rv mb,rv ra,rv da,iv xq,iv 2,iv ((h+(2:Int32))+(-1:Int32)),.val (.long xl),.second,.val (.long (0:Int64)),.second,iv 1,.val (.long pr1),.second,.val (.long u),.second] [(.int g1),(.long ((pr1.toUInt64>>>((32:Int32)&&&0x3f).toInt64.toUInt64).toInt64))]) from by
  by_cases hj1:(0:Int32)<(lcmpW (u&&&(4294967295:Int64)) ((((pr1.toInt32)^^^(-1:Int32)).toInt64)&&&(4294967295:Int64)))
  ·refine bw 91 55 b a rfl ((if0 _ _).trans (tlt hj1).2.2.2) ?_
   refine aB 92 56 1 b a ?_
   refine bL 96 57 b a ?_
   exact C (1:Int32) (fun _=>rfl) (fun q=>absurd hj1 q)
  ·refine bk 95 55 b a rfl ((if0 _ _).trans (flt hj1).2.2.2) ?_
   refine aB 96 58 0 b a ?_
   exact C (0:Int32) (fun q=>absurd q hj1) (fun _=>rfl)
 intro g1 Q R
 refine bW 97 59 b a ?_
 refine iu 98 60 b a ?_
 generalize S:(((pr1.toUInt64>>>((32:Int32)&&&0x3f).toInt64.toUInt64).toInt64)+(g1.toInt64))=E
 refine dN 100 61 #[_,_,_,_,_,_,_,_,_,_,_,_,_,_,_] b a ?_
 refine dG 103 62 #[_,_,_,_,_,_,_,_,_,_,iv 0,_,_,_,_] b a ?_
 refine bL 24 63 b a ?_
 refine aq 26 15 b a ?_
 refine bw 29 16 b a rfl ((if0 _ _).trans (flt (by decide: ¬((0:Int32)<(0:Int32)))).1) ?_
 refine ak 30 17 b a ?_
 refine aq 32 18 b a ?_
 refine eY 33 19 b a v t (x:=r) ?_
 refine bW 34 20 b a ?_
 refine bO 37 214 21 b a ?_
 refine bR 38 22 b a ?_
 refine aI 40 23 b a ?_
 refine jA 41 24 b a ?_
 refine aI 43 25 b a ?_
 refine iu 44 26 b a ?_
 generalize T:((((r.toInt64)&&&(4294967295:Int64))*xl)+E)=o
 refine dN 46 27 #[_,_,_,_,_,_,_,_,_,_,_,_,_,_,_] b a ?_
 refine ak 47 28 b a ?_
 refine aq 49 29 b a ?_
 refine jB 50 (k+1) b hx hZ v j i1 (Int.lt_trans (Int.ofNat_lt.mpr (Nat.lt_succ_self (k+1))) hz) (D 30 rfl) rfl ?_
 rw[qT (f:=f) (by omega: ¬k+1=k+2)]
 refine bW 51 31 b a ?_
 refine aI 53 32 b a ?_
 refine mK 54 33 b a ?_
 generalize U:(((f (k+1)).toInt64)-o)=df2
 refine dN 56 34 #[_,_,_,_,_,_,_,_,_,_,_,_,_,_,_] b a ?_
 refine ak 57 35 b a ?_
 refine aq 59 36 b a ?_
 refine dG 62 37 #[_,_,_,_,_,iv (((h+(2:Int32))+(-1:Int32))+(-1:Int32)),_,_,_,_,_,_,_,_,_] b a ?_
 refine aI 64 38 b a ?_
 refine gn 65 39 b a ?_
 refine jW 66 (k+1) b hx hZ v j i1 (Int.lt_trans (Int.ofNat_lt.mpr (Nat.lt_succ_self (k+1))) hz) (D 40 rfl) rfl fun V ao g W X Y=> ?_
 have ad:=Fr.snoc g P w
 have KP:=KP.wr X (Or.inl (List.mem_of_getElem? (i:=0) rfl))
 have j:=Y
 refine aI 68 41 g a ?_
 refine bT 70 42 32 g a ?_
 refine jD 71 43 g a ?_
 refine aI 73 44 g a ?_
 refine bO 76 214 45 g a ?_
 refine bR 77 46 g a ?_
 refine aI 79 47 g a ?_
 refine gn 80 48 g a ?_
 refine aB 81 49 (-1) g a ?_
 refine yJ 82 50 g a ?_
 refine bW 83 51 g a ?_
 refine bO 86 214 52 g a ?_
 refine bR 87 53 g a ?_
 refine iq 88 54 g a ?_
 suffices F: ∀g2:Int32,((0:Int32)<(lcmpW (df2&&&(4294967295:Int64)) ((((o.toInt32)^^^(-1:Int32)).toInt64)&&&(4294967295:Int64)))→g2=(1:Int32))→(¬(0:Int32)<(lcmpW (df2&&&(4294967295:Int64)) ((((o.toInt32)^^^(-1:Int32)).toInt64)&&&(4294967295:Int64)))→g2=(0:Int32))→ay p e y (gb s (zu Z ra kr zz f r dl xq k h0 n0) ({frames:=0,cells:=0,slots:=0,locals:=0}:Room).cells ({frames:=0,cells:=0,slots:=0,locals:=0}:Room).slots) V (mkF m 96 #[rv mb,rv ra,rv da,iv xq,iv 2,iv (((h+(2:Int32))+(-1:Int32))+(-1:Int32)),.val (.long xl),.second,.val (.long E),.second,iv 0,.val (.long o),.second,.val (.long df2),.second] [(.int g2),(.long ((o.toUInt64>>>((32:Int32)&&&0x3f).toInt64.toUInt64).toInt64))]) from by
  by_cases hj2:(0:Int32)<(lcmpW (df2&&&(4294967295:Int64)) ((((o.toInt32)^^^(-1:Int32)).toInt64)&&&(4294967295:Int64)))
  ·refine bw 91 55 g a rfl ((if0 _ _).trans (tlt hj2).2.2.2) ?_
   refine aB 92 56 1 g a ?_
   refine bL 96 57 g a ?_
   exact F (1:Int32) (fun _=>rfl) (fun q=>absurd hj2 q)
  ·refine bk 95 55 g a rfl ((if0 _ _).trans (flt hj2).2.2.2) ?_
   refine aB 96 58 0 g a ?_
   exact F (0:Int32) (fun q=>absurd q hj2) (fun _=>rfl)
 intro g2 ae af
 refine bW 97 59 g a ?_
 refine iu 98 60 g a ?_
 generalize ag:(((o.toUInt64>>>((32:Int32)&&&0x3f).toInt64.toUInt64).toInt64)+(g2.toInt64))=av
 have hxl:xl.toInt=ah xq:=K▸ij xq
 have M1:=Bq hxl (aW xq) sG L M Q R S
 have M2:=Bq hxl (aW xq) M1.2 T U ae af ag
 refine dN 100 61 #[_,_,_,_,_,_,_,_,_,_,_,_,_,_,_] g a ?_
 refine dG 103 62 #[_,_,_,_,_,_,_,_,_,_,iv (-1:Int32),_,_,_,_] g a ?_
 refine bL 24 63 g a ?_
 refine aq 26 15 g a ?_
 refine bk 106 16 g a rfl ((if0 _ _).trans (tlt (by decide:(-1:Int32)<(0:Int32))).1) ?_
 refine aI 108 64 g a ?_
 refine gn 109 65 g a ?_
 exact gg 66 g a hret H (by rw[W];exact ⟨_,_,_,rfl,ad,KP,j,Il hxl M1 M2⟩)
def zw (h0:Heap)(n0:Nat)(qx b da rm ra qa:Addr)(a:Int32)(c:Int64):Prop:=n0≤rm∧n0≤ra∧n0≤qx∧n0≤qa∧h0.size≤rm∧h0.size≤ra∧(qa∈ [qx,b]∨h0.size≤qa)∧rm≠ra∧da≠ra∧qx≠ra∧qa≠ra∧rm≠qa∧da≠qa∧qx≠qa∧qx≠rm∧da≠rm∧qa≠rm∧2147483648≤ah a∧c.toInt=ah a
def qJ (Z:State)(h0:Heap)(n0:Nat)(mb qx a da rm ra qa:Addr)(kd kr kq:ClassId)(lim ll b dl zr c:Int32)(h:Heap)(f g:Nat→Int32):Prop:=Old Z n0 h∧Keep h0 h [qx,a]∧Exa Z h mb "java/math/MutableBigInteger"∧Exa Z h rm "java/math/MutableBigInteger"∧Fld Z h rm "java/math/MutableBigInteger" "offset" "I" (.int (0:Int32))∧Fld Z h rm "java/math/MutableBigInteger" "value" "[I" (.ref ra)∧Fld Z h rm "java/math/MutableBigInteger" "intLen" "I" (.int ll)∧Exa Z h ra "[I"∧bM Z h ra kr zr f∧Arv Z h da kd .int (2:Int32) [(.int b),(.int dl)] (.int (0:Int32))∧Exa Z h qx "java/math/MutableBigInteger"∧Fld Z h qx "java/math/MutableBigInteger" "offset" "I" (.int (0:Int32))∧Fld Z h qx "java/math/MutableBigInteger" "value" "[I" (.ref qa)∧Fld Z h qx "java/math/MutableBigInteger" "intLen" "I" (.int lim)∧Exa Z h qa "[I"∧bM Z h qa kq c g
theorem zD (l:Launch)(Z:State)(a0:Array Value)(hw: ∀d∈tables_1,d.before a0 Z=true)(p:Program)(e:Env)(s:State)(m:MethodId)(L:List Frame)(aA:Method)(c:Code)(Fn:Outcome→State→Prop)(hx:p.tables.exec=Jvm.exec)(a_:c.code=jdk_2101_method_65_code)(bE:c.maxLocals=28)(bF:s.vm.findClass "java/math/MutableBigInteger"=some m.cls)(hZ:Z.Warmed39 s.vm)(h0:Heap)(n0:Nat)(Z0:n0≤h0.size)(mb dv qx qz da rm ra qa:Addr)(kd kr kq:ClassId)(sh nl lim ll o dl zr zq:Int32)(q:Int64)(G H:Nat)(hkc:G≤4)(hks:H≤24)(j j1:Int32)(k:Nat)(f g:Nat→Int32)(g16:Slot)(g17:Slot)(g18:Slot)(g19:Slot)(g20:Slot)(V:Slot)(g22:Slot)(g23:Slot)(g24:Slot)(g25:Slot)(y:Slot)(g27:Slot)(T0:State)(h1:Heap)(a':List Loc)(X0:Stand p l e ({frames:=3,cells:=4,slots:=24,locals:=60}:Room) s m #[.ref mb,.ref dv,.ref qx,.int 1] L aA c T0 a' G H)(e0:T0.heap=h1)(N0:Fr n0 a')(C:zw h0 n0 qx qz da rm ra qa o q)(S0:qJ Z h0 n0 mb qx qz da rm ra qa kd kr kq lim ll o dl zr zq h1 f g)(c16:i_ g16)(c17:i_ g17)(c18:i_ g18)(c19:i_ g19)(c20:i_ g20)(WF:jG V g22 g23 g24 g25 y g27)(hk:j.toInt=k)(hj1:j+1=j1)(hz:((k+2:Nat):Int)<zr.toInt)(bH:(k:Int)<zq.toInt)(hg:g k=0)(hn:ah (f k)*4294967296+ah (f (k+1))<ah o*4294967296+ah dl)
  (K: ∀(T':State) (h':Heap) (L':List Loc) (w16:Slot) (bb:Slot) (bd:Slot) (be:Slot) (bf:Slot) (bg:Slot) (bj:Slot) (bl:Slot) (bm:Slot) (bn:Slot) (bo:Slot) (bq:Slot) (qd b' c':Int32),Stand p l e ({frames:=3,cells:=4,slots:=24,locals:=60}:Room) s m #[.ref mb,.ref dv,.ref qx,.int 1] L aA c T' L' G H→T'.heap=h'→Fr n0 L'→qJ Z h0 n0 mb qx qz da rm ra qa kd kr kq lim ll o dl zr zq h' (fJ (fJ (fJ f k 0) (k+2) c') (k+1) b') (fJ g k qd)→i_ w16→i_ bb→i_ bd→i_ be→i_ bf→jG bg bj bl bm bn bo bq→vF (f k) (f (k+1)) (f (k+2)) o dl qd b' c'→ay p e L Fn T' (mkF m 423 #[rv mb,rv dv,rv qx,iv 1,iv sh,iv 2,rv da,rv rm,iv nl,iv lim,rv qa,iv o,.val (.long q),.second,iv dl,iv j1,w16,bb,bd,be,bf,bg,bj,bl,bm,bn,bo,bq] [])):ay p e L Fn T0 (mkF m 432 #[rv mb,rv dv,rv qx,iv 1,iv sh,iv 2,rv da,rv rm,iv nl,iv lim,rv qa,iv o,.val (.long q),.second,iv dl,iv j,g16,g17,g18,g19,g20,V,g22,g23,g24,g25,y,g27] []):=by
 obtain ⟨cA,aC,cB,br,cC,bt,bK,W,aN,X,aO,aP,bN,aQ,cD,cE,cF,ad,hdl⟩:=C
 obtain ⟨z,KP,B,M,v,w,N,O,E,I,P,Q,R,S,T,U⟩:=S0
 have D:=fj a_ rP
 have a:=bG hx a_ rP bF hZ bE hw
 have hdn:q≠0:=Bt hdl ad
 have i0:=pE (c:=0) (n:=0) hk rfl (oz hz 2)
 have i1:=pE (c:=0) (n:=0) (pE (c:=1) (n:=1) hk rfl (oz hz 1)) rfl (oz hz 1)
 have i2:=pE (c:=0) (n:=0) (pE (c:=2) (n:=2) hk rfl hz) rfl hz
 refine aB 433 226 0 X0 a ?_
 refine ku 435 16 #[rv mb,rv dv,rv qx,iv 1,iv sh,iv 2,rv da,rv rm,iv nl,iv lim,rv qa,iv o,.val (.long q),.second,iv dl,iv j,iv 0,g17,g18,g19,g20,V,g22,g23,g24,g25,y,g27] X0 hx (D 227 rfl) rfl c16 rfl rfl ?_
 refine aB 436 228 0 X0 a ?_
 refine ku 438 17 #[rv mb,rv dv,rv qx,iv 1,iv sh,iv 2,rv da,rv rm,iv nl,iv lim,rv qa,iv o,.val (.long q),.second,iv dl,iv j,iv 0,iv 0,g18,g19,g20,V,g22,g23,g24,g25,y,g27] X0 hx (D 229 rfl) rfl c17 rfl rfl ?_
 refine aB 439 230 0 X0 a ?_
 refine ku 441 18 #[rv mb,rv dv,rv qx,iv 1,iv sh,iv 2,rv da,rv rm,iv nl,iv lim,rv qa,iv o,.val (.long q),.second,iv dl,iv j,iv 0,iv 0,iv 0,g19,g20,V,g22,g23,g24,g25,y,g27] X0 hx (D 231 rfl) rfl c18 rfl rfl ?_
 refine aR 443 232 X0 a ?_
 refine aE 446 233 111 X0 a e0 w fun cG aS bP=> ?_
 refine aq 448 234 aS a ?_
 refine aR 450 235 aS a ?_
 refine aE 453 236 109 aS a bP v fun cH J bu=> ?_
 refine bJ 454 237 J a ?_
 refine jB 455 k J hx hZ bu E i0 (oz hz 2) (D 238 rfl) rfl ?_
 refine ku 457 19 #[rv mb,rv dv,rv qx,iv 1,iv sh,iv 2,rv da,rv rm,iv nl,iv lim,rv qa,iv o,.val (.long q),.second,iv dl,iv j,iv 0,iv 0,iv 0,iv (f k),g20,V,g22,g23,g24,g25,y,g27] J hx (D 239 rfl) rfl c19 rfl rfl ?_
 refine aq 459 240 J a ?_
 refine mQ 461 230 241 J a ?_
 refine bJ 462 242 J a ?_
 refine ku 464 20 #[rv mb,rv dv,rv qx,iv 1,iv sh,iv 2,rv da,rv rm,iv nl,iv lim,rv qa,iv o,.val (.long q),.second,iv dl,iv j,iv 0,iv 0,iv 0,iv (f k),iv ((f k)+(-2147483648:Int32)),V,g22,g23,g24,g25,y,g27] J hx (D 243 rfl) rfl c20 rfl rfl ?_
 refine aR 466 244 J a ?_
 refine aE 469 245 111 J a bu w fun cI ae bS=> ?_
 refine aq 471 246 ae a ?_
 refine aB 472 247 1 ae a ?_
 refine bJ 473 248 ae a ?_
 refine aR 475 249 ae a ?_
 refine aE 478 250 109 ae a bS v fun bV b af=> ?_
 refine bJ 479 251 b a ?_
 refine jB 480 (k+1) b hx hZ af E i1 (oz hz 1) (D 252 rfl) rfl ?_
 refine AK 482 b hx (D 253 rfl) WF rfl fun g22 WF=> ?_
 refine aq 484 254 b a ?_
 refine aq 486 255 b a ?_
 suffices jn: ∀(aD:State) (aT:List Loc),Stand p l e ({frames:=3,cells:=4,slots:=24,locals:=60}:Room) s m #[.ref mb,.ref dv,.ref qx,.int 1] L aA c aD aT G H→Fr n0 aT→aD.heap=h1→ ∀(qh qr sk:Int32) (ag ai al am y26 ao:Slot),jG (iv (f (k+1))) ag ai al am y26 ao→mW (f k) (f (k+1)) o dl qh qr sk→ay p e L Fn aD (mkF m 591 #[rv mb,rv dv,rv qx,iv 1,iv sh,iv 2,rv da,rv rm,iv nl,iv lim,rv qa,iv o,.val (.long q),.second,iv dl,iv j,iv qh,iv qr,iv sk,iv (f k),iv ((f k)+(-2147483648:Int32)),iv (f (k+1)),ag,ai,al,am,y26,ao] []) from by
  by_cases hab:(f k)=o
  ·refine bY 489 256 b a rfl (teq hab).2 ?_
   refine aB 490 257 (-1) b a ?_
   refine bh 492 258 #[_,_,_,_,_,_,_,_,_,_,_,_,_,_,_,_,_,_,_,_,_,_,_,_,_,_,_,_] b a ?_
   refine aq 494 259 b a ?_
   refine aq 496 260 b a ?_
   refine bJ 497 261 b a ?_
   refine bh 499 262 #[_,_,_,_,_,_,_,_,_,_,_,_,_,_,_,_,_,_,_,_,_,_,_,_,_,_,_,_] b a ?_
   refine aq 501 263 b a ?_
   refine mQ 503 230 264 b a ?_
   refine bJ 504 265 b a ?_
   refine aq 506 266 b a ?_
   by_cases hov:(((f k)+(f (k+1)))+(-2147483648:Int32))<((f k)+(-2147483648:Int32))
   ·refine bY 509 267 b a rfl (tlt hov).2.1 ?_
    refine aB 510 268 1 b a ?_
    refine bL 514 269 b a ?_
    refine bh 516 271 #[_,_,_,_,_,_,_,_,_,_,_,_,_,_,_,_,_,_,_,_,_,_,_,_,_,_,_,_] b a ?_
    refine bL 591 272 b a ?_
    exact jn _ _ b N0 af _ _ _ _ _ _ _ _ _ WF ((vJ hab hn).1 hov)
   ·refine bQ 513 267 b a rfl (flt hov).2.1 ?_
    refine aB 514 270 0 b a ?_
    refine bh 516 271 #[_,_,_,_,_,_,_,_,_,_,_,_,_,_,_,_,_,_,_,_,_,_,_,_,_,_,_,_] b a ?_
    refine bL 591 272 b a ?_
    exact jn _ _ b N0 af _ _ _ _ _ _ _ _ _ WF ((vJ hab hn).2 hov)
  ·refine bQ 519 256 b a rfl (feq hab).2 ?_
   have hlt:=AU hn hab
   refine aq 521 273 b a ?_
   refine bW 522 274 b a ?_
   refine bT 524 275 32 b a ?_
   refine kj 525 276 b a ?_
   refine aq 527 277 b a ?_
   refine bW 528 278 b a ?_
   refine bO 531 214 279 b a ?_
   refine bR 532 280 b a ?_
   refine ot 533 281 b a ?_
   generalize aU:((((f k).toInt64)<<<((32:Int32)&&&0x3f).toInt64)|||(((f (k+1)).toInt64)&&&(4294967295:Int64)))=nC
   refine AB 535 b hx (D 282 rfl) WF (Or.inl rfl) rfl fun g24 WF=> ?_
   refine aI 537 283 b a ?_
   refine jl 538 284 0 b a ?_
   refine iq 539 285 b a ?_
   by_cases hneg:(lcmpW nC (0:Int64))<(0:Int32)
   ·refine bk 565 286 b a rfl ((if0 _ _).trans (tlt hneg).1) ?_
    refine aI 567 301 b a ?_
    refine aq 569 302 b a ?_
    refine bZ 572 2 0 G H 303 295 296 103 297 b a (zp l Z a0 hw [] nC o h1 n0 (Nat.le_trans Z0 KP.1) z ad (Bu aU hlt)) zj af (hc:=hkc) (hs:=hks) fun _ cJ cK A bX=> ?_
    obtain ⟨cL,rfl,b0,b5,hw1,hw2⟩:=bX
    have b6:=Fr.app N0 b0
    refine aJ [_] ?_
    refine AF 574 A hx (D 304 rfl) WF (Or.inr rfl) rfl fun y WF=> ?_
    refine aI 576 305 A a ?_
    refine bO 579 214 306 A a ?_
    refine bR 580 307 A a ?_
    refine gn 581 308 A a ?_
    refine bh 583 309 #[_,_,_,_,_,_,_,_,_,_,_,_,_,_,_,_,_,_,_,_,_,_,_,_,_,_,_,_] A a ?_
    refine aI 585 310 A a ?_
    refine bT 587 311 32 A a ?_
    refine jD 588 312 A a ?_
    refine gn 589 313 A a ?_
    refine bh 591 314 #[_,_,_,_,_,_,_,_,_,_,_,_,_,_,_,_,_,_,_,_,_,_,_,_,_,_,_,_] A a ?_
    exact jn _ _ A b6 b5 _ _ _ _ _ _ _ _ _ WF (AZ aU ad hw1 hw2)
   ·refine bw 542 286 b a rfl ((if0 _ _).trans (flt hneg).1) ?_
    refine aI 544 287 b a ?_
    refine aI 546 288 b a ?_
    refine aG (T':=bV) (mkF m 547 #[rv mb,rv dv,rv qx,iv 1,iv sh,iv 2,rv da,rv rm,iv nl,iv lim,rv qa,iv o,.val (.long q),.second,iv dl,iv j,iv 0,iv 0,iv 0,iv (f k),iv ((f k)+(-2147483648:Int32)),iv (f (k+1)),.val (.long nC),.second,g24,g25,y,g27] [(.long (nC/q))]) (fun _ k=>XS.ldiv b.here hx rfl (D 289 rfl) rfl hdn k) ?_
    refine gn 548 290 b a ?_
    refine bh 550 291 #[_,_,_,_,_,_,_,_,_,_,_,_,_,_,_,_,_,_,_,_,_,_,_,_,_,_,_,_] b a ?_
    refine aI 552 292 b a ?_
    refine aq 554 293 b a ?_
    refine bW 555 294 b a ?_
    refine aI 557 295 b a ?_
    refine jA 558 296 b a ?_
    refine mK 559 297 b a ?_
    refine gn 560 298 b a ?_
    refine bh 562 299 #[_,_,_,_,_,_,_,_,_,_,_,_,_,_,_,_,_,_,_,_,_,_,_,_,_,_,_,_] b a ?_
    refine bL 591 300 b a ?_
    exact jn _ _ b N0 af _ _ _ _ _ _ _ _ _ WF (AY aU hdl ad hlt hneg)
 intro aD aT x aV aX qh qr sk g22 g23 g24 g25 y g27 WF TR
 refine aq 593 315 x a ?_
 by_cases hq0:qh=(0:Int32)
 ·refine bw 596 316 x a rfl ((if0 _ _).trans (teq hq0).2) ?_
  have Z1:=Bn (c:=f (k+2)) TR hq0
  refine bL 822 317 x a ?_
  refine dG 825 437 #[_,_,_,_,_,_,_,_,_,_,_,_,_,_,_,iv (j+(1:Int32)),_,_,_,_,_,_,_,_,_,_,_,_] x a ?_
  refine bL 423 438 x a ?_
  rw[hj1]
  exact K _ _ _ _ _ _ _ _ _ _ _ _ _ _ _ 0 (f (k+1)) (f (k+2)) x aX aV ⟨z,KP,B,M,v,w,N,O,(E.fe (Bv (uW Z1.1))),I,P,Q,R,S,T,(U.fe (Bw hg))⟩ ⟨rfl,rfl⟩ ⟨rfl,rfl⟩ ⟨rfl,rfl⟩ ⟨rfl,rfl⟩ ⟨rfl,rfl⟩ WF Z1.2
 ·refine bk 599 316 x a rfl ((if0 _ _).trans (feq hq0).2) ?_
  refine aq 601 318 x a ?_
  suffices jm: ∀(aF:State) (aZ:List Loc),Stand p l e ({frames:=3,cells:=4,slots:=24,locals:=60}:Room) s m #[.ref mb,.ref dv,.ref qx,.int 1] L aA c aF aZ G H→Fr n0 aZ→aF.heap=h1→ ∀(qd qs:Int32) (ag ai al am y26 ao:Slot),jG (iv (f (k+1))) ag ai al am y26 ao→oy (f k) (f (k+1)) (f (k+2)) o dl qd→ay p e L Fn aF (mkF m 740 #[rv mb,rv dv,rv qx,iv 1,iv sh,iv 2,rv da,rv rm,iv nl,iv lim,rv qa,iv o,.val (.long q),.second,iv dl,iv j,iv qd,iv qs,iv sk,iv (f k),iv ((f k)+(-2147483648:Int32)),iv (f (k+1)),ag,ai,al,am,y26,ao] []) from by
   by_cases hs0:sk=(0:Int32)
   ·refine bw 604 319 x a rfl ((if0 _ _).trans (teq hs0).2) ?_
    refine aR 606 320 x a ?_
    refine aE 609 321 111 x a aX w fun cM aw b7=> ?_
    refine aq 611 322 aw a ?_
    refine aB 612 323 2 aw a ?_
    refine bJ 613 324 aw a ?_
    refine aR 615 325 aw a ?_
    refine aE 618 326 109 aw a b7 v fun cN i bv=> ?_
    refine bJ 619 327 i a ?_
    refine jB 620 (k+2) i hx hZ bv E i2 hz (D 328 rfl) rfl ?_
    refine bW 621 329 i a ?_
    refine bO 624 214 330 i a ?_
    refine bR 625 331 i a ?_
    refine AB 627 i hx (D 332 rfl) WF (Or.inl rfl) rfl fun g24 WF=> ?_
    refine aq 629 333 i a ?_
    refine bW 630 334 i a ?_
    refine bO 633 214 335 i a ?_
    refine bR 634 336 i a ?_
    refine bT 636 337 32 i a ?_
    refine kj 637 338 i a ?_
    refine aI 639 339 i a ?_
    refine ot 640 340 i a ?_
    refine AF 642 i hx (D 341 rfl) WF (Or.inr rfl) rfl fun y WF=> ?_
    refine aq 644 342 i a ?_
    refine bW 645 343 i a ?_
    refine bO 648 214 344 i a ?_
    refine bR 649 345 i a ?_
    refine aq 651 346 i a ?_
    refine bW 652 347 i a ?_
    refine bO 655 214 348 i a ?_
    refine bR 656 349 i a ?_
    refine jA 657 350 i a ?_
    refine Ic 659 i hx (D 351 rfl) WF (Or.inr rfl) rfl fun WF=> ?_
    refine ak 660 352 i a ?_
    refine aI 662 353 i a ?_
    refine aI 664 354 i a ?_
    refine ly 667 2 0 G H 355 270 271 273 272 103 274 i a (xQ l Z a0 hw [] mb (((dl.toInt64)&&&(4294967295:Int64))*((qh.toInt64)&&&(4294967295:Int64))) ((((qr.toInt64)&&&(4294967295:Int64))<<<((32:Int32)&&&0x3f).toInt64)|||(((f (k+2)).toInt64)&&&(4294967295:Int64))) h1 n0 (Nat.le_trans Z0 KP.1) z) xu bv B (hc:=hkc) (hs:=hks) fun _ cO cP h b8=> ?_
    obtain ⟨b9,a5,b_⟩:=b8
    have a6:=Fr.app aV b9
    rcases b_ with ⟨rfl,hu⟩|⟨rfl,hu⟩
    ·refine aJ [_] ?_
     refine bw 670 356 h a rfl ((if0 _ _).trans (feq (by decide: ¬((1:Int32)=(0:Int32)))).1) ?_
     refine dG 673 357 #[_,_,_,_,_,_,_,_,_,_,_,_,_,_,_,_,iv (qh+(-1:Int32)),_,_,_,_,_,_,_,_,_,_,_] h a ?_
     generalize a7:(qh+(-1:Int32))=q1
     refine aq 675 358 h a ?_
     refine bW 676 359 h a ?_
     refine bO 679 214 360 h a ?_
     refine bR 680 361 h a ?_
     refine aI 682 362 h a ?_
     refine iu 683 363 h a ?_
     refine gn 684 364 h a ?_
     refine bh 686 365 #[_,_,_,_,_,_,_,_,_,_,_,_,_,_,_,_,_,_,_,_,_,_,_,_,_,_,_,_] h a ?_
     refine aq 688 366 h a ?_
     refine bW 689 367 h a ?_
     refine bO 692 214 368 h a ?_
     refine bR 693 369 h a ?_
     refine aI 695 370 h a ?_
     refine iq 696 371 h a ?_
     by_cases ho:(lcmpW ((((((qr.toInt64)&&&(4294967295:Int64))+q).toInt32).toInt64)&&&(4294967295:Int64)) q)<(0:Int32)
     ·refine bk 740 372 h a rfl ((if0 _ _).trans (tlt ho).1) ?_
      exact jm _ _ h a6 a5 _ _ _ _ _ _ _ _ WF (Bh TR hs0 hdl hu ho a7)
     ·refine bw 699 372 h a rfl ((if0 _ _).trans (flt ho).1) ?_
      refine aI 701 373 h a ?_
      refine aq 703 374 h a ?_
      refine bW 704 375 h a ?_
      refine bO 707 214 376 h a ?_
      refine bR 708 377 h a ?_
      refine mK 709 378 h a ?_
      refine dN 711 379 #[_,_,_,_,_,_,_,_,_,_,_,_,_,_,_,_,_,_,_,_,_,_,_,_,_,_,_,_] h a ?_
      refine aq 713 380 h a ?_
      refine bW 714 381 h a ?_
      refine bO 717 214 382 h a ?_
      refine bR 718 383 h a ?_
      refine bT 720 384 32 h a ?_
      refine kj 721 385 h a ?_
      refine aI 723 386 h a ?_
      refine ot 724 387 h a ?_
      refine dN 726 388 #[_,_,_,_,_,_,_,_,_,_,_,_,_,_,_,_,_,_,_,_,_,_,_,_,_,_,_,_] h a ?_
      refine ak 727 389 h a ?_
      refine aI 729 390 h a ?_
      refine aI 731 391 h a ?_
      refine ly 734 2 0 G H 392 270 271 273 272 103 274 h a (xQ l Z a0 hw [] mb ((((dl.toInt64)&&&(4294967295:Int64))*((qh.toInt64)&&&(4294967295:Int64)))-((dl.toInt64)&&&(4294967295:Int64))) ((((((((qr.toInt64)&&&(4294967295:Int64))+q).toInt32).toInt64)&&&(4294967295:Int64))<<<((32:Int32)&&&0x3f).toInt64)|||(((f (k+2)).toInt64)&&&(4294967295:Int64))) h1 n0 (Nat.le_trans Z0 KP.1) z) xu a5 B (hc:=hkc) (hs:=hks) fun _ cQ cR ax ca=> ?_
      obtain ⟨cb,bx,cd⟩:=ca
      have bz:=Fr.app a6 cb
      rcases cd with ⟨rfl,hv⟩|⟨rfl,hv⟩
      ·refine aJ [_] ?_
       refine bw 737 393 ax a rfl ((if0 _ _).trans (feq (by decide: ¬((1:Int32)=(0:Int32)))).1) ?_
       refine dG 740 394 #[_,_,_,_,_,_,_,_,_,_,_,_,_,_,_,_,iv (q1+(-1:Int32)),_,_,_,_,_,_,_,_,_,_,_] ax a ?_
       generalize ce:(q1+(-1:Int32))=q2
       exact jm _ _ ax bz bx _ _ _ _ _ _ _ _ ⟨rfl,rfl,rfl,rfl,rfl,rfl,WF.2.2.2.2.2.2.1,WF.2.2.2.2.2.2.2⟩ (Bl TR hs0 hu a7 ce ad (vK (rC hu)) (vR hdl ho) hv)
      ·refine aJ [_] ?_
       refine bk 740 393 ax a rfl ((if0 _ _).trans (teq (by decide:(0:Int32)=(0:Int32))).1) ?_
       exact jm _ _ ax bz bx _ _ _ _ _ _ _ _ ⟨rfl,rfl,rfl,rfl,rfl,rfl,WF.2.2.2.2.2.2.1,WF.2.2.2.2.2.2.2⟩ (Bj TR hs0 hu (vK (rC hu)) (vR hdl ho) hv a7)
    ·refine aJ [_] ?_
     refine bk 740 356 h a rfl ((if0 _ _).trans (teq (by decide:(0:Int32)=(0:Int32))).1) ?_
     exact jm _ _ h a6 a5 _ _ _ _ _ _ _ _ WF (Ba TR hs0 hu)
   ·refine bk 740 319 x a rfl ((if0 _ _).trans (feq hs0).2) ?_
    exact jm _ _ x aV aX _ _ _ _ _ _ _ _ WF (A_ TR hs0)
  intro aF aZ bA cg ci qd qs g22 g23 g24 g25 y g27 WF TD
  refine aR 742 395 bA a ?_
  refine aE 745 396 111 bA a ci w fun cS a8 cj=> ?_
  refine aq 747 397 a8 a ?_
  refine aR 749 398 a8 a ?_
  refine aE 752 399 109 a8 a cj v fun cT a9 ck=> ?_
  refine bJ 753 400 a9 a ?_
  refine aB 754 401 0 a9 a ?_
  refine jW 755 k a9 hx hZ ck E i0 (oz hz 2) (D 402 rfl) rfl fun cU cl aH cm r cn=> ?_
  have co:=Fr.snoc aH cg aC
  have z:=z.wr r aC
  have KP:=KP.wr r (Or.inr bt)
  have B:=B.wr r
  have M:=M.wr r
  have v:=v.other r (Or.inl W)
  have w:=w.other r (Or.inl W)
  have N:=N.other r (Or.inl W)
  have O:=O.wr r
  have I:=I.other r aN
  have P:=P.wr r
  have Q:=Q.other r (Or.inl X)
  have R:=R.other r (Or.inl X)
  have S:=S.other r (Or.inl X)
  have T:=T.wr r
  have U:=U.other r aO
  have E:=cn
  refine ak 756 403 aH a ?_
  refine aR 758 404 aH a ?_
  refine aE 761 405 111 aH a cm w fun cV Y cp=> ?_
  refine aR 763 406 Y a ?_
  refine aq 765 407 Y a ?_
  refine aq 767 408 Y a ?_
  refine aq 769 409 Y a ?_
  refine aR 771 410 Y a ?_
  refine aE 774 411 109 Y a cp v fun cW bB cq=> ?_
  refine bJ 775 412 bB a ?_
  refine ly 778 5 0 G H 413 276 277 279 278 103 280 bB a (Ew l Z a0 hw [] mb ra kr zr (fJ f k (0:Int32)) da kd o dl qd (j+(0:Int32)) k cl n0 (Nat.le_trans Z0 KP.1) z aC aN E I i0 hz) DZ cq B (hc:=hkc) (hs:=hks) fun _ cX cY F cr=> ?_
  obtain ⟨b',c',rb,rfl,ct,t,cu,bC⟩:=cr
  have cv:=Fr.app co ct
  have z:=z.keep t (allS aC all0)
  have KP:=KP.trans t (allS (Or.inr bt) all0)
  have B:=B.keep t
  have M:=M.keep t
  have v:=v.keep t (ninS W nin0)
  have w:=w.keep t (ninS W nin0)
  have N:=N.keep t (ninS W nin0)
  have O:=O.keep t
  have I:=I.keep t (ninS aN nin0)
  have P:=P.keep t
  have Q:=Q.keep t (ninS X nin0)
  have R:=R.keep t (ninS X nin0)
  have S:=S.keep t (ninS X nin0)
  have T:=T.keep t
  have U:=U.keep t (ninS aO nin0)
  refine aJ [_] ?_
  have E:=cu
  rw[qT (f:=f) (by omega: ¬k+1=k),qT (f:=f) (by omega: ¬k+2=k)] at bC
  obtain ⟨er,DG⟩:=Bm TD bC
  subst er
  refine Ig 780 F hx (D 414 rfl) WF rfl rfl fun g23 WF=> ?_
  refine aq 782 415 F a ?_
  refine mQ 784 230 416 F a ?_
  refine bJ 785 417 F a ?_
  refine aq 787 418 F a ?_
  refine bQ 815 419 F a rfl (flt (zL _)).2.2.2 ?_
  refine aR 817 433 F a ?_
  refine aq 819 434 F a ?_
  refine aq 821 435 F a ?_
  refine jW 822 k F hx hZ rfl U hk bH (D 436 rfl) rfl fun cZ c0 aK cx u cy=> ?_
  have cz:=Fr.snoc aK cv br
  have z:=z.wr u br
  have KP:=KP.wr u bK
  have B:=B.wr u
  have M:=M.wr u
  have v:=v.other u (Or.inl aP)
  have w:=w.other u (Or.inl aP)
  have N:=N.other u (Or.inl aP)
  have O:=O.wr u
  have I:=I.other u bN
  have P:=P.wr u
  have Q:=Q.other u (Or.inl aQ)
  have R:=R.other u (Or.inl aQ)
  have S:=S.other u (Or.inl aQ)
  have T:=T.wr u
  have E:=E.other u (Ne.symm aO)
  have U:=cy
  refine dG 825 437 #[_,_,_,_,_,_,_,_,_,_,_,_,_,_,_,iv (j+(1:Int32)),_,_,_,_,_,_,_,_,_,_,_,_] aK a ?_
  refine bL 423 438 aK a ?_
  rw[hj1]
  exact K _ _ _ _ _ _ _ _ _ _ _ _ _ _ _ qd b' c' aK cx cz ⟨z,KP,B,M,v,w,N,O,E,I,P,Q,R,S,T,U⟩ ⟨rfl,rfl⟩ ⟨rfl,rfl⟩ ⟨rfl,rfl⟩ ⟨rfl,rfl⟩ ⟨rfl,rfl⟩ WF DG
theorem zE (l:Launch)(Z:State)(a0:Array Value)(hw: ∀d∈tables_1,d.before a0 Z=true)(p:Program)(e:Env)(s:State)(m:MethodId)(M:List Frame)(aF:Method)(c:Code)(Fn:Outcome→State→Prop)(hx:p.tables.exec=Jvm.exec)(a_:c.code=jdk_2101_method_65_code)(bq:c.maxLocals=28)(br:s.vm.findClass "java/math/MutableBigInteger"=some m.cls)(hZ:Z.Warmed39 s.vm)(h0:Heap)(n0:Nat)(Z0:n0≤h0.size)(mb dv qx qz da rm ra qa:Addr)(kd kr kq:ClassId)(sh nl lim ll o dl zr zq:Int32)(q:Int64)(G H:Nat)(hkc:G≤4)(hks:H≤24)(j:Int32)(k:Nat)(f g:Nat→Int32)(g16:Slot)(g17:Slot)(g18:Slot)(g19:Slot)(g20:Slot)(I:Slot)(g22:Slot)(g23:Slot)(g24:Slot)(g25:Slot)(E:Slot)(g27:Slot)(T0:State)(h1:Heap)(a':List Loc)(X0:Stand p l e ({frames:=3,cells:=4,slots:=24,locals:=60}:Room) s m #[.ref mb,.ref dv,.ref qx,.int 1] M aF c T0 a' G H)(e0:T0.heap=h1)(N0:Fr n0 a')(C:zw h0 n0 qx qz da rm ra qa o q)(S0:qJ Z h0 n0 mb qx qz da rm ra qa kd kr kq lim ll o dl zr zq h1 f g)(c16:i_ g16)(c17:i_ g17)(c18:i_ g18)(c19:i_ g19)(c20:i_ g20)(WF:jG I g22 g23 g24 g25 E g27)(hlim:lim.toInt=(k+1:Nat))(hz:((k+2:Nat):Int)<zr.toInt)(bt:(k:Int)<zq.toInt)(hg:g k=0)(hn:ah (f k)*4294967296+ah (f (k+1))<ah o*4294967296+ah dl)
  (K: ∀(T':State) (h':Heap) (L':List Loc) (bu w16 bv bx bz bA bB bC bE bF bH bK bN:Slot) (qd b' c':Int32),Stand p l e ({frames:=3,cells:=4,slots:=24,locals:=60}:Room) s m #[.ref mb,.ref dv,.ref qx,.int 1] M aF c T' L' G H→T'.heap=h'→Fr n0 L'→qJ Z h0 n0 mb qx qz da rm ra qa kd kr kq lim ll o dl zr zq h' (fJ (fJ (fJ f k 0) (k+2) c') (k+1) b') (fJ g k qd)→vF (f k) (f (k+1)) (f (k+2)) o dl qd b' c'→ay p e M Fn T' (mkF m 1261 #[rv mb,rv dv,rv qx,iv 1,iv sh,iv 2,rv da,rv rm,iv nl,iv lim,rv qa,iv o,.val (.long q),.second,iv dl,bu,w16,bv,bx,bz,bA,bB,bC,bE,bF,bH,bK,bN] [])):ay p e M Fn T0 (mkF m 828 #[rv mb,rv dv,rv qx,iv 1,iv sh,iv 2,rv da,rv rm,iv nl,iv lim,rv qa,iv o,.val (.long q),.second,iv dl,iv j,g16,g17,g18,g19,g20,I,g22,g23,g24,g25,E,g27] []):=by
 obtain ⟨cC,aH,cD,bb,cE,bd,bP,X,aO,Y,aP,aQ,bS,aS,cF,cG,cH,ae,hdl⟩:=C
 obtain ⟨y,KP,A,N,v,w,O,P,B,J,Q,R,S,T,U,V⟩:=S0
 have D:=fj a_ rP
 have a:=bG hx a_ rP br hZ bq hw
 have hdn:q≠0:=Bt hdl ae
 have hkl:(lim-(1:Int32)).toInt=k:=n_ (j:=1) hlim rfl (Nat.le_add_left 1 k)
 have i0:=pE (c:=0) (n:=0) hkl rfl (oz hz 2)
 have i1:=pE (c:=0) (n:=0) hlim rfl (oz hz 1)
 have i2:=pE (c:=0) (n:=0) (pE (c:=1) (n:=1) hlim rfl hz) rfl hz
 refine aB 829 439 0 X0 a ?_
 refine bh 831 440 #[_,_,_,_,_,_,_,_,_,_,_,_,_,_,_,_,_,_,_,_,_,_,_,_,_,_,_,_] X0 a ?_
 refine aB 832 441 0 X0 a ?_
 refine ku 834 16 #[rv mb,rv dv,rv qx,iv 1,iv sh,iv 2,rv da,rv rm,iv nl,iv lim,rv qa,iv o,.val (.long q),.second,iv dl,iv 0,iv 0,g17,g18,g19,g20,I,g22,g23,g24,g25,E,g27] X0 hx (D 442 rfl) rfl c16 rfl rfl ?_
 refine aB 835 443 0 X0 a ?_
 refine ku 837 17 #[rv mb,rv dv,rv qx,iv 1,iv sh,iv 2,rv da,rv rm,iv nl,iv lim,rv qa,iv o,.val (.long q),.second,iv dl,iv 0,iv 0,iv 0,g18,g19,g20,I,g22,g23,g24,g25,E,g27] X0 hx (D 444 rfl) rfl c17 rfl rfl ?_
 refine aR 839 445 X0 a ?_
 refine aE 842 446 111 X0 a e0 w fun cI af bV=> ?_
 refine aq 844 447 af a ?_
 refine aB 845 448 1 af a ?_
 refine dQ 846 449 af a ?_
 refine aR 848 450 af a ?_
 refine aE 851 451 109 af a bV v fun cJ L be=> ?_
 refine bJ 852 452 L a ?_
 refine jB 853 k L hx hZ be B i0 (oz hz 2) (D 453 rfl) rfl ?_
 refine ku 855 18 #[rv mb,rv dv,rv qx,iv 1,iv sh,iv 2,rv da,rv rm,iv nl,iv lim,rv qa,iv o,.val (.long q),.second,iv dl,iv 0,iv 0,iv 0,iv (f k),g19,g20,I,g22,g23,g24,g25,E,g27] L hx (D 454 rfl) rfl c18 rfl rfl ?_
 refine aq 857 455 L a ?_
 refine mQ 859 230 456 L a ?_
 refine bJ 860 457 L a ?_
 refine ku 862 19 #[rv mb,rv dv,rv qx,iv 1,iv sh,iv 2,rv da,rv rm,iv nl,iv lim,rv qa,iv o,.val (.long q),.second,iv dl,iv 0,iv 0,iv 0,iv (f k),iv ((f k)+(-2147483648:Int32)),g20,I,g22,g23,g24,g25,E,g27] L hx (D 458 rfl) rfl c19 rfl rfl ?_
 refine aR 864 459 L a ?_
 refine aE 867 460 111 L a be w fun cK aT bX=> ?_
 refine aq 869 461 aT a ?_
 refine aR 871 462 aT a ?_
 refine aE 874 463 109 aT a bX v fun b0 b ag=> ?_
 refine bJ 875 464 b a ?_
 refine jB 876 (k+1) b hx hZ ag B i1 (oz hz 1) (D 465 rfl) rfl ?_
 refine ku 878 20 #[rv mb,rv dv,rv qx,iv 1,iv sh,iv 2,rv da,rv rm,iv nl,iv lim,rv qa,iv o,.val (.long q),.second,iv dl,iv 0,iv 0,iv 0,iv (f k),iv ((f k)+(-2147483648:Int32)),iv (f (k+1)),I,g22,g23,g24,g25,E,g27] b hx (D 466 rfl) rfl c20 rfl rfl ?_
 refine aq 880 467 b a ?_
 refine aq 882 468 b a ?_
 suffices jn: ∀(aK:State) (aU:List Loc),Stand p l e ({frames:=3,cells:=4,slots:=24,locals:=60}:Room) s m #[.ref mb,.ref dv,.ref qx,.int 1] M aF c aK aU G H→Fr n0 aU→aK.heap=h1→ ∀(qh qr sk:Int32) (ai al am ao av y26 aw:Slot),jG ai al am ao av y26 aw→mW (f k) (f (k+1)) o dl qh qr sk→ay p e M Fn aK (mkF m 987 #[rv mb,rv dv,rv qx,iv 1,iv sh,iv 2,rv da,rv rm,iv nl,iv lim,rv qa,iv o,.val (.long q),.second,iv dl,iv qh,iv qr,iv sk,iv (f k),iv ((f k)+(-2147483648:Int32)),iv (f (k+1)),ai,al,am,ao,av,y26,aw] []) from by
  by_cases hab:(f k)=o
  ·refine bY 885 469 b a rfl (teq hab).2 ?_
   refine aB 886 470 (-1) b a ?_
   refine bh 888 471 #[_,_,_,_,_,_,_,_,_,_,_,_,_,_,_,_,_,_,_,_,_,_,_,_,_,_,_,_] b a ?_
   refine aq 890 472 b a ?_
   refine aq 892 473 b a ?_
   refine bJ 893 474 b a ?_
   refine bh 895 475 #[_,_,_,_,_,_,_,_,_,_,_,_,_,_,_,_,_,_,_,_,_,_,_,_,_,_,_,_] b a ?_
   refine aq 897 476 b a ?_
   refine mQ 899 230 477 b a ?_
   refine bJ 900 478 b a ?_
   refine aq 902 479 b a ?_
   by_cases hov:(((f k)+(f (k+1)))+(-2147483648:Int32))<((f k)+(-2147483648:Int32))
   ·refine bY 905 480 b a rfl (tlt hov).2.1 ?_
    refine aB 906 481 1 b a ?_
    refine bL 910 482 b a ?_
    refine bh 912 484 #[_,_,_,_,_,_,_,_,_,_,_,_,_,_,_,_,_,_,_,_,_,_,_,_,_,_,_,_] b a ?_
    refine bL 987 485 b a ?_
    exact jn _ _ b N0 ag _ _ _ _ _ _ _ _ _ _ WF ((vJ hab hn).1 hov)
   ·refine bQ 909 480 b a rfl (flt hov).2.1 ?_
    refine aB 910 483 0 b a ?_
    refine bh 912 484 #[_,_,_,_,_,_,_,_,_,_,_,_,_,_,_,_,_,_,_,_,_,_,_,_,_,_,_,_] b a ?_
    refine bL 987 485 b a ?_
    exact jn _ _ b N0 ag _ _ _ _ _ _ _ _ _ _ WF ((vJ hab hn).2 hov)
  ·refine bQ 915 469 b a rfl (feq hab).2 ?_
   have hlt:=AU hn hab
   refine aq 917 486 b a ?_
   refine bW 918 487 b a ?_
   refine bT 920 488 32 b a ?_
   refine kj 921 489 b a ?_
   refine aq 923 490 b a ?_
   refine bW 924 491 b a ?_
   refine bO 927 214 492 b a ?_
   refine bR 928 493 b a ?_
   refine ot 929 494 b a ?_
   generalize aV:((((f k).toInt64)<<<((32:Int32)&&&0x3f).toInt64)|||(((f (k+1)).toInt64)&&&(4294967295:Int64)))=nC
   refine AH 931 b hx (D 495 rfl) WF rfl fun g23 WF=> ?_
   refine aI 933 496 b a ?_
   refine jl 934 497 0 b a ?_
   refine iq 935 498 b a ?_
   by_cases hneg:(lcmpW nC (0:Int64))<(0:Int32)
   ·refine bk 961 499 b a rfl ((if0 _ _).trans (tlt hneg).1) ?_
    refine aI 963 514 b a ?_
    refine aq 965 515 b a ?_
    refine bZ 968 2 0 G H 516 295 296 103 297 b a (zp l Z a0 hw [] nC o h1 n0 (Nat.le_trans Z0 KP.1) y ae (Bu aV hlt)) zj ag (hc:=hkc) (hs:=hks) fun _ cL cM z b5=> ?_
    obtain ⟨cN,rfl,b6,b7,hw1,hw2⟩:=b5
    have b8:=Fr.app N0 b6
    refine aJ [_] ?_
    refine AJ 970 z hx (D 517 rfl) WF (Or.inr rfl) rfl fun g25 WF=> ?_
    refine aI 972 518 z a ?_
    refine bO 975 214 519 z a ?_
    refine bR 976 520 z a ?_
    refine gn 977 521 z a ?_
    refine bh 979 522 #[_,_,_,_,_,_,_,_,_,_,_,_,_,_,_,_,_,_,_,_,_,_,_,_,_,_,_,_] z a ?_
    refine aI 981 523 z a ?_
    refine bT 983 524 32 z a ?_
    refine jD 984 525 z a ?_
    refine gn 985 526 z a ?_
    refine bh 987 527 #[_,_,_,_,_,_,_,_,_,_,_,_,_,_,_,_,_,_,_,_,_,_,_,_,_,_,_,_] z a ?_
    exact jn _ _ z b8 b7 _ _ _ _ _ _ _ _ _ _ WF (AZ aV ae hw1 hw2)
   ·refine bw 938 499 b a rfl ((if0 _ _).trans (flt hneg).1) ?_
    refine aI 940 500 b a ?_
    refine aI 942 501 b a ?_
    refine aG (T':=b0) (mkF m 943 #[rv mb,rv dv,rv qx,iv 1,iv sh,iv 2,rv da,rv rm,iv nl,iv lim,rv qa,iv o,.val (.long q),.second,iv dl,iv 0,iv 0,iv 0,iv (f k),iv ((f k)+(-2147483648:Int32)),iv (f (k+1)),.val (.long nC),.second,g23,g24,g25,E,g27] [(.long (nC/q))]) (fun _ k=>XS.ldiv b.here hx rfl (D 502 rfl) rfl hdn k) ?_
    refine gn 944 503 b a ?_
    refine bh 946 504 #[_,_,_,_,_,_,_,_,_,_,_,_,_,_,_,_,_,_,_,_,_,_,_,_,_,_,_,_] b a ?_
    refine aI 948 505 b a ?_
    refine aq 950 506 b a ?_
    refine bW 951 507 b a ?_
    refine aI 953 508 b a ?_
    refine jA 954 509 b a ?_
    refine mK 955 510 b a ?_
    refine gn 956 511 b a ?_
    refine bh 958 512 #[_,_,_,_,_,_,_,_,_,_,_,_,_,_,_,_,_,_,_,_,_,_,_,_,_,_,_,_] b a ?_
    refine bL 987 513 b a ?_
    exact jn _ _ b N0 ag _ _ _ _ _ _ _ _ _ _ WF (AY aV hdl ae hlt hneg)
 intro aK aU F aX aZ qh qr sk I g22 g23 g24 g25 E g27 WF TR
 refine aq 989 528 F a ?_
 by_cases hq0:qh=(0:Int32)
 ·refine bk 1261 529 F a rfl ((if0 _ _).trans (teq hq0).1) ?_
  have Z1:=Bn (c:=f (k+2)) TR hq0
  exact K _ _ _ _ _ _ _ _ _ _ _ _ _ _ _ _ 0 (f (k+1)) (f (k+2)) F aZ aX ⟨y,KP,A,N,v,w,O,P,(B.fe (Bv (uW Z1.1))),J,Q,R,S,T,U,(V.fe (Bw hg))⟩ Z1.2
 ·refine bw 992 529 F a rfl ((if0 _ _).trans (feq hq0).1) ?_
  refine aq 994 530 F a ?_
  suffices jm: ∀(aL:State) (a5:List Loc),Stand p l e ({frames:=3,cells:=4,slots:=24,locals:=60}:Room) s m #[.ref mb,.ref dv,.ref qx,.int 1] M aF c aL a5 G H→Fr n0 a5→aL.heap=h1→ ∀(qd qs:Int32) (ai al am ao av y26 aw:Slot),jG ai al am ao av y26 aw→oy (f k) (f (k+1)) (f (k+2)) o dl qd→ay p e M Fn aL (mkF m 1133 #[rv mb,rv dv,rv qx,iv 1,iv sh,iv 2,rv da,rv rm,iv nl,iv lim,rv qa,iv o,.val (.long q),.second,iv dl,iv qd,iv qs,iv sk,iv (f k),iv ((f k)+(-2147483648:Int32)),iv (f (k+1)),ai,al,am,ao,av,y26,aw] []) from by
   by_cases hs0:sk=(0:Int32)
   ·refine bw 997 531 F a rfl ((if0 _ _).trans (teq hs0).2) ?_
    refine aR 999 532 F a ?_
    refine aE 1002 533 111 F a aZ w fun cO aA b9=> ?_
    refine aq 1004 534 aA a ?_
    refine aB 1005 535 1 aA a ?_
    refine bJ 1006 536 aA a ?_
    refine aR 1008 537 aA a ?_
    refine aE 1011 538 109 aA a b9 v fun cP i bf=> ?_
    refine bJ 1012 539 i a ?_
    refine jB 1013 (k+2) i hx hZ bf B i2 hz (D 540 rfl) rfl ?_
    refine bW 1014 541 i a ?_
    refine bO 1017 214 542 i a ?_
    refine bR 1018 543 i a ?_
    refine AH 1020 i hx (D 544 rfl) WF rfl fun g23 WF=> ?_
    refine aq 1022 545 i a ?_
    refine bW 1023 546 i a ?_
    refine bO 1026 214 547 i a ?_
    refine bR 1027 548 i a ?_
    refine bT 1029 549 32 i a ?_
    refine kj 1030 550 i a ?_
    refine aI 1032 551 i a ?_
    refine ot 1033 552 i a ?_
    refine AJ 1035 i hx (D 553 rfl) WF (Or.inr rfl) rfl fun g25 WF=> ?_
    refine aq 1037 554 i a ?_
    refine bW 1038 555 i a ?_
    refine bO 1041 214 556 i a ?_
    refine bR 1042 557 i a ?_
    refine aq 1044 558 i a ?_
    refine bW 1045 559 i a ?_
    refine bO 1048 214 560 i a ?_
    refine bR 1049 561 i a ?_
    refine jA 1050 562 i a ?_
    refine Ie 1052 i hx (D 563 rfl) WF (Or.inr rfl) rfl fun g27 WF=> ?_
    refine ak 1053 564 i a ?_
    refine aI 1055 565 i a ?_
    refine aI 1057 566 i a ?_
    refine ly 1060 2 0 G H 567 270 271 273 272 103 274 i a (xQ l Z a0 hw [] mb (((dl.toInt64)&&&(4294967295:Int64))*((qh.toInt64)&&&(4294967295:Int64))) ((((qr.toInt64)&&&(4294967295:Int64))<<<((32:Int32)&&&0x3f).toInt64)|||(((f (k+2)).toInt64)&&&(4294967295:Int64))) h1 n0 (Nat.le_trans Z0 KP.1) y) xu bf A (hc:=hkc) (hs:=hks) fun _ cQ cR h b_=> ?_
    obtain ⟨ca,a6,cb⟩:=b_
    have a7:=Fr.app aX ca
    rcases cb with ⟨rfl,hu⟩|⟨rfl,hu⟩
    ·refine aJ [_] ?_
     refine bw 1063 568 h a rfl ((if0 _ _).trans (feq (by decide: ¬((1:Int32)=(0:Int32)))).1) ?_
     refine dG 1066 569 #[_,_,_,_,_,_,_,_,_,_,_,_,_,_,_,iv (qh+(-1:Int32)),_,_,_,_,_,_,_,_,_,_,_,_] h a ?_
     generalize a8:(qh+(-1:Int32))=q1
     refine aq 1068 570 h a ?_
     refine bW 1069 571 h a ?_
     refine bO 1072 214 572 h a ?_
     refine bR 1073 573 h a ?_
     refine aI 1075 574 h a ?_
     refine iu 1076 575 h a ?_
     refine gn 1077 576 h a ?_
     refine bh 1079 577 #[_,_,_,_,_,_,_,_,_,_,_,_,_,_,_,_,_,_,_,_,_,_,_,_,_,_,_,_] h a ?_
     refine aq 1081 578 h a ?_
     refine bW 1082 579 h a ?_
     refine bO 1085 214 580 h a ?_
     refine bR 1086 581 h a ?_
     refine aI 1088 582 h a ?_
     refine iq 1089 583 h a ?_
     by_cases ho:(lcmpW ((((((qr.toInt64)&&&(4294967295:Int64))+q).toInt32).toInt64)&&&(4294967295:Int64)) q)<(0:Int32)
     ·refine bk 1133 584 h a rfl ((if0 _ _).trans (tlt ho).1) ?_
      exact jm _ _ h a7 a6 _ _ _ _ _ _ _ _ _ WF (Bh TR hs0 hdl hu ho a8)
     ·refine bw 1092 584 h a rfl ((if0 _ _).trans (flt ho).1) ?_
      refine aI 1094 585 h a ?_
      refine aq 1096 586 h a ?_
      refine bW 1097 587 h a ?_
      refine bO 1100 214 588 h a ?_
      refine bR 1101 589 h a ?_
      refine mK 1102 590 h a ?_
      refine dN 1104 591 #[_,_,_,_,_,_,_,_,_,_,_,_,_,_,_,_,_,_,_,_,_,_,_,_,_,_,_,_] h a ?_
      refine aq 1106 592 h a ?_
      refine bW 1107 593 h a ?_
      refine bO 1110 214 594 h a ?_
      refine bR 1111 595 h a ?_
      refine bT 1113 596 32 h a ?_
      refine kj 1114 597 h a ?_
      refine aI 1116 598 h a ?_
      refine ot 1117 599 h a ?_
      refine dN 1119 600 #[_,_,_,_,_,_,_,_,_,_,_,_,_,_,_,_,_,_,_,_,_,_,_,_,_,_,_,_] h a ?_
      refine ak 1120 601 h a ?_
      refine aI 1122 602 h a ?_
      refine aI 1124 603 h a ?_
      refine ly 1127 2 0 G H 604 270 271 273 272 103 274 h a (xQ l Z a0 hw [] mb ((((dl.toInt64)&&&(4294967295:Int64))*((qh.toInt64)&&&(4294967295:Int64)))-((dl.toInt64)&&&(4294967295:Int64))) ((((((((qr.toInt64)&&&(4294967295:Int64))+q).toInt32).toInt64)&&&(4294967295:Int64))<<<((32:Int32)&&&0x3f).toInt64)|||(((f (k+2)).toInt64)&&&(4294967295:Int64))) h1 n0 (Nat.le_trans Z0 KP.1) y) xu a6 A (hc:=hkc) (hs:=hks) fun _ cS cT aC cd=> ?_
      obtain ⟨ce,bg,cg⟩:=cd
      have bj:=Fr.app a7 ce
      rcases cg with ⟨rfl,hv⟩|⟨rfl,hv⟩
      ·refine aJ [_] ?_
       refine bw 1130 605 aC a rfl ((if0 _ _).trans (feq (by decide: ¬((1:Int32)=(0:Int32)))).1) ?_
       refine dG 1133 606 #[_,_,_,_,_,_,_,_,_,_,_,_,_,_,_,iv (q1+(-1:Int32)),_,_,_,_,_,_,_,_,_,_,_,_] aC a ?_
       generalize ci:(q1+(-1:Int32))=q2
       exact jm _ _ aC bj bg _ _ _ _ _ _ _ _ _ ⟨rfl,rfl,rfl,rfl,rfl,rfl,WF.2.2.2.2.2.2.1,WF.2.2.2.2.2.2.2⟩ (Bl TR hs0 hu a8 ci ae (vK (rC hu)) (vR hdl ho) hv)
      ·refine aJ [_] ?_
       refine bk 1133 605 aC a rfl ((if0 _ _).trans (teq (by decide:(0:Int32)=(0:Int32))).1) ?_
       exact jm _ _ aC bj bg _ _ _ _ _ _ _ _ _ ⟨rfl,rfl,rfl,rfl,rfl,rfl,WF.2.2.2.2.2.2.1,WF.2.2.2.2.2.2.2⟩ (Bj TR hs0 hu (vK (rC hu)) (vR hdl ho) hv a8)
    ·refine aJ [_] ?_
     refine bk 1133 568 h a rfl ((if0 _ _).trans (teq (by decide:(0:Int32)=(0:Int32))).1) ?_
     exact jm _ _ h a7 a6 _ _ _ _ _ _ _ _ _ WF (Ba TR hs0 hu)
   ·refine bk 1133 531 F a rfl ((if0 _ _).trans (feq hs0).2) ?_
    exact jm _ _ F aX aZ _ _ _ _ _ _ _ _ _ WF (A_ TR hs0)
  intro aL a5 bl cj ck qd qs I g22 g23 g24 g25 E g27 WF TD
  refine aR 1135 607 bl a ?_
  refine aE 1138 608 111 bl a ck w fun cU aD cl=> ?_
  refine aq 1140 609 aD a ?_
  refine aB 1141 610 1 aD a ?_
  refine dQ 1142 611 aD a ?_
  refine aR 1144 612 aD a ?_
  refine aE 1147 613 109 aD a cl v fun cV a9 cm=> ?_
  refine bJ 1148 614 a9 a ?_
  refine aB 1149 615 0 a9 a ?_
  refine jW 1150 k a9 hx hZ cm B i0 (oz hz 2) (D 616 rfl) rfl fun cW cn ad co r cp=> ?_
  have cq:=Fr.snoc ad cj aH
  have y:=y.wr r aH
  have KP:=KP.wr r (Or.inr bd)
  have A:=A.wr r
  have N:=N.wr r
  have v:=v.other r (Or.inl X)
  have w:=w.other r (Or.inl X)
  have O:=O.other r (Or.inl X)
  have P:=P.wr r
  have J:=J.other r aO
  have Q:=Q.wr r
  have R:=R.other r (Or.inl Y)
  have S:=S.other r (Or.inl Y)
  have T:=T.other r (Or.inl Y)
  have U:=U.wr r
  have V:=V.other r aP
  have B:=cp
  refine au 1151 617 ad a ?_
  refine bw 1154 618 ad a rfl ((if0 _ _).trans (feq (by decide: ¬((1:Int32)=(0:Int32)))).1) ?_
  refine ak 1155 619 ad a ?_
  refine aR 1157 620 ad a ?_
  refine aE 1160 621 111 ad a co w fun cX W cr=> ?_
  refine aR 1162 622 W a ?_
  refine aq 1164 623 W a ?_
  refine aq 1166 624 W a ?_
  refine aq 1168 625 W a ?_
  refine aB 1169 626 1 W a ?_
  refine dQ 1170 627 W a ?_
  refine aR 1172 628 W a ?_
  refine aE 1175 629 109 W a cr v fun cY bm ct=> ?_
  refine bJ 1176 630 bm a ?_
  refine ly 1179 5 0 G H 631 276 277 279 278 103 280 bm a (Ew l Z a0 hw [] mb ra kr zr (fJ f k (0:Int32)) da kd o dl qd ((lim-(1:Int32))+(0:Int32)) k cn n0 (Nat.le_trans Z0 KP.1) y aH aO B J i0 hz) DZ ct A (hc:=hkc) (hs:=hks) fun _ cZ c0 x cu=> ?_
  obtain ⟨b',c',rb,rfl,cv,t,cw,bn⟩:=cu
  have cx:=Fr.app cq cv
  have y:=y.keep t (allS aH all0)
  have KP:=KP.trans t (allS (Or.inr bd) all0)
  have A:=A.keep t
  have N:=N.keep t
  have v:=v.keep t (ninS X nin0)
  have w:=w.keep t (ninS X nin0)
  have O:=O.keep t (ninS X nin0)
  have P:=P.keep t
  have J:=J.keep t (ninS aO nin0)
  have Q:=Q.keep t
  have R:=R.keep t (ninS Y nin0)
  have S:=S.keep t (ninS Y nin0)
  have T:=T.keep t (ninS Y nin0)
  have U:=U.keep t
  have V:=V.keep t (ninS aP nin0)
  refine aJ [_] ?_
  have B:=cw
  rw[qT (f:=f) (by omega: ¬k+1=k),qT (f:=f) (by omega: ¬k+2=k)] at bn
  obtain ⟨er,DG⟩:=Bm TD bn
  subst er
  refine AK 1181 x hx (D 632 rfl) WF rfl fun g22 WF=> ?_
  refine bL 1211 633 x a ?_
  refine aq 1213 648 x a ?_
  refine mQ 1215 230 649 x a ?_
  refine bJ 1216 650 x a ?_
  refine aq 1218 651 x a ?_
  refine bQ 1252 652 x a rfl (flt (zL _)).2.2.2 ?_
  refine aR 1254 670 x a ?_
  refine aq 1256 671 x a ?_
  refine aB 1257 672 1 x a ?_
  refine dQ 1258 673 x a ?_
  refine aq 1260 674 x a ?_
  refine jW 1261 k x hx hZ rfl V hkl bt (D 675 rfl) rfl fun c2 c3 bo cz u cA=> ?_
  have cB:=Fr.snoc bo cx bb
  have y:=y.wr u bb
  have KP:=KP.wr u bP
  have A:=A.wr u
  have N:=N.wr u
  have v:=v.other u (Or.inl aQ)
  have w:=w.other u (Or.inl aQ)
  have O:=O.other u (Or.inl aQ)
  have P:=P.wr u
  have J:=J.other u bS
  have Q:=Q.wr u
  have R:=R.other u (Or.inl aS)
  have S:=S.other u (Or.inl aS)
  have T:=T.other u (Or.inl aS)
  have U:=U.wr u
  have B:=B.other u (Ne.symm aP)
  have V:=cA
  exact K _ _ _ _ _ _ _ _ _ _ _ _ _ _ _ _ qd b' c' bo cz cB ⟨y,KP,A,N,v,w,O,P,B,J,Q,R,S,T,U,V⟩ DG
def Xj (Z:State)(h0:Heap)(n0:Nat)(v:Option Value)(h:Heap)(L:List Loc):Prop:=v=some (.int 0)∧Fr n0 L∧h=h0
theorem Xk (l:Launch)(Z:State)(a0:Array Value)(hw: ∀d∈tables_1,d.before a0 Z=true)(ws:List Jvm.Cond)(h0:Heap)(n0:Nat)(Z0:n0≤h0.size)(f:Old Z n0 h0):
  bp l (⟨"java/math/BigInteger","bitLengthForInt","(I)I"⟩:MethodName) (Jvm.Cond.code (⟨"java/math/BigInteger","bitLengthForInt","(I)I"⟩:MethodName) jdk_2097_method_74_code 1 (some .int)::ws) ({frames:=1,cells:=0,slots:=0,locals:=16}:Room) #[(.int (0:Int32))] Z h0 (Xj Z h0 n0):=by
 refine bI (plainFor_of_name gF) (fun m=>Tk m (0:Int32)) fun p e s m u v c s₁ hx g h i (j:s.vm.findClass "java/math/BigInteger"=some m.cls) hnm hret X0 hZ e0=> ?_
 have a:=bG hx g OB j hZ i hw
 have N0:=Fr.nil n0
 have KP:Keep h0 h0 []:=Keep.refl _ _
 refine bT 2 0 32 X0 a ?_
 refine au 3 1 X0 a ?_
 refine bZ 6 1 1 0 0 2 289 216 47 217 X0 a (xO l Z a0 hw [] (0:Int32) h0 n0 (Nat.le_trans Z0 KP.1) f) mX e0 fun _ w x b k=> ?_
 obtain ⟨rn,rfl,n,o,q⟩:=k
 have t:=Fr.app N0 n
 refine aJ [_,_] ?_
 refine dQ 7 3 b a ?_
 exact gg 4 b a hret h (by rw[o];exact ⟨congrArg (fun r=>some (Value.int r)) (Iu q),t,rfl⟩)
def Ey (Z:State)(mb ra:Addr)(kr:ClassId)(ll zz ns:Int32)(f:Nat→Int32)(nn:Nat)(h0:Heap)(n0:Nat)(v:Option Value)(h:Heap)(L:List Loc):Prop:=v=none∧Fr n0 L∧Keep h0 h [ra]∧Exa Z h mb "java/math/MutableBigInteger"∧Fld Z h mb "java/math/MutableBigInteger" "offset" "I" (.int (0:Int32))∧Fld Z h mb "java/math/MutableBigInteger" "value" "[I" (.ref ra)∧Fld Z h mb "java/math/MutableBigInteger" "intLen" "I" (.int ll)∧bM Z h ra kr zz (fJ (mz ns f (nn-1)) (nn-1) (f (nn-1)<<<(ns&&&31)))
theorem Xo (l:Launch)(Z:State)(a0:Array Value)(hw: ∀d∈tables_1,d.before a0 Z=true)(ws:List Jvm.Cond)(mb ra:Addr)(kr:ClassId)(ll zz ns:Int32)(f:Nat→Int32)(nn:Nat)(h0:Heap)(n0:Nat)(Z0:n0≤h0.size)(x:Old Z n0 h0)(F:n0≤ra)(y:mb≠ra)(o:Exa Z h0 mb "java/math/MutableBigInteger")(h:Fld Z h0 mb "java/math/MutableBigInteger" "offset" "I" (.int (0:Int32)))(n:Fld Z h0 mb "java/math/MutableBigInteger" "value" "[I" (.ref ra))(k:Fld Z h0 mb "java/math/MutableBigInteger" "intLen" "I" (.int ll))(g:bM Z h0 ra kr zz f)(hll:ll.toInt=nn)(hzz:zz.toInt=nn)(h2:2≤nn)(h9:nn≤9):
  bp l (⟨"java/math/MutableBigInteger","primitiveLeftShift","(I)V"⟩:MethodName) (Jvm.Cond.code (⟨"java/math/MutableBigInteger","primitiveLeftShift","(I)V"⟩:MethodName) jdk_2101_method_42_code 8 none::ws) ({frames:=0,cells:=0,slots:=0,locals:=0}:Room) #[(.ref mb),(.int ns)] Z h0 (Ey Z mb ra kr ll zz ns f nn h0 n0):=by
 refine bI (plainFor_of_name jy) (fun m=>Tq m mb ns) fun p e s m H Q c s₁ hx I R S (T:s.vm.findClass "java/math/MutableBigInteger"=some m.cls) hnm hret X0 hZ e0=> ?_
 have D:=fj I Du
 have a:=bG hx I Du T hZ S hw
 have N0:=Fr.nil n0
 have KP:Keep h0 h0 [ra]:=Keep.refl _ _
 refine ak 1 0 X0 a ?_
 refine aE 4 1 111 X0 a e0 n fun ao w U=> ?_
 refine qu 5 2 #[_,_,_,_,_,_,_,_] w a ?_
 refine bT 7 3 32 w a ?_
 refine au 8 4 w a ?_
 refine dQ 9 5 w a ?_
 refine eO 10 6 #[_,_,_,_,_,_,_,_] w a ?_
 refine ak 11 7 w a ?_
 refine aE 14 8 109 w a U h fun av q J=> ?_
 refine bh 16 9 #[_,_,_,_,_,_,_,_] q a ?_
 refine ak 17 10 q a ?_
 refine aq 19 11 q a ?_
 refine jB 20 0 q hx hZ J g rfl (by omega) (D 12 rfl) rfl ?_
 refine bh 22 13 #[_,_,_,_,_,_,_,_] q a ?_
 refine aq 24 14 q a ?_
 refine ak 25 15 q a ?_
 refine aE 28 16 113 q a J k fun aw B V=> ?_
 refine bJ 29 17 B a ?_
 refine aB 30 18 1 B a ?_
 refine dQ 31 19 B a ?_
 generalize K:(((0:Int32)+ll)-(1:Int32))=mm
 have hm:mm.toInt=((nn-1:Nat):Int):=K▸n_ (j:=1) (lJ (i:=0) rfl hll (by omega):_=((0+nn:Nat):Int)) rfl (by omega)|>.trans (by omega)
 refine bh 33 20 #[_,_,_,_,_,_,_,_] B a ?_
 have LP: ∀r:Nat,∀(G:State) (t:Heap) (L:List Loc) (i:Nat) (u:Int32) (g7:Slot),Stand p l e ({frames:=0,cells:=0,slots:=0,locals:=0}:Room) s m #[(.ref mb),(.int ns)] H Q c G L 0 0→G.heap=t→Fr n0 L→Old Z n0 t→Keep h0 t [ra]→Exa Z t mb "java/math/MutableBigInteger"→Fld Z t mb "java/math/MutableBigInteger" "offset" "I" (.int (0:Int32))→Fld Z t mb "java/math/MutableBigInteger" "value" "[I" (.ref ra)→Fld Z t mb "java/math/MutableBigInteger" "intLen" "I" (.int ll)→bM Z t ra kr zz (mz ns f i)→i+r+1=nn→u.toInt=i→i_ g7→ay p e H (gb s (Ey Z mb ra kr ll zz ns f nn h0 n0) ({frames:=0,cells:=0,slots:=0,locals:=0}:Room).cells ({frames:=0,cells:=0,slots:=0,locals:=0}:Room).slots) G (mkF m 33 #[rv mb,iv ns,rv ra,iv ((32:Int32)-ns),iv u,iv (f i),iv mm,g7] []):=by
  intro r
  induction r with
  |zero=>
   intro ax aA aC i u g7 z W X x KP o h n k g hr hi c7
   refine aq 35 21 z a ?_
   refine aq 37 22 z a ?_
   refine bQ 71 23 z a rfl (flt (jJ hi hm (by omega))).2.1 ?_
   refine ak 72 44 z a ?_
   refine ak 73 45 z a ?_
   refine aE 76 46 109 z a W h fun aD M Y=> ?_
   refine ak 77 47 M a ?_
   refine aE 80 48 113 M a Y k fun aF v N=> ?_
   refine bJ 81 49 v a ?_
   refine aB 82 50 1 v a ?_
   refine dQ 83 51 v a ?_
   rw[K]
   refine HX 84 v hx (D 52 rfl) rfl rfl rfl ?_
   refine jB 85 (nn-1) v hx hZ N g hm (by omega) (D 53 rfl) rfl ?_
   rw[Bx (f:=f) (by omega:i≤nn-1)]
   refine au 86 54 v a ?_
   refine nG 87 55 v a ?_
   refine jW 88 (nn-1) v hx hZ N g hm (by omega) (D 56 rfl) rfl fun aH aK O ad C ae=> ?_
   have af:=Fr.snoc O X F
   have KP:=KP.wr C (Or.inl (List.mem_of_getElem? (i:=0) rfl))
   have o:=o.wr C
   have h:=h.other C (Or.inl y)
   have n:=n.other C (Or.inl y)
   have k:=k.other C (Or.inl y)
   have g:=ae
   obtain rfl:i=nn-1:=by omega
   exact jE 57 O a hret R (by rw[ad];exact ⟨rfl,af,KP,o,h,n,k,g⟩)
  |succ r IH=>
   intro aL aM aN i u g7 b P ag x KP o h n k g hr hi c7
   refine aq 35 21 b a ?_
   refine aq 37 22 b a ?_
   refine bY 40 23 b a rfl (tlt (lg hi hm (by omega))).2.1 ?_
   refine aq 42 24 b a ?_
   refine ku 44 7 #[rv mb,iv ns,rv ra,iv ((32:Int32)-ns),iv u,iv (f i),iv mm,iv (f i)] b hx (D 25 rfl) rfl c7 rfl rfl ?_
   have hi1:(u+(1:Int32)).toInt=((i+1:Nat):Int):=lJ hi rfl (by omega)
   refine ak 45 26 b a ?_
   refine aq 47 27 b a ?_
   refine aB 48 28 1 b a ?_
   refine bJ 49 29 b a ?_
   refine jB 50 (i+1) b hx hZ P g hi1 (by omega) (D 30 rfl) rfl ?_
   rw[Bx (f:=f) (by omega:i≤i+1)]
   refine bh 52 31 #[_,_,_,_,_,_,_,_] b a ?_
   refine ak 53 32 b a ?_
   refine aq 55 33 b a ?_
   refine aq 57 34 b a ?_
   refine au 58 35 b a ?_
   refine nG 59 36 b a ?_
   refine aq 61 37 b a ?_
   refine au 62 38 b a ?_
   refine jw 63 39 b a ?_
   refine sY 64 40 b a ?_
   refine jW 65 i b hx hZ P g hi (by omega) (D 41 rfl) rfl fun aO aP E ai A al=> ?_
   have am:=Fr.snoc E ag F
   have x:=x.wr A F
   have KP:=KP.wr A (Or.inl (List.mem_of_getElem? (i:=0) rfl))
   have o:=o.wr A
   have h:=h.other A (Or.inl y)
   have n:=n.other A (Or.inl y)
   have k:=k.other A (Or.inl y)
   have g:=al
   refine dG 68 42 #[_,_,_,_,iv (u+(1:Int32)),_,_,_] E a ?_
   refine bL 33 43 E a ?_
   exact IH _ _ _ (i+1) (u+(1:Int32)) _ E ai am x KP o h n k (Iq g) (by omega) hi1 ⟨rfl,rfl⟩
 exact LP (nn-1) _ _ _ 0 (0:Int32) .unset B V N0 x KP o h n k (by rw[Io];exact g) (by omega) rfl ⟨rfl,rfl⟩
def Xp (Z:State)(mb ra:Addr)(kr:ClassId)(ll zz sh:Int32)(f:Nat→Int32)(nn:Nat)(h0:Heap)(n0:Nat)(v:Option Value)(h:Heap)(L:List Loc):Prop:=v=none∧Fr n0 L∧Keep h0 h [mb,ra]∧Exa Z h mb "java/math/MutableBigInteger"∧Fld Z h mb "java/math/MutableBigInteger" "offset" "I" (.int (0:Int32))∧Fld Z h mb "java/math/MutableBigInteger" "value" "[I" (.ref ra)∧Fld Z h mb "java/math/MutableBigInteger" "intLen" "I" (.int (ll-(1:Int32)))∧bM Z h ra kr zz (fJ (mz ((32:Int32)-sh) f (nn-1)) (nn-1) (f (nn-1)<<<(((32:Int32)-sh)&&&31)))
theorem Xq (l:Launch)(Z:State)(a0:Array Value)(hw: ∀d∈tables_1,d.before a0 Z=true)(ws:List Jvm.Cond)(mb ra:Addr)(kr:ClassId)(ll zz sh:Int32)(f:Nat→Int32)(nn:Nat)(h0:Heap)(n0:Nat)(Z0:n0≤h0.size)(y:Old Z n0 h0)(ks:Nat)(z:n0≤mb)(K:n0≤ra)(u:mb≠ra)(h:Exa Z h0 mb "java/math/MutableBigInteger")(k:Fld Z h0 mb "java/math/MutableBigInteger" "offset" "I" (.int (0:Int32)))(n:Fld Z h0 mb "java/math/MutableBigInteger" "value" "[I" (.ref ra))(b:Fld Z h0 mb "java/math/MutableBigInteger" "intLen" "I" (.int ll))(q:bM Z h0 ra kr zz f)(hll:ll.toInt=nn)(hzz:zz.toInt=nn)(h2:2≤nn)(h9:nn≤9)(hs:sh.toInt=(ks:Int))(h1k:1≤ks)(hk:ks≤31)(hf0:f 0=0):
  bp l (⟨"java/math/MutableBigInteger","rightShift","(I)V"⟩:MethodName) (Jvm.Cond.code (⟨"java/math/MutableBigInteger","rightShift","(I)V"⟩:MethodName) jdk_2101_method_35_code 5 none::ws) ({frames:=2,cells:=0,slots:=0,locals:=34}:Room) #[(.ref mb),(.int sh)] Z h0 (Xp Z mb ra kr ll zz sh f nn h0 n0):=by
 refine bI (plainFor_of_name jy) (fun m=>Tv m mb sh) fun p e s m av aw c s₁ hx G L M (N:s.vm.findClass "java/math/MutableBigInteger"=some m.cls) hnm hret X0 hZ e0=> ?_
 have D:=fj G Dv
 have a:=bG hx G Dv N hZ M hw
 have N0:=Fr.nil n0
 have KP:Keep h0 h0 [mb,ra]:=Keep.refl _ _
 refine ak 1 0 X0 a ?_
 refine aE 4 1 113 X0 a e0 b fun ax g O=> ?_
 refine bk 8 2 g a rfl ((if0 _ _).trans (feq (qU hll (by omega))).2) ?_
 refine au 9 4 g a ?_
 refine aB 10 5 5 g a ?_
 refine jw 11 6 g a ?_
 rw[yt hs hk]
 refine eO 12 7 #[_,_,_,_,_] g a ?_
 refine au 13 8 g a ?_
 refine bT 15 9 31 g a ?_
 refine pz 16 10 g a ?_
 rw[yu hs hk]
 refine eO 17 11 #[_,_,_,_,_] g a ?_
 refine ak 18 12 g a ?_
 refine jh 19 13 g a ?_
 refine aE 22 14 113 g a O b fun aA A P=> ?_
 refine au 23 15 A a ?_
 refine dQ 24 16 A a ?_
 rw[BF ll]
 refine fh 27 17 113 102 A a P b h (Or.inl (aj hw 114 rfl)) (ty:= .int) fun aC B w Q r=> ?_
 have R:=Fr.snoc w N0 z
 have S:Fld Z B mb "java/math/MutableBigInteger" "intLen" "I" (.int ll):=b.same r
 have y:=y.wr r z
 have KP:=KP.wr r (Or.inl (List.mem_of_getElem? (i:=0) rfl))
 have h:=h.wr r
 have k:=k.other r (Or.inr (slot_ne (Or.inl (aj hw 110 rfl)) (Or.inl (aj hw 114 rfl)) (by decide) (t:= .int) (t':= .int) (by decide) (by decide)))
 have n:=n.other r (Or.inr (slot_ne (Or.inl (aj hw 112 rfl)) (Or.inl (aj hw 114 rfl)) (by decide) (t:=(.array .int)) (t':= .int) (by decide) (by decide)))
 have q:=q.other r (Ne.symm u)
 have b:=S
 refine au 28 18 w a ?_
 refine bk 32 19 w a rfl ((if0 _ _).trans (feq (qU hs h1k)).2) ?_
 refine ak 33 21 w a ?_
 refine aE 36 22 111 w a Q n fun aD H T=> ?_
 refine ak 37 23 H a ?_
 refine aE 40 24 109 H a T k fun aF I J=> ?_
 refine jB 41 0 I hx hZ J q rfl (by omega) (D 25 rfl) rfl ?_
 rw[hf0]
 refine bZ 44 1 0 0 0 26 286 287 24 288 I a (Xk l Z a0 hw [] B n0 (Nat.le_trans Z0 KP.1) y) mX J fun _ aH aK o U=> ?_
 obtain ⟨rfl,V,W⟩:=U
 have X:=Fr.app R V
 refine aJ [_] ?_
 refine bh 46 27 #[_,_,_,_,_] o a ?_
 refine au 47 28 o a ?_
 refine aq 49 29 o a ?_
 refine bY 52 30 o a rfl (flt (jJ hs (j:=0) rfl (by omega))).1 ?_
 refine ak 53 31 o a ?_
 refine bT 55 32 32 o a ?_
 refine au 56 33 o a ?_
 refine dQ 57 34 o a ?_
 refine ly 60 1 0 0 0 35 290 291 293 292 103 294 o a (Xo l Z a0 hw [] mb ra kr ll zz ((32:Int32)-sh) f nn B n0 (Nat.le_trans Z0 KP.1) y K u h k n b q hll hzz h2 h9) xB W h fun _ aL aM C Y=> ?_
 obtain ⟨rfl,ad,x,-,aN,aO,aP,ae⟩:=Y
 have af:=Fr.app X ad
 have KP:=KP.trans x (allS (Or.inl (List.mem_of_getElem? (i:=1) rfl)) all0)
 have h:=h.keep x
 have k:=k.keep x (ninS u nin0)
 have n:=n.keep x (ninS u nin0)
 have b:=b.keep x (ninS u nin0)
 refine aJ [] ?_
 have q:=ae
 refine ak 61 36 C a ?_
 refine jh 62 37 C a ?_
 refine aE 65 38 113 C a rfl b fun aQ E ag=> ?_
 refine aB 66 39 1 E a ?_
 refine dQ 67 40 E a ?_
 refine fh 70 41 113 102 E a ag b h (Or.inl (aj hw 114 rfl)) (ty:= .int) fun aS ai F al v=> ?_
 have am:=Fr.snoc F af z
 have ao:Fld Z ai mb "java/math/MutableBigInteger" "intLen" "I" (.int (ll-(1:Int32))):=b.same v
 have KP:=KP.wr v (Or.inl (List.mem_of_getElem? (i:=0) rfl))
 have h:=h.wr v
 have k:=k.other v (Or.inr (slot_ne (Or.inl (aj hw 110 rfl)) (Or.inl (aj hw 114 rfl)) (by decide) (t:= .int) (t':= .int) (by decide) (by decide)))
 have n:=n.other v (Or.inr (slot_ne (Or.inl (aj hw 112 rfl)) (Or.inl (aj hw 114 rfl)) (by decide) (t:=(.array .int)) (t':= .int) (by decide) (by decide)))
 have q:=q.other v (Ne.symm u)
 have b:=ao
 refine bL 78 42 F a ?_
 exact jE 46 F a hret L (by rw[al];exact ⟨rfl,am,KP,h,k,n,b,q⟩)
def zF (Z:State)(mb ra:Addr)(f:Nat→Int32)(il:Nat)(h0:Heap)(n0:Nat)(v:Option Value)(h:Heap)(L:List Loc):Prop:=v=none∧Fr n0 L∧Keep h0 h [mb]∧ ∃oo l2:Int32,Exa Z h mb "java/math/MutableBigInteger"∧Fld Z h mb "java/math/MutableBigInteger" "offset" "I" (.int oo)∧Fld Z h mb "java/math/MutableBigInteger" "value" "[I" (.ref ra)∧Fld Z h mb "java/math/MutableBigInteger" "intLen" "I" (.int l2)∧oE oo l2 il f
theorem zG (l:Launch)(Z:State)(a0:Array Value)(hw: ∀d∈tables_1,d.before a0 Z=true)(ws:List Jvm.Cond)(mb ra:Addr)(f:Nat→Int32)(il:Nat)(h0:Heap)(n0:Nat)(Z0:n0≤h0.size)(w:Old Z n0 h0)(kr:ClassId)(ll zz:Int32)(M:n0≤mb)(a5:ra≠mb)(h:Exa Z h0 mb "java/math/MutableBigInteger")(b:Fld Z h0 mb "java/math/MutableBigInteger" "offset" "I" (.int (0:Int32)))(j:Fld Z h0 mb "java/math/MutableBigInteger" "value" "[I" (.ref ra))(g:Fld Z h0 mb "java/math/MutableBigInteger" "intLen" "I" (.int ll))(n:bM Z h0 ra kr zz f)(hll:ll.toInt=il)(hzz:(il:Int)≤zz.toInt)(h1:1≤il)(h9:il≤9):
  bp l (⟨"java/math/MutableBigInteger","normalize","()V"⟩:MethodName) (Jvm.Cond.code (⟨"java/math/MutableBigInteger","normalize","()V"⟩:MethodName) jdk_2101_method_21_code 4 none::ws) ({frames:=0,cells:=0,slots:=0,locals:=0}:Room) #[(.ref mb)] Z h0 (zF Z mb ra f il h0 n0):=by
 refine bI (plainFor_of_name jy) (fun m=>Tw m mb) fun p e s m K W c s₁ hx X N al (am:s.vm.findClass "java/math/MutableBigInteger"=some m.cls) hnm hret X0 hZ e0=> ?_
 have D:=fj X Dx
 have a:=bG hx X Dx am hZ al hw
 have N0:=Fr.nil n0
 have KP:Keep h0 h0 [mb]:=Keep.refl _ _
 refine ak 1 0 X0 a ?_
 refine aE 4 1 113 X0 a e0 g fun a6 O ao=> ?_
 refine bk 13 2 O a rfl ((if0 _ _).trans (feq (qU hll (by omega))).2) ?_
 refine ak 14 7 O a ?_
 refine aE 17 8 109 O a ao b fun a7 P av=> ?_
 refine eO 18 9 #[_,_,_,_] P a ?_
 refine ak 19 10 P a ?_
 refine aE 22 11 111 P a av j fun a8 u Q=> ?_
 refine au 23 12 u a ?_
 refine jB 24 0 u hx hZ Q n rfl (by omega) (D 13 rfl) rfl ?_
 by_cases hf0:(f 0)=(0:Int32)
 ·refine bk 28 14 u a rfl ((if0 _ _).trans (teq hf0).1) ?_
  refine au 29 16 u a ?_
  refine ak 30 17 u a ?_
  refine aE 33 18 113 u a Q g fun a9 R aw=> ?_
  refine bJ 34 19 R a ?_
  rw[vX ll]
  refine eO 35 20 #[_,_,_,_] R a ?_
  have EX: ∀(y:State) (k:Heap) (E:List Loc) (z:Nat) (jz:Int32),Stand p l e ({frames:=0,cells:=0,slots:=0,locals:=0}:Room) s m #[(.ref mb)] K W c y E 0 0→y.heap=k→Fr n0 E→Old Z n0 k→Keep h0 k [mb]→Exa Z k mb "java/math/MutableBigInteger"→Fld Z k mb "java/math/MutableBigInteger" "offset" "I" (.int (0:Int32))→Fld Z k mb "java/math/MutableBigInteger" "value" "[I" (.ref ra)→Fld Z k mb "java/math/MutableBigInteger" "intLen" "I" (.int ll)→bM Z k ra kr zz f→z≤il→jz.toInt=z→1≤z→(∀x,x<z→f x=0)→(z<il→ ¬f z=0)→ay p e K (gb s (zF Z mb ra f il h0 n0) ({frames:=0,cells:=0,slots:=0,locals:=0}:Room).cells ({frames:=0,cells:=0,slots:=0,locals:=0}:Room).slots) y (mkF m 52 #[rv mb,iv jz,iv ll,.unset] []):=by
   intro a_ a' bb z jz S ax aA w KP h b j g n hz Y h1 hlt hnz
   refine au 53 30 S a ?_
   refine ak 54 31 S a ?_
   refine aE 57 32 109 S a ax b fun bd F aC=> ?_
   refine dQ 58 33 F a ?_
   rw[BF jz]
   refine eO 59 34 #[_,_,_,_] F a ?_
   refine ak 60 35 F a ?_
   refine jh 61 36 F a ?_
   refine aE 64 37 113 F a aC g fun be T aD=> ?_
   refine au 65 38 T a ?_
   refine dQ 66 39 T a ?_
   refine fh 69 40 113 102 T a aD g h (Or.inl (aj hw 114 rfl)) (ty:= .int) fun bf aF L aH G=> ?_
   have ad:=Fr.snoc L aA M
   have aK:Fld Z aF mb "java/math/MutableBigInteger" "intLen" "I" (.int (ll-jz)):=g.same G
   have KP:=KP.wr G (Or.inl (List.mem_of_getElem? (i:=0) rfl))
   have h:=h.wr G
   have b:=b.other G (Or.inr (slot_ne (Or.inl (aj hw 110 rfl)) (Or.inl (aj hw 114 rfl)) (by decide) (t:= .int) (t':= .int) (by decide) (by decide)))
   have j:=j.other G (Or.inr (slot_ne (Or.inl (aj hw 112 rfl)) (Or.inl (aj hw 114 rfl)) (by decide) (t:=(.array .int)) (t':= .int) (by decide) (by decide)))
   have g:=aK
   refine ak 70 41 L a ?_
   refine ak 71 42 L a ?_
   refine aE 74 43 113 L a aH g fun bg A ae=> ?_
   have hl2:(ll-jz).toInt=((il-z:Nat):Int):=n_ hll Y hz
   by_cases hl0:(ll-jz)=(0:Int32)
   ·refine bw 77 44 A a rfl ((if0 _ _).trans (teq hl0).2) ?_
    have ez:z=il:=by have o:(0:Int32).toInt=0:=rfl;rw[hl0] at hl2;omega
    refine aB 78 45 0 A a ?_
    refine bL 87 46 A a ?_
    refine fh 90 51 109 102 A a ae b h (Or.inl (aj hw 110 rfl)) (ty:= .int) fun bj aL af aM H=> ?_
    have aN:=Fr.snoc af ad M
    have aO:Fld Z aL mb "java/math/MutableBigInteger" "offset" "I" (.int (0:Int32)):=b.same H
    have KP:=KP.wr H (Or.inl (List.mem_of_getElem? (i:=0) rfl))
    have h:=h.wr H
    have j:=j.other H (Or.inr (slot_ne (Or.inl (aj hw 112 rfl)) (Or.inl (aj hw 110 rfl)) (by decide) (t:=(.array .int)) (t':= .int) (by decide) (by decide)))
    have g:=g.other H (Or.inr (slot_ne (Or.inl (aj hw 114 rfl)) (Or.inl (aj hw 110 rfl)) (by decide) (t:= .int) (t':= .int) (by decide) (by decide)))
    have b:=aO
    exact jE 52 af a hret N (by rw[aM];exact ⟨rfl,aN,KP,_,_,h,b,j,g,z,hz,hlt,hnz,hl2,fun q=>absurd q (by omega),fun _=>rfl⟩)
   ·refine bk 81 44 A a rfl ((if0 _ _).trans (feq hl0).2) ?_
    refine ak 82 47 A a ?_
    refine aE 85 48 109 A a ae b fun bl U aP=> ?_
    refine au 86 49 U a ?_
    refine bJ 87 50 U a ?_
    rw[vX jz]
    refine fh 90 51 109 102 U a aP b h (Or.inl (aj hw 110 rfl)) (ty:= .int) fun bm aQ ag aS I=> ?_
    have aT:=Fr.snoc ag ad M
    have aU:Fld Z aQ mb "java/math/MutableBigInteger" "offset" "I" (.int jz):=b.same I
    have KP:=KP.wr I (Or.inl (List.mem_of_getElem? (i:=0) rfl))
    have h:=h.wr I
    have j:=j.other I (Or.inr (slot_ne (Or.inl (aj hw 112 rfl)) (Or.inl (aj hw 110 rfl)) (by decide) (t:=(.array .int)) (t':= .int) (by decide) (by decide)))
    have g:=g.other I (Or.inr (slot_ne (Or.inl (aj hw 114 rfl)) (Or.inl (aj hw 110 rfl)) (by decide) (t:= .int) (t':= .int) (by decide) (by decide)))
    have b:=aU
    exact jE 52 ag a hret N (by rw[aS];exact ⟨rfl,aT,KP,_,_,h,b,j,g,z,hz,hlt,hnz,hl2,fun _=>Y,fun q=>absurd (vW (by omega)) hl0⟩)
  have LP: ∀r:Nat,∀(y:State) (k:Heap) (E:List Loc) (i:Nat) (v:Int32),Stand p l e ({frames:=0,cells:=0,slots:=0,locals:=0}:Room) s m #[(.ref mb)] K W c y E 0 0→y.heap=k→Fr n0 E→Old Z n0 k→Keep h0 k [mb]→Exa Z k mb "java/math/MutableBigInteger"→Fld Z k mb "java/math/MutableBigInteger" "offset" "I" (.int (0:Int32))→Fld Z k mb "java/math/MutableBigInteger" "value" "[I" (.ref ra)→Fld Z k mb "java/math/MutableBigInteger" "intLen" "I" (.int ll)→bM Z k ra kr zz f→i+r+1=il→v.toInt=i→(∀x,x≤i→f x=0)→ay p e K (gb s (zF Z mb ra f il h0 n0) ({frames:=0,cells:=0,slots:=0,locals:=0}:Room).cells ({frames:=0,cells:=0,slots:=0,locals:=0}:Room).slots) y (mkF m 35 #[rv mb,iv v,iv ll,.unset] []):=by
   intro r
   induction r with
   |zero=>
    intro bn bo bq i v J aV aX w KP h b j g n hr hi hz
    have hi1:(v+(1:Int32)).toInt=((i+1:Nat):Int):=lJ hi rfl (by omega)
    refine dG 38 21 #[_,iv (v+(1:Int32)),_,_] J a ?_
    refine au 39 22 J a ?_
    refine au 40 23 J a ?_
    refine bQ 52 24 J a rfl (flt (jJ hi1 hll (by omega))).2.1 ?_
    exact EX _ _ _ (i+1) _ J aV aX w KP h b j g n (by omega) hi1 (by omega) (fun x q=>hz x (by omega)) (fun q=>absurd q (by omega))
   |succ r IH=>
    intro br bt bu i v B aZ ai w KP h b j g n hr hi hz
    have hi1:(v+(1:Int32)).toInt=((i+1:Nat):Int):=lJ hi rfl (by omega)
    refine dG 38 21 #[_,iv (v+(1:Int32)),_,_] B a ?_
    refine au 39 22 B a ?_
    refine au 40 23 B a ?_
    refine bY 43 24 B a rfl (tlt (lg hi1 hll (by omega))).2.1 ?_
    refine ak 44 25 B a ?_
    refine aE 47 26 111 B a aZ j fun bv C V=> ?_
    refine au 48 27 C a ?_
    refine jB 49 (i+1) C hx hZ V n hi1 (by omega) (D 28 rfl) rfl ?_
    by_cases hfi:(f (i+1))=(0:Int32)
    ·refine bk 35 29 C a rfl ((if0 _ _).trans (teq hfi).1) ?_
     exact IH _ _ _ (i+1) _ C V ai w KP h b j g n (by omega) hi1 (Iv hz hfi)
    ·refine bw 52 29 C a rfl ((if0 _ _).trans (feq hfi).1) ?_
     exact EX _ _ _ (i+1) _ C V ai w KP h b j g n (by omega) hi1 (by omega) (fun x q=>hz x (by omega)) (fun _=>hfi)
  exact LP (il-1) _ _ _ 0 _ R aw N0 w KP h b j g n (by omega) rfl (Iw hf0)
 ·refine bw 27 14 u a rfl ((if0 _ _).trans (feq hf0).1) ?_
  exact jE 15 u a hret N (by rw[Q];exact ⟨rfl,N0,KP,(0:Int32),ll,h,b,j,g,0,by omega,fun i q=>absurd q (by omega),fun _=>hf0,hll,fun _=>rfl,fun q=>absurd q (by omega)⟩)
def EJ (Z:State)(b:Addr)(kb:ClassId)(zb cn sh:Int32)(f g:Nat→Int32)(d nn:Nat)(h0:Heap)(n0:Nat)(v:Option Value)(h:Heap)(L:List Loc):Prop:=v=none∧Fr n0 L∧Keep h0 h [b]∧bM Z h b kb zb (fJ (nY sh f g d (nn-1)) (d+(nn-1)) (f (nn-1)<<<(sh&&&31)))
theorem EK (l:Launch)(Z:State)(a0:Array Value)(hw: ∀d∈tables_1,d.before a0 Z=true)(ws:List Jvm.Cond)(a b:Addr)(kb:ClassId)(zb cn dd sh:Int32)(f g:Nat→Int32)(d nn:Nat)(h0:Heap)(n0:Nat)(Z0:n0≤h0.size)(u:Old Z n0 h0)(ka:ClassId)(za:Int32)(x:n0≤b)(G:a≠b)(t:bM Z h0 a ka za f)(q:bM Z h0 b kb zb g)(hcn:cn.toInt=nn)(hdd:dd.toInt=d)(h1:1≤nn)(h9:nn≤9)(hd9:d≤9)(hza:(nn:Int)≤za.toInt)(hzb:((d+nn:Nat):Int)≤zb.toInt):
  bp l (⟨"java/math/MutableBigInteger","copyAndShift","([III[III)V"⟩:MethodName) (Jvm.Cond.code (⟨"java/math/MutableBigInteger","copyAndShift","([III[III)V"⟩:MethodName) jdk_2101_method_64_code 10 none::ws) ({frames:=0,cells:=0,slots:=0,locals:=0}:Room) #[(.ref a),(.int (0:Int32)),(.int cn),(.ref b),(.int dd),(.int sh)] Z h0 (EJ Z b kb zb cn sh f g d nn h0 n0):=by
 refine bI (plainFor_of_name jy) (fun m=>Tx m a (0:Int32) cn b dd sh) fun p e s m A H c s₁ hx B I J (K:s.vm.findClass "java/math/MutableBigInteger"=some m.cls) hnm hret X0 hZ e0=> ?_
 have D:=fj B Dz
 have h:=bG hx B Dz K hZ J hw
 have N0:=Fr.nil n0
 have KP:Keep h0 h0 [b]:=Keep.refl _ _
 refine bT 2 0 32 X0 h ?_
 refine aq 4 1 X0 h ?_
 refine dQ 5 2 X0 h ?_
 refine bh 7 3 #[_,_,_,_,_,_,_,_,_,_] X0 h ?_
 refine ak 8 4 X0 h ?_
 refine au 9 5 X0 h ?_
 refine jB 10 0 X0 hx hZ e0 t rfl (by omega) (D 6 rfl) rfl ?_
 refine bh 12 7 #[_,_,_,_,_,_,_,_,_,_] X0 h ?_
 refine aB 13 8 0 X0 h ?_
 refine bh 15 9 #[_,_,_,_,_,_,_,_,_,_] X0 h ?_
 have hm:(cn-(1:Int32)).toInt=((nn-1:Nat):Int):=n_ (j:=1) hcn rfl h1
 have LP: ∀r:Nat,∀(y:State) (v:Heap) (C:List Loc) (i:Nat) (o:Int32) (g9:Slot),Stand p l e ({frames:=0,cells:=0,slots:=0,locals:=0}:Room) s m #[(.ref a),(.int (0:Int32)),(.int cn),(.ref b),(.int dd),(.int sh)] A H c y C 0 0→y.heap=v→Fr n0 C→Old Z n0 v→Keep h0 v [b]→bM Z v a ka za f→bM Z v b kb zb (nY sh f g d i)→i+r+1=nn→o.toInt=i→i_ g9→ay p e A (gb s (EJ Z b kb zb cn sh f g d nn h0 n0) ({frames:=0,cells:=0,slots:=0,locals:=0}:Room).cells ({frames:=0,cells:=0,slots:=0,locals:=0}:Room).slots) y (mkF m 15 #[rv a,iv o,iv cn,rv b,iv dd,iv sh,iv ((32:Int32)-sh),iv (f i),iv o,g9] []):=by
  intro r
  induction r with
  |zero=>
   intro V W X i o g9 n L M u KP t q hr hi c9
   refine aq 17 10 n h ?_
   refine au 18 11 n h ?_
   refine aB 19 12 1 n h ?_
   refine dQ 20 13 n h ?_
   refine bQ 59 14 n h rfl (flt (jJ hi hm (by omega))).2.1 ?_
   obtain rfl:i=nn-1:=by omega
   refine ak 60 36 n h ?_
   refine aq 62 37 n h ?_
   refine au 63 38 n h ?_
   refine bJ 64 39 n h ?_
   refine aB 65 40 1 n h ?_
   refine dQ 66 41 n h ?_
   refine aq 68 42 n h ?_
   refine aq 70 43 n h ?_
   refine nG 71 44 n h ?_
   refine jW 72 (d+(nn-1)) n hx hZ L q ((n_ (j:=1) (lJ hdd hcn (by omega)) rfl (by omega)).trans (by omega)) (by omega) (D 45 rfl) rfl fun Y ad E N O P=> ?_
   have Q:=Fr.snoc E M x
   have KP:=KP.wr O (Or.inl (List.mem_of_getElem? (i:=0) rfl))
   have q:=P
   exact jE 46 E h hret I (by rw[N];exact ⟨rfl,Q,KP,q⟩)
  |succ r IH=>
   intro ae af ag i o g9 k F R u KP t q hr hi c9
   refine aq 17 10 k h ?_
   refine au 18 11 k h ?_
   refine aB 19 12 1 k h ?_
   refine dQ 20 13 k h ?_
   refine bY 23 14 k h rfl (tlt (lg hi hm (by omega))).2.1 ?_
   have hi1:(o+(1:Int32)).toInt=((i+1:Nat):Int):=lJ hi rfl (by omega)
   refine aq 25 15 k h ?_
   refine ku 27 9 #[rv a,iv o,iv cn,rv b,iv dd,iv sh,iv ((32:Int32)-sh),iv (f i),iv o,iv (f i)] k hx (D 16 rfl) rfl c9 rfl rfl ?_
   refine ak 28 17 k h ?_
   refine dG 31 18 #[_,iv (o+(1:Int32)),_,_,_,_,_,_,_,_] k h ?_
   refine au 32 19 k h ?_
   refine jB 33 (i+1) k hx hZ F t hi1 (by omega) (D 20 rfl) rfl ?_
   refine bh 35 21 #[_,_,_,_,_,_,_,_,_,_] k h ?_
   refine ak 36 22 k h ?_
   refine aq 38 23 k h ?_
   refine aq 40 24 k h ?_
   refine bJ 41 25 k h ?_
   refine aq 43 26 k h ?_
   refine aq 45 27 k h ?_
   refine nG 46 28 k h ?_
   refine aq 48 29 k h ?_
   refine aq 50 30 k h ?_
   refine jw 51 31 k h ?_
   refine sY 52 32 k h ?_
   refine jW 53 (d+i) k hx hZ F q (lJ hdd hi (by omega)) (by omega) (D 33 rfl) rfl fun ai al w S z T=> ?_
   have U:=Fr.snoc w R x
   have u:=u.wr z x
   have KP:=KP.wr z (Or.inl (List.mem_of_getElem? (i:=0) rfl))
   have t:=t.other z G
   have q:=T
   refine dG 56 34 #[_,_,_,_,_,_,_,_,iv (o+(1:Int32)),_] w h ?_
   refine bL 15 35 w h ?_
   exact IH _ _ _ (i+1) (o+(1:Int32)) _ w S U u KP t (BA q) (by omega) hi1 ⟨rfl,rfl⟩
 exact LP (nn-1) _ _ _ 0 (0:Int32) .unset X0 e0 N0 u KP t (by rw[Bz];exact q) (by omega) rfl ⟨rfl,rfl⟩
def EY (Z:State)(a:Addr)(ka:ClassId)(za:Int32)(h0:Heap)(n0:Nat)(v:Option Value)(h:Heap)(L:List Loc):Prop:=v=none∧Fr n0 L∧Keep h0 h [a]∧ ∃f',bM Z h a ka za f'
theorem Xt (l:Launch)(Z:State)(a0:Array Value)(hw: ∀d∈tables_1,d.before a0 Z=true)(ws:List Jvm.Cond)(a:Addr)(ka:ClassId)(za:Int32)(h0:Heap)(n0:Nat)(Z0:n0≤h0.size)(j:Old Z n0 h0)(f:Nat→Int32)(nn:Nat)(u:n0≤a)(g:bM Z h0 a ka za f)(hza:za.toInt=nn)(h9:nn≤9):
  bp l (⟨"java/util/Arrays","fill","([II)V"⟩:MethodName) (Jvm.Cond.code (⟨"java/util/Arrays","fill","([II)V"⟩:MethodName) jdk_65_method_103_code 4 none::ws) ({frames:=0,cells:=0,slots:=0,locals:=0}:Room) #[(.ref a),(.int (0:Int32))] Z h0 (EY Z a ka za h0 n0):=by
 refine bI (plainFor_of_name og) (fun m=>Tz m a (0:Int32)) fun p e s m v z c s₁ hx w A B (C:s.vm.findClass "java/util/Arrays"=some m.cls) hnm hret X0 hZ e0=> ?_
 have D:=fj w DA
 have b:=bG hx w DA C hZ B hw
 have N0:=Fr.nil n0
 have KP:Keep h0 h0 [a]:=Keep.refl _ _
 refine aB 1 0 0 X0 b ?_
 refine eO 2 1 #[_,_,_,_] X0 b ?_
 refine ak 3 2 X0 b ?_
 refine bU 4 3 X0 b e0 g ?_
 refine eO 5 4 #[_,_,_,_] X0 b ?_
 have LP: ∀r:Nat,∀(t:State) (n:Heap) (x:List Loc) (fx:Nat→Int32) (i:Nat) (k:Int32),Stand p l e ({frames:=0,cells:=0,slots:=0,locals:=0}:Room) s m #[(.ref a),(.int (0:Int32))] v z c t x 0 0→t.heap=n→Fr n0 x→Old Z n0 n→Keep h0 n [a]→bM Z n a ka za fx→i+r=nn→k.toInt=i→ay p e v (gb s (EY Z a ka za h0 n0) ({frames:=0,cells:=0,slots:=0,locals:=0}:Room).cells ({frames:=0,cells:=0,slots:=0,locals:=0}:Room).slots) t (mkF m 5 #[rv a,iv 0,iv k,iv za] []):=by
  intro r
  induction r with
  |zero=>
   intro L M N fx i k o E F j KP g hr hi
   refine au 6 5 o b ?_
   refine au 7 6 o b ?_
   refine bQ 20 7 o b rfl (flt (jJ hi hza (by omega))).2.1 ?_
   exact jE 14 o b hret A (by rw[E];exact ⟨rfl,F,KP,_,g⟩)
  |succ r IH=>
   intro O P Q fx i k h G H j KP g hr hi
   refine au 6 5 h b ?_
   refine au 7 6 h b ?_
   refine bY 10 7 h b rfl (tlt (lg hi hza (by omega))).2.1 ?_
   refine ak 11 8 h b ?_
   refine au 12 9 h b ?_
   refine au 13 10 h b ?_
   refine jW 14 i h hx hZ G g hi (by omega) (D 11 rfl) rfl fun R S q I y J=> ?_
   have K:=Fr.snoc q H u
   have j:=j.wr y u
   have KP:=KP.wr y (Or.inl (List.mem_of_getElem? (i:=0) rfl))
   have g:=J
   refine dG 17 12 #[_,_,iv (k+(1:Int32)),_] q b ?_
   refine bL 5 13 q b ?_
   exact IH _ _ _ _ (i+1) (k+(1:Int32)) q I K j KP g (by omega) (lJ hi rfl (by omega))
 exact LP nn _ _ _ f 0 (0:Int32) X0 e0 N0 j KP g (by omega) rfl
def zH (Z:State)(a:Addr)(f:Nat→Int32)(fo to:Int32)(i0 n1:Nat)(h0:Heap)(n0:Nat)(v:Option Value)(h:Heap)(L:List Loc):Prop:= ∃(b:Addr) (kb:ClassId),v=some (.ref b)∧Fr n0 L∧Keep h0 h []∧n0≤b∧h0.size≤b∧bM Z h b kb (to-fo) (fun i=>f (i0+i))∧Exa Z h b "[I"
theorem Xu (l:Launch)(Z:State)(a0:Array Value)(hw: ∀d∈tables_1,d.before a0 Z=true)(ws:List Jvm.Cond)(a:Addr)(f:Nat→Int32)(fo to:Int32)(i0 n1:Nat)(h0:Heap)(n0:Nat)(Z0:n0≤h0.size)(q:Old Z n0 h0)(ka:ClassId)(za:Int32)(o:bM Z h0 a ka za f)(hfo:fo.toInt=i0)(hto:to.toInt=((i0+n1:Nat):Int))(hza:((i0+n1:Nat):Int)≤za.toInt)(h9:i0+n1≤9):
  bp l (⟨"java/util/Arrays","copyOfRangeInt","([III)[I"⟩:MethodName) (Jvm.Cond.code (⟨"java/util/Arrays","copyOfRangeInt","([III)[I"⟩:MethodName) jdk_65_method_137_code 5 (some (.array .int))::ws) ({frames:=1,cells:=1,slots:=9,locals:=40}:Room) #[(.ref a),(.int fo),(.int to)] Z h0 (zH Z a f fo to i0 n1 h0 n0):=by
 refine bI (plainFor_of_name og) (fun m=>TF m a fo to) fun p e s m ag ai c s₁ hx A L B (C:s.vm.findClass "java/util/Arrays"=some m.cls) hnm hret X0 hZ e0=> ?_
 have D:=fj A qB
 have b:=bG hx A qB C hZ B hw
 have N0:=Fr.nil n0
 have KP:Keep h0 h0 []:=Keep.refl _ _
 have hnl:(to-fo).toInt=(n1:Int):=(n_ hto hfo (by omega)).trans (by omega)
 have h00: ¬(0:Int32)<0:=by decide
 refine au 1 0 X0 b ?_
 refine au 2 1 X0 b ?_
 refine bZ 5 2 0 0 0 2 61 62 56 63 X0 b (xL l Z a0 hw [] fo to h0 n0 (Nat.le_trans Z0 KP.1) q (jJ hto hfo (by omega))) w_ e0 fun _ al am n M=> ?_
 obtain ⟨rfl,N,O⟩:=M
 have P:=Fr.app N0 N
 refine aJ [] ?_
 refine au 6 3 n b ?_
 refine au 7 4 n b ?_
 refine dQ 8 5 n b ?_
 refine eO 9 6 #[_,_,_,_,_] n b ?_
 refine au 10 7 n b ?_
 obtain ⟨ao,t,u,h,E,v,F,G,H⟩:=newPE n hx hZ (aj hw 52 rfl) O (g:=(mkF m 10 #[rv a,iv fo,iv to,iv (to-fo),.unset] [(.int (to-fo))])) rfl (D 8 rfl) rfl (jJ (j:=0) hnl rfl (by omega)) (cap:=9) (by rw[nJ hnl];omega) (by decide) (by decide) (by decide) (ad:="[I") (by decide)
 obtain ⟨k,w⟩: ∃z,z=h0.size:=⟨_,rfl⟩
 rw[←w] at F G H
 have x:h0.size≤k:=Nat.le_trans KP.1 (Nat.le_of_eq w.symm)
 have I:n0≤k:=Nat.le_trans Z0 x
 have av:a≠k:=Nat.ne_of_lt (Nat.lt_of_lt_of_le o.lt (Nat.le_of_eq w.symm))
 have q:=q.ext v
 have KP:=KP.ext v
 have o:=o.ext v
 have y:Exa Z t k "[I":=G
 have r:bM Z t k u (to-fo) (fun _=>0):=rD (Arv.new F (jJ (j:=0) hnl rfl (by omega)))
 refine aG (mkF m 12 #[rv a,iv fo,iv to,iv (to-fo),.unset] [(.ref k)]) H ?_
 refine gY 14 9 #[_,_,_,_,_] h b ?_
 refine ak 15 10 h b ?_
 refine au 16 11 h b ?_
 refine aR 18 12 h b ?_
 refine aB 19 13 0 h b ?_
 refine ak 20 14 h b ?_
 refine bU 21 15 h b E o ?_
 refine au 22 16 h b ?_
 refine dQ 23 17 h b ?_
 refine au 24 18 h b ?_
 refine bZ 27 2 4 1 9 19 64 65 3 66 h b (xM l Z a0 hw [] (za-fo) (to-fo) t n0 (Nat.le_trans Z0 KP.1) q (jJ (IU hfo (by omega)) hnl (by omega))) xg E fun _ aw ax Q R=> ?_
 obtain ⟨rfl,S,T⟩:=R
 have U:=Fr.app P S
 refine aJ [_,_,_,_,_] ?_
 obtain ⟨aA,V,L351,J,X,Y,K,ae,af⟩:=cpA Q hx hZ C (aj hw 67 rfl) (aj hw 70 rfl) (aj hw 68 rfl) (aj hw 69 rfl) T o r (Or.inl ⟨rfl,rfl⟩) (jJ (j:=0) hfo rfl (by omega)) h00 (jJ (j:=0) hnl rfl (by omega)) (by rw[nJ hfo,nJ hnl];exact BH hza) (by show 0+_≤_;omega) rfl (by rw[vw];show 0+_≤_;omega) U I (g:=(mkF m 27 #[rv a,iv fo,iv to,iv (to-fo),rv k] [(.int (to-fo)),(.int (0:Int32)),(.ref k),(.int fo),(.ref a)])) rfl (by rw[B];rfl) rfl (D 20 rfl) (by decide) (W:=0) (by show 2*0+_≤_;exact Nat.le_of_eq rfl) (by decide)
 have KP:=KP.trans K (allS (Or.inr x) all0)
 have y:=y.keep K
 have r:bM Z V k u (to-fo) (fun i=>f (fo.toNatClampNeg+i)):=Ix rfl (by rw[nJ hfo,nJ hnl];exact BH hza) ae
 refine aG (mkF m 30 #[rv a,iv fo,iv to,iv (to-fo),rv k] []) af ?_
 refine aR 32 21 J b ?_
 rw[nJ hfo] at r
 exact dU 22 J b hret L (by rw[X];exact ⟨k,u,rfl,Y,KP,I,x,r,y⟩)
theorem Xv (l:Launch)(Z:State)(a0:Array Value)(hw: ∀d∈tables_1,d.before a0 Z=true)(ws:List Jvm.Cond)(a:Addr)(f:Nat→Int32)(fo to:Int32)(i0 n1:Nat)(h0:Heap)(n0:Nat)(Z0:n0≤h0.size)(h:Old Z n0 h0)(ka:ClassId)(za:Int32)(g:bM Z h0 a ka za f)(hfo:fo.toInt=i0)(hto:to.toInt=((i0+n1:Nat):Int))(hza:((i0+n1:Nat):Int)≤za.toInt)(h9:i0+n1≤9)(hro:fo=0→ ¬to=za):
  bp l (⟨"java/util/Arrays","copyOfRange","([III)[I"⟩:MethodName) (Jvm.Cond.code (⟨"java/util/Arrays","copyOfRange","([III)[I"⟩:MethodName) jdk_65_method_136_code 3 (some (.array .int))::ws) ({frames:=2,cells:=1,slots:=9,locals:=58}:Room) #[(.ref a),(.int fo),(.int to)] Z h0 (zH Z a f fo to i0 n1 h0 n0):=by
 refine bI (plainFor_of_name og) (fun m=>TJ m a fo to) fun p e s m n q c s₁ hx r t u (v:s.vm.findClass "java/util/Arrays"=some m.cls) hnm hret X0 hZ e0=> ?_
 have b:=bG hx r qD v hZ u hw
 have N0:=Fr.nil n0
 have KP:Keep h0 h0 []:=Keep.refl _ _
 have J: ∀(k:State) (i:Heap) (o:List Loc),Stand p l e ({frames:=2,cells:=1,slots:=9,locals:=58}:Room) s m #[(.ref a),(.int fo),(.int to)] n q c k o 0 0→k.heap=i→Fr n0 o→Old Z n0 i→Keep h0 i []→bM Z i a ka za f→ay p e n (gb s (zH Z a f fo to i0 n1 h0 n0) ({frames:=2,cells:=1,slots:=9,locals:=58}:Room).cells ({frames:=2,cells:=1,slots:=9,locals:=58}:Room).slots) k (mkF m 10 #[rv a,iv fo,iv to] []):=by
  intro L w M j x y h KP g
  refine ak 11 6 j b ?_
  refine au 12 7 j b ?_
  refine au 13 8 j b ?_
  have z:=KP
  refine bZ 16 3 0 1 9 9 58 59 56 60 j b (Xu l Z a0 hw [] a f fo to i0 n1 w n0 (Nat.le_trans Z0 KP.1) h ka za g hfo hto hza h9) pL x fun _ N O A B=> ?_
  obtain ⟨bb,C,rfl,D,E,F,G,H⟩:=B
  have I:=Fr.app y D
  have KP:=KP.trans E all0
  refine aJ [_] ?_
  have K:h0.size≤bb:=Nat.le_trans z.1 G
  exact dU 10 A b hret t (by exact ⟨bb,C,rfl,I,KP,F,K,H⟩)
 refine au 1 0 X0 b ?_
 by_cases hf:fo=(0:Int32)
 ·refine bw 4 1 X0 b rfl ((if0 _ _).trans (teq hf).2) ?_
  refine au 5 2 X0 b ?_
  refine ak 6 3 X0 b ?_
  refine bU 7 4 X0 b e0 g ?_
  refine bY 10 5 X0 b rfl (feq (hro hf)).1 ?_
  exact J _ _ _ X0 e0 N0 h KP g
 ·refine bk 10 1 X0 b rfl ((if0 _ _).trans (feq hf).2) ?_
  exact J _ _ _ X0 e0 N0 h KP g
def E_ (Z:State)(mb ra:Addr)(f:Nat→Int32)(l2:Int32)(i0:Nat)(h0:Heap)(n0:Nat)(v:Option Value)(h:Heap)(L:List Loc):Prop:= ∃(b:Addr) (kb:ClassId),v=some (.ref b)∧Fr n0 L∧Keep h0 h [mb,ra]∧(b=ra∨h0.size≤b)∧n0≤b∧bM Z h b kb l2 (fun i=>f (i0+i))∧Exa Z h b "[I"
theorem Xw (l:Launch)(Z:State)(a0:Array Value)(hw: ∀d∈tables_1,d.before a0 Z=true)(ws:List Jvm.Cond)(mb ra:Addr)(f:Nat→Int32)(l2:Int32)(i0:Nat)(h0:Heap)(n0:Nat)(Z0:n0≤h0.size)(u:Old Z n0 h0)(kr:ClassId)(oo zz:Int32)(n1 nz:Nat)(F:n0≤mb)(P:n0≤ra)(G:mb≠ra)(g:Exa Z h0 mb "java/math/MutableBigInteger")(j:Fld Z h0 mb "java/math/MutableBigInteger" "offset" "I" (.int oo))(b:Fld Z h0 mb "java/math/MutableBigInteger" "value" "[I" (.ref ra))(h:Fld Z h0 mb "java/math/MutableBigInteger" "intLen" "I" (.int l2))(n:bM Z h0 ra kr zz f)(C:Exa Z h0 ra "[I")(hoo:oo.toInt=i0)(hl2:l2.toInt=n1)(h1:1≤n1)(hzz:zz.toInt=nz)(hle:i0+n1≤nz)(h9:nz≤9):
  bp l (⟨"java/math/MutableBigInteger","getMagnitudeArray","()[I"⟩:MethodName) (Jvm.Cond.code (⟨"java/math/MutableBigInteger","getMagnitudeArray","()[I"⟩:MethodName) jdk_2101_method_7_code 2 (some (.array .int))::ws) ({frames:=3,cells:=1,slots:=9,locals:=80}:Room) #[(.ref mb)] Z h0 (E_ Z mb ra f l2 i0 h0 n0):=by
 refine bI (plainFor_of_name jy) (fun m=>TT m mb) fun p e s m Q ai c s₁ hx al R am (ao:s.vm.findClass "java/math/MutableBigInteger"=some m.cls) hnm hret X0 hZ e0=> ?_
 have a:=bG hx al OU ao hZ am hw
 have N0:=Fr.nil n0
 have KP:Keep h0 h0 [mb,ra]:=Keep.refl _ _
 have J: ∀(H:State) (o:Heap) (S:List Loc),Stand p l e ({frames:=3,cells:=1,slots:=9,locals:=80}:Room) s m #[(.ref mb)] Q ai c H S 0 0→H.heap=o→Fr n0 S→Old Z n0 o→Keep h0 o [mb,ra]→Exa Z o mb "java/math/MutableBigInteger"→Fld Z o mb "java/math/MutableBigInteger" "offset" "I" (.int oo)→Fld Z o mb "java/math/MutableBigInteger" "value" "[I" (.ref ra)→Fld Z o mb "java/math/MutableBigInteger" "intLen" "I" (.int l2)→bM Z o ra kr zz f→Exa Z o ra "[I"→(oo=0→ ¬(oo+l2)=zz)→ay p e Q (gb s (E_ Z mb ra f l2 i0 h0 n0) ({frames:=3,cells:=1,slots:=9,locals:=80}:Room).cells ({frames:=3,cells:=1,slots:=9,locals:=80}:Room).slots) H (mkF m 19 #[rv mb,.unset] []):=by
  intro bl av bm T aw ax u KP g j b h n C hro
  refine ak 20 9 T a ?_
  refine aE 23 10 111 T a aw b fun bn U aA=> ?_
  refine ak 24 11 U a ?_
  refine aE 27 12 109 U a aA j fun bo V aC=> ?_
  refine ak 28 13 V a ?_
  refine aE 31 14 109 V a aC j fun bq W aD=> ?_
  refine ak 32 15 W a ?_
  refine aE 35 16 113 W a aD h fun br X aF=> ?_
  refine bJ 36 17 X a ?_
  have aH:=KP
  have aK:=g.lt
  have aL:=n.lt
  refine bZ 39 3 0 1 9 18 137 55 56 57 X a (Xv l Z a0 hw [] ra f oo (oo+l2) i0 n1 av n0 (Nat.le_trans Z0 KP.1) u kr zz n hoo (lJ hoo hl2 (by omega)) (by omega) (by omega) hro) pL aF fun _ aM bt I aN=> ?_
  obtain ⟨bb,aO,rfl,aP,v,aQ,K,k,r⟩:=aN
  have aS:=Fr.app ax aP
  have u:=u.keep v all0
  have KP:=KP.trans v all0
  have g:=g.keep v
  have j:=j.keep v nin0
  have b:=b.keep v nin0
  have h:=h.keep v nin0
  have n:=n.keep v nin0
  refine aJ [_] ?_
  have aT:h0.size≤bb:=Nat.le_trans aH.1 K
  have L:mb≠bb:=Nat.ne_of_lt (Nat.lt_of_lt_of_le aK K)
  have aU:ra≠bb:=Nat.ne_of_lt (Nat.lt_of_lt_of_le aL K)
  rw[Iz] at k
  refine qu 40 19 #[_,_] I a ?_
  refine ak 41 20 I a ?_
  refine aE 44 21 111 I a rfl b fun bu Y aV=> ?_
  refine aB 45 22 0 Y a ?_
  refine bZ 48 2 0 1 9 23 243 244 56 245 Y a (Xt l Z a0 hw [] ra kr zz aM.heap n0 (Nat.le_trans Z0 KP.1) u f nz P n hzz h9) ke aV fun _ bv bx M aX=> ?_
  obtain ⟨rfl,aZ,w,-⟩:=aX
  have a5:=Fr.app aS aZ
  have KP:=KP.trans w (allS (Or.inl (List.mem_of_getElem? (i:=1) rfl)) all0)
  have g:=g.keep w
  have j:=j.keep w (ninS G nin0)
  have b:=b.keep w (ninS G nin0)
  have h:=h.keep w (ninS G nin0)
  have k:=k.keep w (ninS (Ne.symm aU) nin0)
  have r:=r.keep w
  refine aJ [] ?_
  refine ak 49 24 M a ?_
  refine aB 50 25 0 M a ?_
  refine fh 53 26 109 102 M a rfl j g (Or.inl (aj hw 110 rfl)) (ty:= .int) fun bz bA y ad x=> ?_
  have a6:=Fr.snoc y a5 F
  have KP:=KP.wr x (Or.inl (List.mem_of_getElem? (i:=0) rfl))
  have g:=g.wr x
  have b:=b.other x (Or.inr (slot_ne (Or.inl (aj hw 112 rfl)) (Or.inl (aj hw 110 rfl)) (by decide) (t:=(.array .int)) (t':= .int) (by decide) (by decide)))
  have h:=h.other x (Or.inr (slot_ne (Or.inl (aj hw 114 rfl)) (Or.inl (aj hw 110 rfl)) (by decide) (t:= .int) (t':= .int) (by decide) (by decide)))
  have k:=k.other x (Ne.symm L)
  have r:=r.wr x
  refine ak 54 27 y a ?_
  refine ak 55 28 y a ?_
  refine bU 56 29 y a ad k ?_
  refine fh 59 30 113 102 y a ad h g (Or.inl (aj hw 114 rfl)) (ty:= .int) fun bB bC D a7 z=> ?_
  have a8:=Fr.snoc D a6 F
  have KP:=KP.wr z (Or.inl (List.mem_of_getElem? (i:=0) rfl))
  have g:=g.wr z
  have b:=b.other z (Or.inr (slot_ne (Or.inl (aj hw 112 rfl)) (Or.inl (aj hw 114 rfl)) (by decide) (t:=(.array .int)) (t':= .int) (by decide) (by decide)))
  have k:=k.other z (Ne.symm L)
  have r:=r.wr z
  refine ak 60 31 D a ?_
  refine ak 61 32 D a ?_
  refine fh 64 33 111 102 D a a7 b g (Or.inl (aj hw 112 rfl)) (ty:=(.array .int)) fun bE a9 N a_ E=> ?_
  have a':=Fr.snoc N a8 F
  have bd:Fld Z a9 mb "java/math/MutableBigInteger" "value" "[I" (.ref bb):=b.same E
  have KP:=KP.wr E (Or.inl (List.mem_of_getElem? (i:=0) rfl))
  have k:=k.other E (Ne.symm L)
  have r:=r.wr E
  have b:=bd
  refine ak 65 34 N a ?_
  refine aE 68 35 111 N a a_ b fun bF be bf=> ?_
  exact dU 36 be a hret R (by rw[bf];exact ⟨bb,aO,rfl,a',KP,Or.inr aT,aQ,k,r⟩)
 refine ak 1 0 X0 a ?_
 refine aE 4 1 109 X0 a e0 j fun bH A ae=> ?_
 by_cases hgt:(0:Int32)<oo
 ·refine bk 19 2 A a rfl ((if0 _ _).trans (tlt hgt).2.2.1) ?_
  exact J _ _ _ A ae N0 u KP g j b h n C (fun q=>absurd q (IQ hoo hgt))
 ·refine bw 7 2 A a rfl ((if0 _ _).trans (flt hgt).2.2.1) ?_
  have hi0:=IK hoo hgt
  refine ak 8 3 A a ?_
  refine aE 11 4 111 A a ae b fun bK O af=> ?_
  refine bU 12 5 O a af n ?_
  refine ak 13 6 O a ?_
  refine aE 16 7 113 O a af h fun bN B ag=> ?_
  by_cases heq:zz=l2
  ·refine bQ 64 8 B a rfl (teq heq).1 ?_
   refine ak 65 34 B a ?_
   refine aE 68 35 111 B a ag b fun bP bg bj=> ?_
   subst heq
   exact dU 36 bg a hret R (by rw[bj];exact ⟨ra,kr,rfl,N0,KP,Or.inl rfl,P,n.fe (fun i _=>by rw[hi0];exact congrArg f (Nat.zero_add i).symm),C⟩)
  ·refine bY 19 8 B a rfl (feq heq).1 ?_
   exact J _ _ _ B ag N0 u KP g j b h n C (IV heq)
def Xx (Z:State)(mb ra:Addr)(f:Nat→Int32)(l2:Int32)(i0:Nat)(h0:Heap)(n0:Nat)(v:Option Value)(h:Heap)(L:List Loc):Prop:= ∃(x b:Addr) (kb:ClassId),v=some (.ref x)∧Fr n0 L∧Keep h0 h [mb,ra]∧h0.size≤x∧(b=ra∨h0.size≤b)∧n0≤b∧Exa Z h x "java/math/BigInteger"∧Fld Z h x "java/math/BigInteger" "signum" "I" (.int (1:Int32))∧Fld Z h x "java/math/BigInteger" "mag" "[I" (.ref b)∧bM Z h b kb l2 (fun i=>f (i0+i))∧Exa Z h b "[I"
theorem Fb (l:Launch)(Z:State)(a0:Array Value)(hw: ∀d∈tables_1,d.before a0 Z=true)(ws:List Jvm.Cond)(mb ra:Addr)(f:Nat→Int32)(l2:Int32)(i0:Nat)(h0:Heap)(n0:Nat)(Z0:n0≤h0.size)(k:Old Z n0 h0)(kr:ClassId)(oo zz:Int32)(n1 nz:Nat)(L:n0≤mb)(M:n0≤ra)(W:mb≠ra)(n:Exa Z h0 mb "java/math/MutableBigInteger")(y:Fld Z h0 mb "java/math/MutableBigInteger" "offset" "I" (.int oo))(A:Fld Z h0 mb "java/math/MutableBigInteger" "value" "[I" (.ref ra))(r:Fld Z h0 mb "java/math/MutableBigInteger" "intLen" "I" (.int l2))(o:bM Z h0 ra kr zz f)(B:Exa Z h0 ra "[I")(hoo:oo.toInt=i0)(hl2:l2.toInt=n1)(h1:1≤n1)(hzz:zz.toInt=nz)(hle:i0+n1≤nz)(h9:nz≤9):
  bp l (⟨"java/math/MutableBigInteger","toBigInteger","(I)Ljava/math/BigInteger;"⟩:MethodName) (Jvm.Cond.code (⟨"java/math/MutableBigInteger","toBigInteger","(I)Ljava/math/BigInteger;"⟩:MethodName) jdk_2101_method_9_code 2 (some (.object "java/math/BigInteger"))::ws) ({frames:=4,cells:=2,slots:=15,locals:=100}:Room) #[(.ref mb),(.int (1:Int32))] Z h0 (Xx Z mb ra f l2 i0 h0 n0):=by
 refine bI (plainFor_of_name jy) (fun m=>Ua m mb (1:Int32)) fun p e s m aL aM c s₁ hx N X Y (O:s.vm.findClass "java/math/MutableBigInteger"=some m.cls) hnm hret X0 hZ e0=> ?_
 have D:=fj N wQ
 have a:=bG hx N wQ O hZ Y hw
 have N0:=Fr.nil n0
 have KP:Keep h0 h0 [mb,ra]:=Keep.refl _ _
 refine ak 1 0 X0 a ?_
 refine aE 4 1 113 X0 a e0 r fun aN t ad=> ?_
 refine bw 7 2 t a rfl ((if0 _ _).trans (feq (qU hl2 (by omega))).1) ?_
 refine au 8 3 t a ?_
 refine bk 15 4 t a rfl ((if0 _ _).trans (feq (by decide: ¬((1:Int32)=(0:Int32)))).2) ?_
 obtain ⟨aO,u,C,ae,h,P,E,-,Q⟩:=newO t hx hZ O (aj hw 153 rfl) (aj hw 72 rfl) (aj hw 24 rfl) ad (g:=(mkF m 15 #[rv mb,iv 1] [])) rfl (D 7 rfl) (by decide) (by decide)
 obtain ⟨b,v⟩: ∃z,z=h0.size:=⟨_,rfl⟩
 rw[←v] at P E Q
 have F:h0.size≤b:=Nat.le_trans KP.1 (Nat.le_of_eq v.symm)
 have af:n0≤b:=Nat.le_trans Z0 F
 have R:mb≠b:=Nat.ne_of_lt (Nat.lt_of_lt_of_le n.lt (Nat.le_of_eq v.symm))
 have G:ra≠b:=Nat.ne_of_lt (Nat.lt_of_lt_of_le o.lt (Nat.le_of_eq v.symm))
 have k:=k.ext h
 have KP:=KP.ext h
 have n:=n.ext h
 have y:=y.ext h
 have A:=A.ext h
 have r:=r.ext h
 have o:=o.ext h
 have B:=B.ext h
 have w:Exa Z u b "java/math/BigInteger":=P
 have H:Fld Z u b "java/math/BigInteger" "signum" "I" (.int (0:Int32)):=E (Or.inr (aj hw 39 rfl)) (ty:= .int) (by decide)
 have I:Fld Z u b "java/math/BigInteger" "mag" "[I" .null:=E (Or.inr (aj hw 41 rfl)) (ty:=(.array .int)) (by decide)
 refine aG (mkF m 18 #[rv mb,iv 1] [(.ref b)]) Q ?_
 refine jh 19 8 C a ?_
 refine ak 20 9 C a ?_
 have ag:=KP
 have aP:=n.lt
 have aQ:=o.lt
 have ai:=w.lt
 refine ly 23 0 2 2 15 10 154 155 157 156 103 158 C a (Xw l Z a0 hw [] mb ra f l2 i0 u n0 (Nat.le_trans Z0 KP.1) k kr oo zz n1 nz L M W n y A r o B hoo hl2 h1 hzz hle h9) Qd ae n fun _ al aS S am=> ?_
 obtain ⟨bb,T,rfl,ao,q,U,av,x,J⟩:=am
 have aw:=Fr.app N0 ao
 have k:=k.keep q (allS L (allS M all0))
 have KP:=KP.trans q (allS (Or.inl (List.mem_of_getElem? (i:=0) rfl)) (allS (Or.inl (List.mem_of_getElem? (i:=1) rfl)) all0))
 have w:=w.keep q
 have H:=H.keep q (ninS (Ne.symm R) (ninS (Ne.symm G) nin0))
 have I:=I.keep q (ninS (Ne.symm R) (ninS (Ne.symm G) nin0))
 refine aJ [_,_,_] ?_
 have V:=rF U G ai
 refine au 24 11 S a ?_
 refine iJ 27 2 1 2 15 12 159 74 24 76 S a (mq l Z a0 hw [] b bb al.heap n0 (Nat.le_trans Z0 KP.1) k af w H I T l2 _ V x (qU hl2 (by omega)) (lg (j:=67108864) hl2 rfl (by omega))) ke rfl rfl fun _ aT aU ax aA=> ?_
 obtain ⟨rfl,aC,K,aD,aF,aH⟩:=aA
 have aK:=Fr.app aw aC
 have KP:=KP.trans K (allS (Or.inr F) all0)
 have x:=x.keep K (ninS V nin0)
 have J:=J.keep K
 refine aJ [_] ?_
 exact dU 13 ax a hret X (by exact ⟨b,bb,T,rfl,aK,KP,F,U.imp id (Nat.le_trans ag.1),av,aD,aF,aH,x,J⟩)
def Xy (Z:State)(mb zx:Addr)(h0:Heap)(n0:Nat)(v:Option Value)(h:Heap)(L:List Loc):Prop:=v=some (.ref zx)∧Fr n0 L∧h=h0
def qe (Z:State)(qx a:Addr)(A D:Int)(h0:Heap)(n0:Nat)(v:Option Value)(h:Heap)(L:List Loc):Prop:= ∃(rm ra qa:Addr) (kr kq:ClassId) (oo lr zr b c d:Int32) (F G:Nat→Int32) (nr nz nq:Nat),v=some (.ref rm)∧Fr n0 L∧Keep h0 h [qx,a]∧h0.size≤rm∧h0.size≤ra∧rm≠ra∧(qa=a∨h0.size≤qa)∧qa≠rm∧qa≠ra∧qx≠qa∧Exa Z h rm "java/math/MutableBigInteger"∧Fld Z h rm "java/math/MutableBigInteger" "offset" "I" (.int oo)∧Fld Z h rm "java/math/MutableBigInteger" "value" "[I" (.ref ra)∧Fld Z h rm "java/math/MutableBigInteger" "intLen" "I" (.int lr)∧bM Z h ra kr zr F∧Exa Z h ra "[I"∧Exa Z h qx "java/math/MutableBigInteger"∧Fld Z h qx "java/math/MutableBigInteger" "offset" "I" (.int b)∧Fld Z h qx "java/math/MutableBigInteger" "value" "[I" (.ref qa)∧Fld Z h qx "java/math/MutableBigInteger" "intLen" "I" (.int c)∧bM Z h qa kq d G∧Exa Z h qa "[I"∧zr.toInt=(nz:Int)∧nr≤nz∧nz≤9∧oE oo lr nr F∧d.toInt=(nq:Int)∧nq≤8∧oE b c nq G∧aY G nq=A/D∧(lr=0↔A%D=0)
theorem Xz (l:Launch)(Z:State)(a0:Array Value)(hw: ∀d∈tables_1,d.before a0 Z=true)(ws:List Jvm.Cond)(mb dv qx H:Addr)(fa ft:Nat→Int32)(n:Nat)(h0:Heap)(n0:Nat)(Z0:n0≤h0.size)(f:Old Z n0 h0)(cn:Int32)(aa dz:Addr)(ka kz kq:ClassId)(bK:n0≤qx)(fg:n0≤H)(fi:qx≠H)(w:Exa Z h0 mb "java/math/MutableBigInteger")(P:Fld Z h0 mb "java/math/MutableBigInteger" "offset" "I" (.int (0:Int32)))(Q:Fld Z h0 mb "java/math/MutableBigInteger" "value" "[I" (.ref aa))(I:Fld Z h0 mb "java/math/MutableBigInteger" "intLen" "I" (.int cn))(K:bM Z h0 aa ka cn fa)(fk:Exa Z h0 dv "java/math/MutableBigInteger")(cR:Fld Z h0 dv "java/math/MutableBigInteger" "offset" "I" (.int (0:Int32)))(cS:Fld Z h0 dv "java/math/MutableBigInteger" "value" "[I" (.ref dz))(fl:Fld Z h0 dv "java/math/MutableBigInteger" "intLen" "I" (.int (2:Int32)))(cx:bM Z h0 dz kz (2:Int32) ft)(b:Exa Z h0 qx "java/math/MutableBigInteger")(u:Fld Z h0 qx "java/math/MutableBigInteger" "offset" "I" (.int (0:Int32)))(h:Fld Z h0 qx "java/math/MutableBigInteger" "value" "[I" (.ref H))(v:Fld Z h0 qx "java/math/MutableBigInteger" "intLen" "I" (.int (0:Int32)))(E:bM Z h0 H kq (1:Int32) (fun _=>0))(L:Exa Z h0 H "[I")(hcn:cn.toInt=n)(fn:2≤n)(hn4:n≤4)(ha0:0<ah (fa 0))(ht0:0<ah (ft 0))(ht1:ah (ft 0)<2147483648)(hle:aY fa n≤4503599627370496*aY ft 2):
  bp l (⟨"java/math/MutableBigInteger","divideMagnitude","(Ljava/math/MutableBigInteger;Ljava/math/MutableBigInteger;Z)Ljava/math/MutableBigInteger;"⟩:MethodName) (Jvm.Cond.code (⟨"java/math/MutableBigInteger","divideMagnitude","(Ljava/math/MutableBigInteger;Ljava/math/MutableBigInteger;Z)Ljava/math/MutableBigInteger;"⟩:MethodName) jdk_2101_method_65_code 28 (some (.object "java/math/MutableBigInteger"))::ws) ({frames:=3,cells:=4,slots:=24,locals:=60}:Room) #[(.ref mb),(.ref dv),(.ref qx),(.int (1:Int32))] Z h0 (qe Z qx H (aY fa n) (aY ft 2) h0 n0):=by
 refine bI (plainFor_of_name jy) (fun m=>Ub m mb dv qx (1:Int32)) fun p e s m a5 bq c s₁ hx bN fp b_ (bB:s.vm.findClass "java/math/MutableBigInteger"=some m.cls) hnm hret X0 hZ e0=> ?_
 have D:=fj bN rP
 have a:=bG hx bN rP bB hZ b_ hw
 have N0:=Fr.nil n0
 have KP:Keep h0 h0 [qx,H]:=Keep.refl _ _
 have hD0:0<aY ft 2:=Jr ht0
 refine ak 1 0 X0 a ?_
 refine aE 4 1 111 X0 a e0 cS fun iR dW fu=> ?_
 refine ak 5 2 dW a ?_
 refine aE 8 3 109 dW a fu cR fun iS dX dZ=> ?_
 refine jB 9 0 dX hx hZ dZ cx rfl (by decide) (D 4 rfl) rfl ?_
 refine bZ 12 1 0 0 0 5 215 216 47 217 dX a (xO l Z a0 hw [] (ft 0) h0 n0 (Nat.le_trans Z0 KP.1) f) mX dZ fun _ iT iU de fv=> ?_
 obtain ⟨sh,rfl,fw,fx,hns⟩:=fv
 have fy:=Fr.app N0 fw
 refine aJ [_] ?_
 obtain ⟨ks,hs,h1k,hk,hp1,hp2⟩:=IX hns ht0 ht1
 refine bh 14 6 #[_,_,_,_,_,_,_,_,_,_,_,_,_,_,_,_,_,_,_,_,_,_,_,_,_,_,_,_] de a ?_
 refine ak 15 7 de a ?_
 refine aE 18 8 113 de a fx fl fun iV cy fz=> ?_
 refine bh 20 9 #[_,_,_,_,_,_,_,_,_,_,_,_,_,_,_,_,_,_,_,_,_,_,_,_,_,_,_,_] cy a ?_
 refine aq 22 10 cy a ?_
 refine bw 25 11 cy a rfl ((if0 _ _).trans (tlt (lg (i:=0) rfl hs h1k)).2.2.2) ?_
 refine aq 27 12 cy a ?_
 obtain ⟨iW,d0,aT,df,fA,aD,d1,fB,d2⟩:=newPE cy hx hZ (aj hw 52 rfl) fz (g:=(mkF m 27 #[rv mb,rv dv,rv qx,iv 1,iv sh,iv 2,.unset,.unset,.unset,.unset,.unset,.unset,.unset,.unset,.unset,.unset,.unset,.unset,.unset,.unset,.unset,.unset,.unset,.unset,.unset,.unset,.unset,.unset] [(.int (2:Int32))])) rfl (D 13 rfl) rfl (by decide) (cap:=2) (by decide) (by decide) (by decide) (by decide) (ad:="[I") (by decide)
 obtain ⟨B,bP⟩: ∃z,z=h0.size:=⟨_,rfl⟩
 rw[←bP] at d1 fB d2
 have d3:h0.size≤B:=Nat.le_trans KP.1 (Nat.le_of_eq bP.symm)
 have d4:n0≤B:=Nat.le_trans Z0 d3
 have dg:mb≠B:=Nat.ne_of_lt (Nat.lt_of_lt_of_le w.lt (Nat.le_of_eq bP.symm))
 have fC:aa≠B:=Nat.ne_of_lt (Nat.lt_of_lt_of_le K.lt (Nat.le_of_eq bP.symm))
 have iX:dv≠B:=Nat.ne_of_lt (Nat.lt_of_lt_of_le fk.lt (Nat.le_of_eq bP.symm))
 have fD:dz≠B:=Nat.ne_of_lt (Nat.lt_of_lt_of_le cx.lt (Nat.le_of_eq bP.symm))
 have cm:qx≠B:=Nat.ne_of_lt (Nat.lt_of_lt_of_le b.lt (Nat.le_of_eq bP.symm))
 have d5:H≠B:=Nat.ne_of_lt (Nat.lt_of_lt_of_le E.lt (Nat.le_of_eq bP.symm))
 have f:=f.ext aD
 have KP:=KP.ext aD
 have w:=w.ext aD
 have P:=P.ext aD
 have Q:=Q.ext aD
 have I:=I.ext aD
 have K:=K.ext aD
 have cR:=cR.ext aD
 have cS:=cS.ext aD
 have cx:=cx.ext aD
 have b:=b.ext aD
 have u:=u.ext aD
 have h:=h.ext aD
 have v:=v.ext aD
 have E:=E.ext aD
 have L:=L.ext aD
 have y:bM Z d0 B aT (2:Int32) (fun _=>0):=rD (Arv.new d1 (by decide))
 refine aG (mkF m 29 #[rv mb,rv dv,rv qx,iv 1,iv sh,iv 2,.unset,.unset,.unset,.unset,.unset,.unset,.unset,.unset,.unset,.unset,.unset,.unset,.unset,.unset,.unset,.unset,.unset,.unset,.unset,.unset,.unset,.unset] [(.ref B)]) d2 ?_
 refine gY 31 14 #[_,_,_,_,_,_,_,_,_,_,_,_,_,_,_,_,_,_,_,_,_,_,_,_,_,_,_,_] df a ?_
 refine ak 32 15 df a ?_
 refine aE 35 16 111 df a fA cS fun iZ d6 fE=> ?_
 refine ak 36 17 d6 a ?_
 refine aE 39 18 109 d6 a fE cR fun i0 cz fF=> ?_
 refine aq 41 19 cz a ?_
 refine aR 43 20 cz a ?_
 refine aB 44 21 0 cz a ?_
 refine aq 46 22 cz a ?_
 refine bZ 49 6 0 1 2 23 266 267 103 268 cz a (EK l Z a0 hw [] dz B aT (2:Int32) (2:Int32) (0:Int32) sh ft (fun _=>0) 0 2 d0 n0 (Nat.le_trans Z0 KP.1) f kz (2:Int32) d4 fD cx y rfl rfl (by omega) (by omega) (by omega) (by decide) (by decide)) D_ fF fun _ di i1 d7 fG=> ?_
 obtain ⟨rfl,fH,a',fI⟩:=fG
 have fK:=Fr.app fy fH
 have f:=f.keep a' (allS d4 all0)
 have KP:=KP.trans a' (allS (Or.inr d3) all0)
 have w:=w.keep a'
 have P:=P.keep a' (ninS dg nin0)
 have Q:=Q.keep a' (ninS dg nin0)
 have I:=I.keep a' (ninS dg nin0)
 have K:=K.keep a' (ninS fC nin0)
 have b:=b.keep a'
 have u:=u.keep a' (ninS cm nin0)
 have h:=h.keep a' (ninS cm nin0)
 have v:=v.keep a' (ninS cm nin0)
 have E:=E.keep a' (ninS d5 nin0)
 have L:=L.keep a'
 refine aJ [] ?_
 obtain ⟨X,d8⟩: ∃z,z=jr sh ft 0:=⟨_,rfl⟩
 obtain ⟨dl,d9⟩: ∃z,z=ft 1<<<(sh&&&31):=⟨_,rfl⟩
 have y:=Jh fI d8 d9
 have SD:=Jd hs h1k hk hp2 hp1
 rw[←d8,←d9] at SD
 refine ak 50 24 d7 a ?_
 refine aE 53 25 111 d7 a rfl Q fun i2 d_ fL=> ?_
 refine ak 54 26 d_ a ?_
 refine aE 57 27 109 d_ a fL P fun i3 d' ea=> ?_
 refine jB 58 0 d' hx hZ ea K rfl (by omega) (D 28 rfl) rfl ?_
 refine bZ 61 1 0 1 2 29 215 216 47 217 d' a (xO l Z a0 hw [] (fa 0) di.heap n0 (Nat.le_trans Z0 KP.1) f) mX ea fun _ i4 i5 b' fM=> ?_
 obtain ⟨s2,rfl,fN,eb,hn2⟩:=fM
 have ec:=Fr.app fK fN
 refine aJ [_] ?_
 have J: ∀(T_:State) (A:Heap) (L_:List Loc) (rm ra:Addr) (kr:ClassId) (nl zr:Int32) (Fa:Nat→Int32) (N:Nat) (g9 g10 g11 g12 g13:Slot),Stand p l e ({frames:=3,cells:=4,slots:=24,locals:=60}:Room) s m #[(.ref mb),(.ref dv),(.ref qx),(.int (1:Int32))] a5 bq c T_ L_ 3 11→T_.heap=A→Fr n0 L_→Old Z n0 A→Keep h0 A [qx,H]→Exa Z A mb "java/math/MutableBigInteger"→Exa Z A qx "java/math/MutableBigInteger"→Fld Z A qx "java/math/MutableBigInteger" "offset" "I" (.int (0:Int32))→Fld Z A qx "java/math/MutableBigInteger" "value" "[I" (.ref H)→Fld Z A qx "java/math/MutableBigInteger" "intLen" "I" (.int (0:Int32))→bM Z A H kq (1:Int32) (fun _=>0)→Exa Z A H "[I"→Arv Z A B aT .int (2:Int32) [(.int X),(.int dl)] (.int (0:Int32))→Exa Z A rm "java/math/MutableBigInteger"→Fld Z A rm "java/math/MutableBigInteger" "offset" "I" (.int (1:Int32))→Fld Z A rm "java/math/MutableBigInteger" "value" "[I" (.ref ra)→Fld Z A rm "java/math/MutableBigInteger" "intLen" "I" (.int nl)→Exa Z A ra "[I"→bM Z A ra kr zr (oF sh Fa N)→h0.size≤rm→h0.size≤ra→rm≠ra→B≠ra→qx≠ra→H≠ra→qx≠rm→B≠rm→H≠rm→nl.toInt=(N:Int)→zr.toInt=((N+1:Nat):Int)→2≤N→N≤4→aY Fa N=aY fa n→ah (Fa 0)*2^ks<4294967296→i_ g9→i_ g10→i_ g11→i_ g12→i_ g13→ay p e a5 (gb s (qe Z qx H (aY fa n) (aY ft 2) h0 n0) ({frames:=3,cells:=4,slots:=24,locals:=60}:Room).cells ({frames:=3,cells:=4,slots:=24,locals:=60}:Room).slots) T_ (mkF m 323 #[rv mb,rv dv,rv qx,iv 1,iv sh,iv 2,rv B,rv rm,rv ra,g9,g10,g11,g12,g13,.unset,.unset,.unset,.unset,.unset,.unset,.unset,.unset,.unset,.unset,.unset,.unset,.unset,.unset] []):=by
  intro i6 fO i7 rm ra kr nl zr Fa N g9 g10 g11 g12 g13 ed fP ef f KP w b u h v E L y M S T R U V ca cA br eg bl fQ W dj eh hnl hzr fR hN4 hval dk c9 c10 c11 c12 c13
  have bC:=Nat.le_trans Z0 ca
  have cB:=Nat.le_trans Z0 cA
  refine aR 325 165 ed a ?_
  refine aE 328 166 113 ed a fP R fun i8 bE fS=> ?_
  refine bh 330 167 #[_,_,_,_,_,_,_,_,_,_,_,_,_,_,_,_,_,_,_,_,_,_,_,_,_,_,_,_] bE a ?_
  refine aq 332 168 bE a ?_
  refine aq 334 169 bE a ?_
  refine dQ 335 170 bE a ?_
  refine aB 336 171 1 bE a ?_
  refine bJ 337 172 bE a ?_
  generalize fT:((nl-(2:Int32))+(1:Int32))=lim
  have hlim:lim.toInt=((N-1:Nat):Int):=fT▸(lJ (n_ (j:=2) hnl rfl fR) (j:=1) rfl (by omega)).trans (by omega)
  refine ku 339 9 #[rv mb,rv dv,rv qx,iv 1,iv sh,iv 2,rv B,rv rm,iv nl,iv lim,g10,g11,g12,g13,.unset,.unset,.unset,.unset,.unset,.unset,.unset,.unset,.unset,.unset,.unset,.unset,.unset,.unset] bE hx (D 173 rfl) rfl c9 rfl rfl ?_
  refine ak 340 174 bE a ?_
  refine aE 343 175 111 bE a fS h fun i9 bV dm=> ?_
  refine bU 344 176 bV a dm E ?_
  refine aq 346 177 bV a ?_
  have JK: ∀(T_:State) (A:Heap) (L_:List Loc) (qa:Addr) (kq:ClassId) (zq:Int32) (cb cd:Nat),Stand p l e ({frames:=3,cells:=4,slots:=24,locals:=60}:Room) s m #[(.ref mb),(.ref dv),(.ref qx),(.int (1:Int32))] a5 bq c T_ L_ cb cd→T_.heap=A→Fr n0 L_→Old Z n0 A→Keep h0 A [qx,H]→Exa Z A mb "java/math/MutableBigInteger"→Exa Z A qx "java/math/MutableBigInteger"→Fld Z A qx "java/math/MutableBigInteger" "offset" "I" (.int (0:Int32))→Fld Z A qx "java/math/MutableBigInteger" "value" "[I" (.ref qa)→Fld Z A qx "java/math/MutableBigInteger" "intLen" "I" (.int (0:Int32))→Arv Z A B aT .int (2:Int32) [(.int X),(.int dl)] (.int (0:Int32))→Exa Z A rm "java/math/MutableBigInteger"→Fld Z A rm "java/math/MutableBigInteger" "offset" "I" (.int (1:Int32))→Fld Z A rm "java/math/MutableBigInteger" "value" "[I" (.ref ra)→Fld Z A rm "java/math/MutableBigInteger" "intLen" "I" (.int nl)→Exa Z A ra "[I"→bM Z A ra kr zr (oF sh Fa N)→bM Z A qa kq zq (fun _=>0)→Exa Z A qa "[I"→cb≤4→cd≤24→n0≤qa→(qa=H∨h0.size≤qa)→qa≠ra→rm≠qa→B≠qa→qx≠qa→qa≠rm→zq.toInt=((N-1:Nat):Int)→ay p e a5 (gb s (qe Z qx H (aY fa n) (aY ft 2) h0 n0) ({frames:=3,cells:=4,slots:=24,locals:=60}:Room).cells ({frames:=3,cells:=4,slots:=24,locals:=60}:Room).slots) T_ (mkF m 362 #[rv mb,rv dv,rv qx,iv 1,iv sh,iv 2,rv B,rv rm,iv nl,iv lim,g10,g11,g12,g13,.unset,.unset,.unset,.unset,.unset,.unset,.unset,.unset,.unset,.unset,.unset,.unset,.unset,.unset] []):=by
   intro i' ja jb qa kq zq cb cd dn fU fV f KP w b u h v y M S T R U V ae ao hkc hks fW ej cT fX fZ cC co f0
   have f1:qa∈ [qx,H]∨h0.size≤qa:=Ju ej
   refine ak 363 186 dn a ?_
   refine aq 365 187 dn a ?_
   refine fh 368 188 113 102 dn a fU v b (Or.inl (aj hw 114 rfl)) (ty:= .int) fun jc f2 dp f3 aF=> ?_
   have f4:=Fr.snoc dp fV bK
   have f5:Fld Z f2 qx "java/math/MutableBigInteger" "intLen" "I" (.int lim):=v.same aF
   have f:=f.wr aF bK
   have KP:=KP.wr aF (Or.inl (List.mem_of_getElem? (i:=0) rfl))
   have w:=w.wr aF
   have b:=b.wr aF
   have u:=u.other aF (Or.inr (slot_ne (Or.inl (aj hw 110 rfl)) (Or.inl (aj hw 114 rfl)) (by decide) (t:= .int) (t':= .int) (by decide) (by decide)))
   have h:=h.other aF (Or.inr (slot_ne (Or.inl (aj hw 112 rfl)) (Or.inl (aj hw 114 rfl)) (by decide) (t:=(.array .int)) (t':= .int) (by decide) (by decide)))
   have y:=y.other aF (Ne.symm cm)
   have M:=M.wr aF
   have S:=S.other aF (Or.inl (Ne.symm W))
   have T:=T.other aF (Or.inl (Ne.symm W))
   have R:=R.other aF (Or.inl (Ne.symm W))
   have U:=U.wr aF
   have V:=V.other aF (Ne.symm bl)
   have ae:=ae.other aF (Ne.symm cC)
   have ao:=ao.wr aF
   have v:=f5
   refine ak 369 189 dp a ?_
   refine aE 372 190 111 dp a f3 h fun jd cU f6=> ?_
   refine Jo 374 10 #[rv mb,rv dv,rv qx,iv 1,iv sh,iv 2,rv B,rv rm,iv nl,iv lim,rv qa,g11,g12,g13,.unset,.unset,.unset,.unset,.unset,.unset,.unset,.unset,.unset,.unset,.unset,.unset,.unset,.unset] cU hx (D 191 rfl) rfl c10 rfl rfl ?_
   refine aR 376 192 cU a ?_
   refine aB 377 193 0 cU a ?_
   refine fh 380 194 109 102 cU a f6 S M (Or.inl (aj hw 110 rfl)) (ty:= .int) fun jf f7 dq f8 aH=> ?_
   have f9:=Fr.snoc dq f4 bC
   have f_:Fld Z f7 rm "java/math/MutableBigInteger" "offset" "I" (.int (0:Int32)):=S.same aH
   have f:=f.wr aH bC
   have KP:=KP.wr aH (Or.inr ca)
   have w:=w.wr aH
   have b:=b.wr aH
   have u:=u.other aH (Or.inl W)
   have h:=h.other aH (Or.inl W)
   have v:=v.other aH (Or.inl W)
   have y:=y.other aH dj
   have M:=M.wr aH
   have T:=T.other aH (Or.inr (slot_ne (Or.inl (aj hw 112 rfl)) (Or.inl (aj hw 110 rfl)) (by decide) (t:=(.array .int)) (t':= .int) (by decide) (by decide)))
   have R:=R.other aH (Or.inr (slot_ne (Or.inl (aj hw 114 rfl)) (Or.inl (aj hw 110 rfl)) (by decide) (t:= .int) (t':= .int) (by decide) (by decide)))
   have U:=U.wr aH
   have V:=V.other aH (Ne.symm br)
   have ae:=ae.other aH co
   have ao:=ao.wr aH
   have S:=f_
   refine aR 382 195 dq a ?_
   refine aE 385 196 111 dq a f8 T fun jg dr f'=> ?_
   refine aB 386 197 0 dr a ?_
   refine aB 387 198 0 dr a ?_
   refine jW 388 0 dr hx hZ f' V rfl (by omega) (D 199 rfl) rfl fun jj jm cV ga aV gd=> ?_
   have gf:=Fr.snoc cV f9 cB
   have f:=f.wr aV cB
   have KP:=KP.wr aV (Or.inr cA)
   have w:=w.wr aV
   have b:=b.wr aV
   have u:=u.other aV (Or.inl bl)
   have h:=h.other aV (Or.inl bl)
   have v:=v.other aV (Or.inl bl)
   have y:=y.other aV eg
   have M:=M.wr aV
   have S:=S.other aV (Or.inl br)
   have T:=T.other aV (Or.inl br)
   have R:=R.other aV (Or.inl br)
   have U:=U.wr aV
   have ae:=ae.other aV cT
   have ao:=ao.wr aV
   have V:=gd
   refine aR 390 200 cV a ?_
   refine jh 391 201 cV a ?_
   refine aE 394 202 113 cV a ga R fun jn du gi=> ?_
   refine aB 395 203 1 du a ?_
   refine bJ 396 204 du a ?_
   generalize gj:(nl+(1:Int32))=ll
   have hll:ll.toInt=((N+1:Nat):Int):=gj▸lJ hnl (j:=1) rfl (by omega)
   refine fh 399 205 113 102 du a gi R M (Or.inl (aj hw 114 rfl)) (ty:= .int) fun jo cW O cD aK=> ?_
   have dw:=Fr.snoc O gf bC
   have gk:Fld Z cW rm "java/math/MutableBigInteger" "intLen" "I" (.int ll):=R.same aK
   have f:=f.wr aK bC
   have KP:=KP.wr aK (Or.inr ca)
   have w:=w.wr aK
   have b:=b.wr aK
   have u:=u.other aK (Or.inl W)
   have h:=h.other aK (Or.inl W)
   have v:=v.other aK (Or.inl W)
   have y:=y.other aK dj
   have M:=M.wr aK
   have S:=S.other aK (Or.inr (slot_ne (Or.inl (aj hw 110 rfl)) (Or.inl (aj hw 114 rfl)) (by decide) (t:= .int) (t':= .int) (by decide) (by decide)))
   have T:=T.other aK (Or.inr (slot_ne (Or.inl (aj hw 112 rfl)) (Or.inl (aj hw 114 rfl)) (by decide) (t:=(.array .int)) (t':= .int) (by decide) (by decide)))
   have U:=U.wr aK
   have V:=V.other aK (Ne.symm br)
   have ae:=ae.other aK co
   have ao:=ao.wr aK
   have R:=gk
   refine aR 401 206 O a ?_
   refine aB 402 207 0 O a ?_
   refine eY 403 208 O a cD y (x:=X) ?_
   refine ku 405 11 #[rv mb,rv dv,rv qx,iv 1,iv sh,iv 2,rv B,rv rm,iv nl,iv lim,rv qa,iv X,g12,g13,.unset,.unset,.unset,.unset,.unset,.unset,.unset,.unset,.unset,.unset,.unset,.unset,.unset,.unset] O hx (D 209 rfl) rfl c11 rfl rfl ?_
   refine aq 407 210 O a ?_
   refine bW 408 211 O a ?_
   refine bO 411 214 212 O a ?_
   refine bR 412 213 O a ?_
   generalize gl:((X.toInt64)&&&(4294967295:Int64))=bt
   refine Jq 414 12 #[rv mb,rv dv,rv qx,iv 1,iv sh,iv 2,rv B,rv rm,iv nl,iv lim,rv qa,iv X,.val (.long bt),.second,.unset,.unset,.unset,.unset,.unset,.unset,.unset,.unset,.unset,.unset,.unset,.unset,.unset,.unset] O hx (D 214 rfl) rfl rfl c12 c13 rfl rfl ?_
   refine aR 416 215 O a ?_
   refine aB 417 216 1 O a ?_
   refine eY 418 217 O a cD y (x:=dl) ?_
   refine bh 420 218 #[_,_,_,_,_,_,_,_,_,_,_,_,_,_,_,_,_,_,_,_,_,_,_,_,_,_,_,_] O a ?_
   refine aB 421 219 0 O a ?_
   refine bh 423 220 #[_,_,_,_,_,_,_,_,_,_,_,_,_,_,_,_,_,_,_,_,_,_,_,_,_,_,_,_] O a ?_
   have hdl:bt.toInt=ah X:=gl▸ij X
   have C:zw h0 n0 qx H B rm ra qa X bt:=⟨bC,cB,bK,fW,ca,cA,f1,br,eg,bl,cT,fX,fZ,cC,W,dj,co,SD.2,hdl⟩
   have hm1:(lim-(1:Int32)).toInt=((N-2:Nat):Int):=(n_ (j:=1) hlim rfl (by omega)).trans (by omega)
   have TL: ∀(T':State) (h':Heap) (L':List Loc) (ek w16 el em eo ep er es et eu ev ew ex:Slot) (F G:Nat→Int32) (k:Nat),Stand p l e ({frames:=3,cells:=4,slots:=24,locals:=60}:Room) s m #[.ref mb,.ref dv,.ref qx,.int 1] a5 bq c T' L' cb cd→T'.heap=h'→Fr n0 L'→qJ Z h0 n0 mb qx H B rm ra qa aT kr kq lim ll X dl zr zq h' F G→k+2=N→(∀i,i≤k→F i=0)→aY fa n*2^ks=aY G (k+1)*(ah X*4294967296+ah dl)+(ah (F (k+1))*4294967296+ah (F (k+2)))→ah (F (k+1))*4294967296+ah (F (k+2))<ah X*4294967296+ah dl→ay p e a5 (gb s (qe Z qx H (aY fa n) (aY ft 2) h0 n0) ({frames:=3,cells:=4,slots:=24,locals:=60}:Room).cells ({frames:=3,cells:=4,slots:=24,locals:=60}:Room).slots) T' (mkF m 1261 #[rv mb,rv dv,rv qx,iv 1,iv sh,iv 2,rv B,rv rm,iv nl,iv lim,rv qa,iv X,.val (.long bt),.second,iv dl,ek,w16,el,em,eo,ep,er,es,et,eu,ev,ew,ex] []):=by
    intro T' h' L' ek w16 el em eo ep er es et eu ev ew ex F G k X' e' N' S' hkN hz0 hA hR
    obtain ⟨f,KP,w,M,S,T,R,U,V,y,b,u,h,v,ao,ae⟩:=S'
    refine au 1262 676 X' a ?_
    refine bw 1265 677 X' a rfl ((if0 _ _).trans (feq (by decide: ¬((1:Int32)=(0:Int32)))).1) ?_
    refine aq 1267 678 X' a ?_
    refine bw 1270 679 X' a rfl ((if0 _ _).trans (tlt (lg (i:=0) rfl hs h1k)).2.2.2) ?_
    refine aR 1272 680 X' a ?_
    refine aq 1274 681 X' a ?_
    refine jQ 1277 1 0 cb cd 682 281 282 284 283 103 285 X' a (Xq l Z a0 hw [] rm ra kr ll zr sh F (k+3) h' n0 (Nat.le_trans Z0 KP.1) f ks bC cB br M S T R V (hll.trans (by omega)) (hzr.trans (by omega)) (by omega) (by omega) hs h1k hk (hz0 0 (by omega))) xB e' M (hc:=hkc) (hs:=hks) fun _ gp jq ey gq=> ?_
    obtain ⟨rfl,gs,bu,-,S,T,R,V⟩:=gq
    have gu:=Fr.app N' gs
    have f:=f.keep bu (allS bC (allS cB all0))
    have KP:=KP.trans bu (allS (Or.inr ca) (allS (Or.inr cA) all0))
    have M:=M.keep bu
    have U:=U.keep bu
    have b:=b.keep bu
    have u:=u.keep bu (ninS W (ninS bl nin0))
    have h:=h.keep bu (ninS W (ninS bl nin0))
    have v:=v.keep bu (ninS W (ninS bl nin0))
    have ao:=ao.keep bu
    have ae:=ae.keep bu (ninS co (ninS cT nin0))
    refine aJ [] ?_
    refine aR 1279 683 ey a ?_
    refine jQ 1282 0 0 cb cd 684 219 220 222 221 103 223 ey a (zG l Z a0 hw [] rm ra (fJ (mz ((32:Int32)-sh) F (k+3-1)) (k+3-1) (F (k+3-1)<<<(((32:Int32)-sh)&&&31))) (k+2) gp.heap n0 (Nat.le_trans Z0 KP.1) f kr (ll-(1:Int32)) zr bC (Ne.symm br) M S T R V ((n_ (j:=1) hll rfl (by omega)).trans (by omega)) (by omega) (by omega) (by omega)) pJ rfl M (hc:=hkc) (hs:=hks) fun _ gv js ez gw=> ?_
    obtain ⟨rfl,gx,bm,oo,lr,-,S,T,R,eA⟩:=gw
    have gy:=Fr.app gu gx
    have f:=f.keep bm (allS bC all0)
    have KP:=KP.trans bm (allS (Or.inr ca) all0)
    have M:=M.keep bm
    have U:=U.keep bm
    have b:=b.keep bm
    have u:=u.keep bm (ninS W nin0)
    have h:=h.keep bm (ninS W nin0)
    have v:=v.keep bm (ninS W nin0)
    have ao:=ao.keep bm
    have ae:=ae.keep bm (ninS co nin0)
    have V:=V.keep bm (ninS (Ne.symm br) nin0)
    refine aJ [] ?_
    refine ak 1283 685 ez a ?_
    refine jQ 1286 0 0 cb cd 686 219 220 222 221 103 223 ez a (zG l Z a0 hw [] qx qa G (k+1) gv.heap n0 (Nat.le_trans Z0 KP.1) f kq lim zq bK (Ne.symm cC) b u h v ae (hlim.trans (by omega)) (by omega) (by omega) (by omega)) pJ rfl b (hc:=hkc) (hs:=hks) fun _ jt jv cE gA=> ?_
    obtain ⟨rfl,gB,bv,oq,lq,-,u,h,v,gE⟩:=gA
    have gG:=Fr.app gy gB
    have KP:=KP.trans bv (allS (Or.inl (List.mem_of_getElem? (i:=0) rfl)) all0)
    have M:=M.keep bv
    have U:=U.keep bv
    have b:=b.keep bv
    have ao:=ao.keep bv
    have ae:=ae.keep bv (ninS (Ne.symm cC) nin0)
    have V:=V.keep bv (ninS (Ne.symm bl) nin0)
    have S:=S.keep bv (ninS (Ne.symm W) nin0)
    have T:=T.keep bv (ninS (Ne.symm W) nin0)
    have R:=R.keep bv (ninS (Ne.symm W) nin0)
    refine aJ [] ?_
    refine au 1287 687 cE a ?_
    refine bw 1290 688 cE a rfl ((if0 _ _).trans (feq (by decide: ¬((1:Int32)=(0:Int32)))).1) ?_
    refine aR 1292 689 cE a ?_
    refine bL 1296 690 cE a ?_
    obtain ⟨fq,fr⟩:=Jl hs h1k hk hz0 hD0 hA hR SD.1 eA Jm
    exact zK cE hx hret rfl fp (D 692 rfl) rfl hkc hks ⟨rm,ra,qa,kr,kq,oo,lr,zr,oq,lq,zq,_,G,k+2,k+3,k+1,rfl,gG,KP,ca,cA,br,ej,co,cT,cC,M,S,T,R,V,U,b,u,h,v,ae,ao,hzr.trans (by omega),by omega,by omega,eA,f0.trans (by omega),by omega,gE,fq,fr⟩
   obtain rfl|rfl|rfl:N=2∨N=3∨N=4:=by omega
   ·have SW:=Ja hs h1k hk dk
    rw[hval] at SW
    refine aq 425 221 O a ?_
    refine aq 427 222 O a ?_
    refine aB 428 223 1 O a ?_
    refine dQ 429 224 O a ?_
    refine bQ 828 225 O a rfl (flt (jJ (i:=0) rfl hm1 (by decide))).2.1 ?_
    refine zE l Z a0 hw p e s m a5 bq c _ hx bN b_ bB hZ h0 n0 Z0 mb dv qx H B rm ra qa aT kr kq sh nl lim ll X dl zr zq bt _ _ hkc hks _ 0 _ _ _ _ _ _ _ _ _ _ _ _ _ _ _ _ _ O cD dw C (⟨f,KP,w,M,S,T,R,U,V,y,b,u,h,v,ao,ae⟩:qJ Z h0 n0 mb qx H B rm ra qa aT kr kq lim ll X dl zr zq cW (fJ (oF sh Fa 2) 0 (0:Int32)) (fun _=>0)) ⟨rfl,rfl⟩ ⟨rfl,rfl⟩ ⟨rfl,rfl⟩ ⟨rfl,rfl⟩ ⟨rfl,rfl⟩ ⟨rfl,rfl,rfl,rfl,rfl,rfl,rfl,rfl⟩ (hlim.trans (by omega)) (by omega) (by omega) rfl (yO SD.2) ?_
    intro jx jz jF v15 v16 v17 v18 v19 v20 cF v22 v23 cG v25 cH v27 eB eC eD gI gK gL gM bX
    exact TL _ _ _ _ _ _ _ _ _ _ _ _ _ _ _ _ _ _ 0 gI gK gL gM rfl (BN rfl) (Ji SW bX.1) bX.2
   ·have SW:=Jb hs h1k hk dk
    rw[hval] at SW
    refine aq 425 221 O a ?_
    refine aq 427 222 O a ?_
    refine aB 428 223 1 O a ?_
    refine dQ 429 224 O a ?_
    refine bY 432 225 O a rfl (tlt (lg (i:=0) rfl hm1 (by decide))).2.1 ?_
    refine zD l Z a0 hw p e s m a5 bq c _ hx bN b_ bB hZ h0 n0 Z0 mb dv qx H B rm ra qa aT kr kq sh nl lim ll X dl zr zq bt _ _ hkc hks _ (1:Int32) 0 _ _ _ _ _ _ _ _ _ _ _ _ _ _ _ _ _ O cD dw C (⟨f,KP,w,M,S,T,R,U,V,y,b,u,h,v,ao,ae⟩:qJ Z h0 n0 mb qx H B rm ra qa aT kr kq lim ll X dl zr zq cW (fJ (oF sh Fa 3) 0 (0:Int32)) (fun _=>0)) ⟨rfl,rfl⟩ ⟨rfl,rfl⟩ ⟨rfl,rfl⟩ ⟨rfl,rfl⟩ ⟨rfl,rfl⟩ ⟨rfl,rfl,rfl,rfl,rfl,rfl,rfl,rfl⟩ rfl rfl (by omega) (by omega) rfl (yO SD.2) ?_
    intro jH jI jL v16 v17 v18 v19 v20 cF v22 v23 cG v25 cH v27 eB eC eD cp gN gO gP k16 k17 k18 k19 k20 WF bX
    refine aq 425 221 cp a ?_
    refine aq 427 222 cp a ?_
    refine aB 428 223 1 cp a ?_
    refine dQ 429 224 cp a ?_
    refine bQ 828 225 cp a rfl (flt (jJ (i:=1) rfl hm1 (by decide))).2.1 ?_
    refine zE l Z a0 hw p e s m a5 bq c _ hx bN b_ bB hZ h0 n0 Z0 mb dv qx H B rm ra qa aT kr kq sh nl lim ll X dl zr zq bt _ _ hkc hks _ 1 _ _ _ _ _ _ _ _ _ _ _ _ _ _ _ _ _ cp gN gO C gP k16 k17 k18 k19 k20 WF (hlim.trans (by omega)) (by omega) (by omega) rfl bX.2 ?_
    intro jM jN jP v15 v16 v17 v18 v19 v20 cF v22 v23 cG v25 cH v27 gQ gS cd1 gT gU gV gW cI
    exact TL _ _ _ _ _ _ _ _ _ _ _ _ _ _ _ _ _ _ 1 gT gU gV gW rfl (BR rfl rfl) (Jj SW bX.1 cI.1) cI.2
   ·have SW:=Jc hs h1k hk dk
    rw[hval] at SW
    refine aq 425 221 O a ?_
    refine aq 427 222 O a ?_
    refine aB 428 223 1 O a ?_
    refine dQ 429 224 O a ?_
    refine bY 432 225 O a rfl (tlt (lg (i:=0) rfl hm1 (by decide))).2.1 ?_
    refine zD l Z a0 hw p e s m a5 bq c _ hx bN b_ bB hZ h0 n0 Z0 mb dv qx H B rm ra qa aT kr kq sh nl lim ll X dl zr zq bt _ _ hkc hks _ (1:Int32) 0 _ _ _ _ _ _ _ _ _ _ _ _ _ _ _ _ _ O cD dw C (⟨f,KP,w,M,S,T,R,U,V,y,b,u,h,v,ao,ae⟩:qJ Z h0 n0 mb qx H B rm ra qa aT kr kq lim ll X dl zr zq cW (fJ (oF sh Fa 4) 0 (0:Int32)) (fun _=>0)) ⟨rfl,rfl⟩ ⟨rfl,rfl⟩ ⟨rfl,rfl⟩ ⟨rfl,rfl⟩ ⟨rfl,rfl⟩ ⟨rfl,rfl,rfl,rfl,rfl,rfl,rfl,rfl⟩ rfl rfl (by omega) (by omega) rfl (yO SD.2) ?_
    intro jS jT jU v16 v17 v18 v19 v20 cF v22 v23 cG v25 cH v27 eB eC eD cq gX gZ g0 k16 k17 k18 k19 k20 WF bX
    refine aq 425 221 cq a ?_
    refine aq 427 222 cq a ?_
    refine aB 428 223 1 cq a ?_
    refine dQ 429 224 cq a ?_
    refine bY 432 225 cq a rfl (tlt (lg (i:=1) rfl hm1 (by decide))).2.1 ?_
    refine zD l Z a0 hw p e s m a5 bq c _ hx bN b_ bB hZ h0 n0 Z0 mb dv qx H B rm ra qa aT kr kq sh nl lim ll X dl zr zq bt _ _ hkc hks _ (2:Int32) 1 _ _ _ _ _ _ _ _ _ _ _ _ _ _ _ _ _ cq gX gZ C g0 k16 k17 k18 k19 k20 WF rfl rfl (by omega) (by omega) rfl bX.2 ?_
    intro jV j0 j1 v16 v17 v18 v19 v20 cF v22 v23 cG v25 cH v27 gQ gS cd1 cr g1 g2 g3 k16 k17 k18 k19 k20 WF cI
    refine aq 425 221 cr a ?_
    refine aq 427 222 cr a ?_
    refine aB 428 223 1 cr a ?_
    refine dQ 429 224 cr a ?_
    refine bQ 828 225 cr a rfl (flt (jJ (i:=2) rfl hm1 (by decide))).2.1 ?_
    refine zE l Z a0 hw p e s m a5 bq c _ hx bN b_ bB hZ h0 n0 Z0 mb dv qx H B rm ra qa aT kr kq sh nl lim ll X dl zr zq bt _ _ hkc hks _ 2 _ _ _ _ _ _ _ _ _ _ _ _ _ _ _ _ _ cr g1 g2 C g3 k16 k17 k18 k19 k20 WF (hlim.trans (by omega)) (by omega) (by omega) rfl cI.2 ?_
    intro j2 j3 j4 v15 v16 v17 v18 v19 v20 cF v22 v23 cG v25 cH v27 j5 j6 cd2 g4 g5 g6 g7 eE
    exact TL _ _ _ _ _ _ _ _ _ _ _ _ _ _ _ _ _ _ 2 g4 g5 g6 g7 rfl (Jv rfl rfl rfl) (Jk SW bX.1 cI.1 eE.1) eE.2
  by_cases hlm:(1:Int32)<lim
  ·refine bY 349 178 bV a rfl (tlt hlm).2.1 ?_
   refine ak 350 179 bV a ?_
   refine aq 352 180 bV a ?_
   obtain ⟨j7,eF,eH,g8,g_,a6,eI,eK,eL⟩:=newPE bV hx hZ (aj hw 52 rfl) dm (g:=(mkF m 352 #[rv mb,rv dv,rv qx,iv 1,iv sh,iv 2,rv B,rv rm,iv nl,iv lim,g10,g11,g12,g13,.unset,.unset,.unset,.unset,.unset,.unset,.unset,.unset,.unset,.unset,.unset,.unset,.unset,.unset] [(.int lim),(.ref qx)])) rfl (D 181 rfl) rfl (jJ (j:=0) hlim rfl (by omega)) (cap:=3) (by rw[nJ hlim];omega) (by decide) (by decide) (by decide) (ad:="[I") (by decide)
   obtain ⟨bb,b0⟩: ∃z,z=fO.size:=⟨_,rfl⟩
   rw[←b0] at eI eK eL
   have eM:h0.size≤bb:=Nat.le_trans KP.1 (Nat.le_of_eq b0.symm)
   have g':n0≤bb:=Nat.le_trans Z0 eM
   have j8:mb≠bb:=Nat.ne_of_lt (Nat.lt_of_lt_of_le w.lt (Nat.le_of_eq b0.symm))
   have dx:qx≠bb:=Nat.ne_of_lt (Nat.lt_of_lt_of_le b.lt (Nat.le_of_eq b0.symm))
   have j9:H≠bb:=Nat.ne_of_lt (Nat.lt_of_lt_of_le E.lt (Nat.le_of_eq b0.symm))
   have ha:B≠bb:=Nat.ne_of_lt (Nat.lt_of_lt_of_le y.lt (Nat.le_of_eq b0.symm))
   have eN:rm≠bb:=Nat.ne_of_lt (Nat.lt_of_lt_of_le M.lt (Nat.le_of_eq b0.symm))
   have hd:ra≠bb:=Nat.ne_of_lt (Nat.lt_of_lt_of_le U.lt (Nat.le_of_eq b0.symm))
   have f:=f.ext a6
   have KP:=KP.ext a6
   have w:=w.ext a6
   have b:=b.ext a6
   have u:=u.ext a6
   have h:=h.ext a6
   have v:=v.ext a6
   have y:=y.ext a6
   have M:=M.ext a6
   have S:=S.ext a6
   have T:=T.ext a6
   have R:=R.ext a6
   have U:=U.ext a6
   have V:=V.ext a6
   have cJ:Exa Z eF bb "[I":=eK
   have cK:bM Z eF bb eH lim (fun _=>0):=rD (Arv.new eI (jJ (j:=0) hlim rfl (by omega)))
   refine aG (mkF m 354 #[rv mb,rv dv,rv qx,iv 1,iv sh,iv 2,rv B,rv rm,iv nl,iv lim,g10,g11,g12,g13,.unset,.unset,.unset,.unset,.unset,.unset,.unset,.unset,.unset,.unset,.unset,.unset,.unset,.unset] [(.ref bb),(.ref qx)]) eL ?_
   refine fh 357 182 111 102 g8 a g_ h b (Or.inl (aj hw 112 rfl)) (ty:=(.array .int)) fun j_ he cX hf aL=> ?_
   have hg:=Fr.snoc cX ef bK
   have hh:Fld Z he qx "java/math/MutableBigInteger" "value" "[I" (.ref bb):=h.same aL
   have f:=f.wr aL bK
   have KP:=KP.wr aL (Or.inl (List.mem_of_getElem? (i:=0) rfl))
   have w:=w.wr aL
   have b:=b.wr aL
   have u:=u.other aL (Or.inr (slot_ne (Or.inl (aj hw 110 rfl)) (Or.inl (aj hw 112 rfl)) (by decide) (t:= .int) (t':=(.array .int)) (by decide) (by decide)))
   have v:=v.other aL (Or.inr (slot_ne (Or.inl (aj hw 114 rfl)) (Or.inl (aj hw 112 rfl)) (by decide) (t:= .int) (t':=(.array .int)) (by decide) (by decide)))
   have y:=y.other aL (Ne.symm cm)
   have M:=M.wr aL
   have S:=S.other aL (Or.inl (Ne.symm W))
   have T:=T.other aL (Or.inl (Ne.symm W))
   have R:=R.other aL (Or.inl (Ne.symm W))
   have U:=U.wr aL
   have V:=V.other aL (Ne.symm bl)
   have cJ:=cJ.wr aL
   have cK:=cK.other aL (Ne.symm dx)
   have h:=hh
   refine ak 358 183 cX a ?_
   refine aB 359 184 0 cX a ?_
   refine fh 362 185 109 102 cX a hf u b (Or.inl (aj hw 110 rfl)) (ty:= .int) fun j' hl eP hm aM=> ?_
   have hn:=Fr.snoc eP hg bK
   have hp:Fld Z hl qx "java/math/MutableBigInteger" "offset" "I" (.int (0:Int32)):=u.same aM
   have f:=f.wr aM bK
   have KP:=KP.wr aM (Or.inl (List.mem_of_getElem? (i:=0) rfl))
   have w:=w.wr aM
   have b:=b.wr aM
   have h:=h.other aM (Or.inr (slot_ne (Or.inl (aj hw 112 rfl)) (Or.inl (aj hw 110 rfl)) (by decide) (t:=(.array .int)) (t':= .int) (by decide) (by decide)))
   have v:=v.other aM (Or.inr (slot_ne (Or.inl (aj hw 114 rfl)) (Or.inl (aj hw 110 rfl)) (by decide) (t:= .int) (t':= .int) (by decide) (by decide)))
   have y:=y.other aM (Ne.symm cm)
   have M:=M.wr aM
   have S:=S.other aM (Or.inl (Ne.symm W))
   have T:=T.other aM (Or.inl (Ne.symm W))
   have R:=R.other aM (Or.inl (Ne.symm W))
   have U:=U.wr aM
   have V:=V.other aM (Ne.symm bl)
   have cJ:=cJ.wr aM
   have cK:=cK.other aM (Ne.symm dx)
   have u:=hp
   exact JK _ _ _ bb eH lim _ _ eP hm hn f KP w b u h v y M S T R U V cK cJ (by decide) (by decide) g' (Or.inr eM) (Ne.symm hd) eN ha dx (Ne.symm eN) hlim
  ·refine bQ 362 178 bV a rfl (flt hlm).2.1 ?_
   have hl1:N-1=1:=by have q:=hlm;rw[Int32.lt_iff_toInt_lt] at q;have o:(1:Int32).toInt=1:=rfl;omega
   exact JK _ _ _ H kq (1:Int32) _ _ bV dm ef f KP w b u h v y M S T R U V E L (by decide) (by decide) fg (Or.inl rfl) fQ (Ne.symm eh) (Ne.symm d5) fi eh (by rw[hl1];rfl)
 refine aq 63 30 b' a ?_
 by_cases hcs:s2<sh
 ·refine bQ 125 31 b' a rfl (tlt hcs).1 ?_
  have hn3:n≤3:=Jt hcs hn2 hns ha0 ht0 hle hn4
  have hra:(cn+(2:Int32)).toInt=((n+2:Nat):Int):=lJ hcn rfl (by omega)
  refine ak 126 61 b' a ?_
  refine aE 129 62 113 b' a eb I fun kb dy hq=> ?_
  refine aB 130 63 2 dy a ?_
  refine bJ 131 64 dy a ?_
  obtain ⟨kc,dA,cY,eQ,ht,a7,eR,eS,eT⟩:=newPE dy hx hZ (aj hw 52 rfl) hq (g:=(mkF m 131 #[rv mb,rv dv,rv qx,iv 1,iv sh,iv 2,rv B,.unset,.unset,.unset,.unset,.unset,.unset,.unset,.unset,.unset,.unset,.unset,.unset,.unset,.unset,.unset,.unset,.unset,.unset,.unset,.unset,.unset] [(.int (cn+(2:Int32)))])) rfl (D 65 rfl) rfl (jJ (j:=0) hra rfl (by omega)) (cap:=6) (by rw[nJ hra];omega) (by decide) (by decide) (by decide) (ad:="[I") (by decide)
  obtain ⟨af,ce⟩: ∃z,z=di.heap.size:=⟨_,rfl⟩
  rw[←ce] at eR eS eT
  have cZ:h0.size≤af:=Nat.le_trans KP.1 (Nat.le_of_eq ce.symm)
  have c0:n0≤af:=Nat.le_trans Z0 cZ
  have dB:mb≠af:=Nat.ne_of_lt (Nat.lt_of_lt_of_le w.lt (Nat.le_of_eq ce.symm))
  have hu:aa≠af:=Nat.ne_of_lt (Nat.lt_of_lt_of_le K.lt (Nat.le_of_eq ce.symm))
  have cg:qx≠af:=Nat.ne_of_lt (Nat.lt_of_lt_of_le b.lt (Nat.le_of_eq ce.symm))
  have dC:H≠af:=Nat.ne_of_lt (Nat.lt_of_lt_of_le E.lt (Nat.le_of_eq ce.symm))
  have dD:B≠af:=Nat.ne_of_lt (Nat.lt_of_lt_of_le y.lt (Nat.le_of_eq ce.symm))
  have f:=f.ext a7
  have KP:=KP.ext a7
  have w:=w.ext a7
  have P:=P.ext a7
  have Q:=Q.ext a7
  have I:=I.ext a7
  have K:=K.ext a7
  have b:=b.ext a7
  have u:=u.ext a7
  have h:=h.ext a7
  have v:=v.ext a7
  have E:=E.ext a7
  have L:=L.ext a7
  have y:=y.ext a7
  have aw:Exa Z dA af "[I":=eS
  have ax:bM Z dA af cY (cn+(2:Int32)) (fun _=>0):=rD (Arv.new eR (jJ (j:=0) hra rfl (by omega)))
  refine aG (mkF m 133 #[rv mb,rv dv,rv qx,iv 1,iv sh,iv 2,rv B,.unset,.unset,.unset,.unset,.unset,.unset,.unset,.unset,.unset,.unset,.unset,.unset,.unset,.unset,.unset,.unset,.unset,.unset,.unset,.unset,.unset] [(.ref af)]) eT ?_
  refine gY 135 66 #[_,_,_,_,_,_,_,_,_,_,_,_,_,_,_,_,_,_,_,_,_,_,_,_,_,_,_,_] eQ a ?_
  obtain ⟨kd,cL,dE,hv,aN,eU,c2,-,eV⟩:=newO eQ hx hZ bB (aj hw 133 rfl) (aj hw 102 rfl) (aj hw 103 rfl) ht (g:=(mkF m 135 #[rv mb,rv dv,rv qx,iv 1,iv sh,iv 2,rv B,.unset,rv af,.unset,.unset,.unset,.unset,.unset,.unset,.unset,.unset,.unset,.unset,.unset,.unset,.unset,.unset,.unset,.unset,.unset,.unset,.unset] [])) rfl (D 67 rfl) (by decide) (by decide)
  obtain ⟨Y,b5⟩: ∃z,z=dA.size:=⟨_,rfl⟩
  rw[←b5] at eU c2 eV
  have cM:h0.size≤Y:=Nat.le_trans KP.1 (Nat.le_of_eq b5.symm)
  have ct:n0≤Y:=Nat.le_trans Z0 cM
  have bF:mb≠Y:=Nat.ne_of_lt (Nat.lt_of_lt_of_le w.lt (Nat.le_of_eq b5.symm))
  have dF:aa≠Y:=Nat.ne_of_lt (Nat.lt_of_lt_of_le K.lt (Nat.le_of_eq b5.symm))
  have bx:qx≠Y:=Nat.ne_of_lt (Nat.lt_of_lt_of_le b.lt (Nat.le_of_eq b5.symm))
  have c3:H≠Y:=Nat.ne_of_lt (Nat.lt_of_lt_of_le E.lt (Nat.le_of_eq b5.symm))
  have c4:B≠Y:=Nat.ne_of_lt (Nat.lt_of_lt_of_le y.lt (Nat.le_of_eq b5.symm))
  have bn:af≠Y:=Nat.ne_of_lt (Nat.lt_of_lt_of_le aw.lt (Nat.le_of_eq b5.symm))
  have f:=f.ext aN
  have KP:=KP.ext aN
  have w:=w.ext aN
  have P:=P.ext aN
  have Q:=Q.ext aN
  have I:=I.ext aN
  have K:=K.ext aN
  have b:=b.ext aN
  have u:=u.ext aN
  have h:=h.ext aN
  have v:=v.ext aN
  have E:=E.ext aN
  have L:=L.ext aN
  have y:=y.ext aN
  have aw:=aw.ext aN
  have ax:=ax.ext aN
  have aA:Exa Z cL Y "java/math/MutableBigInteger":=eU
  have hy:Fld Z cL Y "java/math/MutableBigInteger" "offset" "I" (.int (0:Int32)):=c2 (Or.inl (aj hw 110 rfl)) (ty:= .int) (by decide)
  have hz:Fld Z cL Y "java/math/MutableBigInteger" "value" "[I" .null:=c2 (Or.inl (aj hw 112 rfl)) (ty:=(.array .int)) (by decide)
  have hB:Fld Z cL Y "java/math/MutableBigInteger" "intLen" "I" (.int (0:Int32)):=c2 (Or.inl (aj hw 114 rfl)) (ty:= .int) (by decide)
  refine aG (mkF m 138 #[rv mb,rv dv,rv qx,iv 1,iv sh,iv 2,rv B,.unset,rv af,.unset,.unset,.unset,.unset,.unset,.unset,.unset,.unset,.unset,.unset,.unset,.unset,.unset,.unset,.unset,.unset,.unset,.unset,.unset] [(.ref Y)]) eV ?_
  refine jh 139 68 dE a ?_
  refine aR 141 69 dE a ?_
  refine iJ 144 1 1 3 11 70 269 116 103 117 dE a (xT l Z a0 hw [] Y af (cn+(2:Int32)) cL n0 (Nat.le_trans Z0 KP.1) f ct aA hy hz hB cY _ bn ax) xD hv rfl fun _ kf kh c5 hC=> ?_
  obtain ⟨rfl,hD,aO,hE,hF,hG,hH⟩:=hC
  have hI:=Fr.app ec hD
  have f:=f.keep aO (allS ct all0)
  have KP:=KP.trans aO (allS (Or.inr cM) all0)
  have w:=w.keep aO
  have P:=P.keep aO (ninS bF nin0)
  have Q:=Q.keep aO (ninS bF nin0)
  have I:=I.keep aO (ninS bF nin0)
  have K:=K.keep aO (ninS dF nin0)
  have b:=b.keep aO
  have u:=u.keep aO (ninS bx nin0)
  have h:=h.keep aO (ninS bx nin0)
  have v:=v.keep aO (ninS bx nin0)
  have E:=E.keep aO (ninS c3 nin0)
  have L:=L.keep aO
  have y:=y.keep aO (ninS c4 nin0)
  have aw:=aw.keep aO
  have ax:=ax.keep aO (ninS bn nin0)
  refine aJ [_] ?_
  have aA:=hE
  have a8:=hF
  have bd:=hG
  have a9:=hH
  refine gY 146 71 #[_,_,_,_,_,_,_,_,_,_,_,_,_,_,_,_,_,_,_,_,_,_,_,_,_,_,_,_] c5 a ?_
  refine aR 148 72 c5 a ?_
  refine ak 149 73 c5 a ?_
  refine aE 152 74 113 c5 a rfl I fun ki dH hJ=> ?_
  refine aB 153 75 1 dH a ?_
  refine bJ 154 76 dH a ?_
  refine fh 157 77 113 102 dH a hJ a9 aA (Or.inl (aj hw 114 rfl)) (ty:= .int) fun kk hK c6 hL ag=> ?_
  have hM:=Fr.snoc c6 hI ct
  have hN:Fld Z hK Y "java/math/MutableBigInteger" "intLen" "I" (.int (cn+(1:Int32))):=a9.same ag
  have f:=f.wr ag ct
  have KP:=KP.wr ag (Or.inr cM)
  have w:=w.wr ag
  have P:=P.other ag (Or.inl bF)
  have Q:=Q.other ag (Or.inl bF)
  have I:=I.other ag (Or.inl bF)
  have K:=K.other ag dF
  have b:=b.wr ag
  have u:=u.other ag (Or.inl bx)
  have h:=h.other ag (Or.inl bx)
  have v:=v.other ag (Or.inl bx)
  have E:=E.other ag c3
  have L:=L.wr ag
  have y:=y.other ag c4
  have aw:=aw.wr ag
  have ax:=ax.other ag bn
  have aA:=aA.wr ag
  have a8:=a8.other ag (Or.inr (slot_ne (Or.inl (aj hw 110 rfl)) (Or.inl (aj hw 114 rfl)) (by decide) (t:= .int) (t':= .int) (by decide) (by decide)))
  have bd:=bd.other ag (Or.inr (slot_ne (Or.inl (aj hw 112 rfl)) (Or.inl (aj hw 114 rfl)) (by decide) (t:=(.array .int)) (t':= .int) (by decide) (by decide)))
  have a9:=hN
  refine aR 159 78 c6 a ?_
  refine aB 160 79 1 c6 a ?_
  refine fh 163 80 109 102 c6 a hL a8 aA (Or.inl (aj hw 110 rfl)) (ty:= .int) fun kl hO dI hP ai=> ?_
  have hQ:=Fr.snoc dI hM ct
  have hS:Fld Z hO Y "java/math/MutableBigInteger" "offset" "I" (.int (1:Int32)):=a8.same ai
  have f:=f.wr ai ct
  have KP:=KP.wr ai (Or.inr cM)
  have w:=w.wr ai
  have P:=P.other ai (Or.inl bF)
  have Q:=Q.other ai (Or.inl bF)
  have I:=I.other ai (Or.inl bF)
  have K:=K.other ai dF
  have b:=b.wr ai
  have u:=u.other ai (Or.inl bx)
  have h:=h.other ai (Or.inl bx)
  have v:=v.other ai (Or.inl bx)
  have E:=E.other ai c3
  have L:=L.wr ai
  have y:=y.other ai c4
  have aw:=aw.wr ai
  have ax:=ax.other ai bn
  have aA:=aA.wr ai
  have bd:=bd.other ai (Or.inr (slot_ne (Or.inl (aj hw 112 rfl)) (Or.inl (aj hw 110 rfl)) (by decide) (t:=(.array .int)) (t':= .int) (by decide) (by decide)))
  have a9:=a9.other ai (Or.inr (slot_ne (Or.inl (aj hw 114 rfl)) (Or.inl (aj hw 110 rfl)) (by decide) (t:= .int) (t':= .int) (by decide) (by decide)))
  have a8:=hS
  refine ak 164 81 dI a ?_
  refine aE 167 82 109 dI a hP P fun km bz hT=> ?_
  refine bh 169 83 #[_,_,_,_,_,_,_,_,_,_,_,_,_,_,_,_,_,_,_,_,_,_,_,_,_,_,_,_] bz a ?_
  refine aB 170 84 0 bz a ?_
  refine bh 172 85 #[_,_,_,_,_,_,_,_,_,_,_,_,_,_,_,_,_,_,_,_,_,_,_,_,_,_,_,_] bz a ?_
  refine bT 174 86 32 bz a ?_
  refine aq 176 87 bz a ?_
  refine dQ 177 88 bz a ?_
  refine bh 179 89 #[_,_,_,_,_,_,_,_,_,_,_,_,_,_,_,_,_,_,_,_,_,_,_,_,_,_,_,_] bz a ?_
  refine aB 180 90 1 bz a ?_
  refine bh 182 91 #[_,_,_,_,_,_,_,_,_,_,_,_,_,_,_,_,_,_,_,_,_,_,_,_,_,_,_,_] bz a ?_
  have hc1:(cn+(1:Int32)).toInt=((n+1:Nat):Int):=lJ hcn rfl (by omega)
  have LP: ∀r:Nat,∀(T_:State) (A:Heap) (L_:List Loc) (i:Nat) (ji jk:Int32) (g13:Slot),Stand p l e ({frames:=3,cells:=4,slots:=24,locals:=60}:Room) s m #[(.ref mb),(.ref dv),(.ref qx),(.int (1:Int32))] a5 bq c T_ L_ 3 11→T_.heap=A→Fr n0 L_→Old Z n0 A→Keep h0 A [qx,H]→Exa Z A mb "java/math/MutableBigInteger"→Fld Z A mb "java/math/MutableBigInteger" "offset" "I" (.int (0:Int32))→Fld Z A mb "java/math/MutableBigInteger" "value" "[I" (.ref aa)→Fld Z A mb "java/math/MutableBigInteger" "intLen" "I" (.int cn)→bM Z A aa ka cn fa→Exa Z A qx "java/math/MutableBigInteger"→Fld Z A qx "java/math/MutableBigInteger" "offset" "I" (.int (0:Int32))→Fld Z A qx "java/math/MutableBigInteger" "value" "[I" (.ref H)→Fld Z A qx "java/math/MutableBigInteger" "intLen" "I" (.int (0:Int32))→bM Z A H kq (1:Int32) (fun _=>0)→Exa Z A H "[I"→Arv Z A B aT .int (2:Int32) [(.int X),(.int dl)] (.int (0:Int32))→Exa Z A af "[I"→bM Z A af cY (cn+(2:Int32)) (nY sh (pG fa) (fun _=>0) 1 i)→Exa Z A Y "java/math/MutableBigInteger"→Fld Z A Y "java/math/MutableBigInteger" "offset" "I" (.int (1:Int32))→Fld Z A Y "java/math/MutableBigInteger" "value" "[I" (.ref af)→Fld Z A Y "java/math/MutableBigInteger" "intLen" "I" (.int (cn+(1:Int32)))→i+r=n→ji.toInt=i→jk.toInt=((1+i:Nat):Int)→i_ g13→ay p e a5 (gb s (qe Z qx H (aY fa n) (aY ft 2) h0 n0) ({frames:=3,cells:=4,slots:=24,locals:=60}:Room).cells ({frames:=3,cells:=4,slots:=24,locals:=60}:Room).slots) T_ (mkF m 182 #[rv mb,rv dv,rv qx,iv 1,iv sh,iv 2,rv B,rv Y,rv af,iv ji,iv (pG fa i),iv ((32:Int32)-sh),iv jk,g13,.unset,.unset,.unset,.unset,.unset,.unset,.unset,.unset,.unset,.unset,.unset,.unset,.unset,.unset] []):=by
   intro r
   induction r with
   |zero=>
    intro kn ko kp i ji jk g13 dJ hU hV f KP w P Q I K b u h v E L y aw ax aA a8 bd a9 hr hi hj c13
    refine aq 184 92 dJ a ?_
    refine ak 185 93 dJ a ?_
    refine aE 188 94 113 dJ a hU I fun kt cu hW=> ?_
    refine aB 189 95 1 cu a ?_
    refine bJ 190 96 cu a ?_
    refine bQ 231 97 cu a rfl (flt (jJ hj hc1 (by omega))).2.1 ?_
    obtain rfl:i=n:=by omega
    refine aR 233 118 cu a ?_
    refine ak 234 119 cu a ?_
    refine aE 237 120 113 cu a hW I fun kv cv hX=> ?_
    refine aB 238 121 1 cv a ?_
    refine bJ 239 122 cv a ?_
    refine aq 241 123 cv a ?_
    refine aq 243 124 cv a ?_
    refine nG 244 125 cv a ?_
    refine jW 245 (1+i) cv hx hZ hX ax (hc1.trans (by omega)) (by omega) (D 126 rfl) rfl fun kx ky dK hY aX h1=> ?_
    have h2:=Fr.snoc dK hV c0
    have f:=f.wr aX c0
    have KP:=KP.wr aX (Or.inr cZ)
    have w:=w.wr aX
    have b:=b.wr aX
    have u:=u.other aX (Or.inl cg)
    have h:=h.other aX (Or.inl cg)
    have v:=v.other aX (Or.inl cg)
    have E:=E.other aX dC
    have L:=L.wr aX
    have y:=y.other aX dD
    have aw:=aw.wr aX
    have aA:=aA.wr aX
    have a8:=a8.other aX (Or.inl (Ne.symm bn))
    have bd:=bd.other aX (Or.inl (Ne.symm bn))
    have a9:=a9.other aX (Or.inl (Ne.symm bn))
    have ax:=h1
    refine bL 323 127 dK a ?_
    have kA:=c13
    exact J _ _ _ Y af cY (cn+(1:Int32)) (cn+(2:Int32)) (pG fa) (i+1) _ _ _ _ g13 dK hY h2 f KP w b u h v E L y aA a8 bd a9 aw ax cM cZ (Ne.symm bn) dD cg dC bx c4 c3 hc1 hra (by omega) (by omega) (BM fa i) (by show ah 0*_<_;rw[show ah (0:Int32)=0 from rfl];omega) ⟨rfl,rfl⟩ ⟨rfl,rfl⟩ ⟨rfl,rfl⟩ ⟨rfl,rfl⟩ c13
   |succ r IH=>
    intro kB kC kD i ji jk g13 dL h3 h4 f KP w P Q I K b u h v E L y aw ax aA a8 bd a9 hr hi hj c13
    refine aq 184 92 dL a ?_
    refine ak 185 93 dL a ?_
    refine aE 188 94 113 dL a h3 I fun kE cj h5=> ?_
    refine aB 189 95 1 cj a ?_
    refine bJ 190 96 cj a ?_
    refine bY 193 97 cj a rfl (tlt (lg hj hc1 (by omega))).2.1 ?_
    refine aq 195 98 cj a ?_
    refine ku 197 13 #[rv mb,rv dv,rv qx,iv 1,iv sh,iv 2,rv B,rv Y,rv af,iv ji,iv (pG fa i),iv ((32:Int32)-sh),iv jk,iv (pG fa i),.unset,.unset,.unset,.unset,.unset,.unset,.unset,.unset,.unset,.unset,.unset,.unset,.unset,.unset] cj hx (D 99 rfl) rfl c13 rfl rfl ?_
    refine ak 198 100 cj a ?_
    refine aE 201 101 111 cj a h5 Q fun kF be eX=> ?_
    refine aq 203 102 be a ?_
    refine jB 204 i be hx hZ eX K hi (by omega) (D 103 rfl) rfl ?_
    rw[(BK fa i).symm]
    refine bh 206 104 #[_,_,_,_,_,_,_,_,_,_,_,_,_,_,_,_,_,_,_,_,_,_,_,_,_,_,_,_] be a ?_
    refine aR 208 105 be a ?_
    refine aq 210 106 be a ?_
    refine aq 212 107 be a ?_
    refine aq 214 108 be a ?_
    refine nG 215 109 be a ?_
    refine aq 217 110 be a ?_
    refine aq 219 111 be a ?_
    refine jw 220 112 be a ?_
    refine sY 221 113 be a ?_
    refine jW 222 (1+i) be hx hZ eX ax hj (by omega) (D 114 rfl) rfl fun kG kH cN h6 av h7=> ?_
    have h8:=Fr.snoc cN h4 c0
    have f:=f.wr av c0
    have KP:=KP.wr av (Or.inr cZ)
    have w:=w.wr av
    have P:=P.other av (Or.inl dB)
    have Q:=Q.other av (Or.inl dB)
    have I:=I.other av (Or.inl dB)
    have K:=K.other av hu
    have b:=b.wr av
    have u:=u.other av (Or.inl cg)
    have h:=h.other av (Or.inl cg)
    have v:=v.other av (Or.inl cg)
    have E:=E.other av dC
    have L:=L.wr av
    have y:=y.other av dD
    have aw:=aw.wr av
    have aA:=aA.wr av
    have a8:=a8.other av (Or.inl (Ne.symm bn))
    have bd:=bd.other av (Or.inl (Ne.symm bn))
    have a9:=a9.other av (Or.inl (Ne.symm bn))
    have ax:=h7
    refine dG 225 115 #[_,_,_,_,_,_,_,_,_,_,_,_,iv (jk+(1:Int32)),_,_,_,_,_,_,_,_,_,_,_,_,_,_,_] cN a ?_
    refine dG 228 116 #[_,_,_,_,_,_,_,_,_,iv (ji+(1:Int32)),_,_,_,_,_,_,_,_,_,_,_,_,_,_,_,_,_,_] cN a ?_
    refine bL 182 117 cN a ?_
    exact IH _ _ _ (i+1) (ji+(1:Int32)) (jk+(1:Int32)) _ cN h6 h8 f KP w P Q I K b u h v E L y aw (BA ax) aA a8 bd a9 (by omega) (lJ hi rfl (by omega)) ((lJ hj (j:=1) rfl (by omega)).trans (by omega)) ⟨rfl,rfl⟩
  exact LP n _ _ _ 0 (0:Int32) (1:Int32) .unset bz hT hQ f KP w P Q I K b u h v E L y aw (by rw[Bz];exact ax) aA a8 bd a9 (by omega) rfl rfl ⟨rfl,rfl⟩
 ·refine bY 66 31 b' a rfl (flt hcs).1 ?_
  have hra:(cn+(1:Int32)).toInt=((n+1:Nat):Int):=lJ hcn rfl (by omega)
  refine ak 67 32 b' a ?_
  refine aE 70 33 113 b' a eb I fun kI dM h9=> ?_
  refine aB 71 34 1 dM a ?_
  refine bJ 72 35 dM a ?_
  obtain ⟨kJ,dP,c7,eZ,ia,a_,e2,e3,e4⟩:=newPE dM hx hZ (aj hw 52 rfl) h9 (g:=(mkF m 72 #[rv mb,rv dv,rv qx,iv 1,iv sh,iv 2,rv B,.unset,.unset,.unset,.unset,.unset,.unset,.unset,.unset,.unset,.unset,.unset,.unset,.unset,.unset,.unset,.unset,.unset,.unset,.unset,.unset,.unset] [(.int (cn+(1:Int32)))])) rfl (D 36 rfl) rfl (jJ (j:=0) hra rfl (by omega)) (cap:=6) (by rw[nJ hra];omega) (by decide) (by decide) (by decide) (ad:="[I") (by decide)
  obtain ⟨aP,ck⟩: ∃z,z=di.heap.size:=⟨_,rfl⟩
  rw[←ck] at e2 e3 e4
  have dR:h0.size≤aP:=Nat.le_trans KP.1 (Nat.le_of_eq ck.symm)
  have e5:n0≤aP:=Nat.le_trans Z0 dR
  have kK:mb≠aP:=Nat.ne_of_lt (Nat.lt_of_lt_of_le w.lt (Nat.le_of_eq ck.symm))
  have ib:aa≠aP:=Nat.ne_of_lt (Nat.lt_of_lt_of_le K.lt (Nat.le_of_eq ck.symm))
  have c8:qx≠aP:=Nat.ne_of_lt (Nat.lt_of_lt_of_le b.lt (Nat.le_of_eq ck.symm))
  have e6:H≠aP:=Nat.ne_of_lt (Nat.lt_of_lt_of_le E.lt (Nat.le_of_eq ck.symm))
  have e7:B≠aP:=Nat.ne_of_lt (Nat.lt_of_lt_of_le y.lt (Nat.le_of_eq ck.symm))
  have f:=f.ext a_
  have KP:=KP.ext a_
  have w:=w.ext a_
  have P:=P.ext a_
  have Q:=Q.ext a_
  have I:=I.ext a_
  have K:=K.ext a_
  have b:=b.ext a_
  have u:=u.ext a_
  have h:=h.ext a_
  have v:=v.ext a_
  have E:=E.ext a_
  have L:=L.ext a_
  have y:=y.ext a_
  have bf:Exa Z dP aP "[I":=e3
  have bg:bM Z dP aP c7 (cn+(1:Int32)) (fun _=>0):=rD (Arv.new e2 (jJ (j:=0) hra rfl (by omega)))
  refine aG (mkF m 74 #[rv mb,rv dv,rv qx,iv 1,iv sh,iv 2,rv B,.unset,.unset,.unset,.unset,.unset,.unset,.unset,.unset,.unset,.unset,.unset,.unset,.unset,.unset,.unset,.unset,.unset,.unset,.unset,.unset,.unset] [(.ref aP)]) e4 ?_
  refine gY 76 37 #[_,_,_,_,_,_,_,_,_,_,_,_,_,_,_,_,_,_,_,_,_,_,_,_,_,_,_,_] eZ a ?_
  obtain ⟨kL,cO,dS,ic,aQ,e8,c_,-,e9⟩:=newO eZ hx hZ bB (aj hw 133 rfl) (aj hw 102 rfl) (aj hw 103 rfl) ia (g:=(mkF m 76 #[rv mb,rv dv,rv qx,iv 1,iv sh,iv 2,rv B,.unset,rv aP,.unset,.unset,.unset,.unset,.unset,.unset,.unset,.unset,.unset,.unset,.unset,.unset,.unset,.unset,.unset,.unset,.unset,.unset,.unset] [])) rfl (D 38 rfl) (by decide) (by decide)
  obtain ⟨aC,b6⟩: ∃z,z=dP.size:=⟨_,rfl⟩
  rw[←b6] at e8 c_ e9
  have cP:h0.size≤aC:=Nat.le_trans KP.1 (Nat.le_of_eq b6.symm)
  have cw:n0≤aC:=Nat.le_trans Z0 cP
  have bH:mb≠aC:=Nat.ne_of_lt (Nat.lt_of_lt_of_le w.lt (Nat.le_of_eq b6.symm))
  have dT:aa≠aC:=Nat.ne_of_lt (Nat.lt_of_lt_of_le K.lt (Nat.le_of_eq b6.symm))
  have bA:qx≠aC:=Nat.ne_of_lt (Nat.lt_of_lt_of_le b.lt (Nat.le_of_eq b6.symm))
  have c':H≠aC:=Nat.ne_of_lt (Nat.lt_of_lt_of_le E.lt (Nat.le_of_eq b6.symm))
  have da:B≠aC:=Nat.ne_of_lt (Nat.lt_of_lt_of_le y.lt (Nat.le_of_eq b6.symm))
  have b7:aP≠aC:=Nat.ne_of_lt (Nat.lt_of_lt_of_le bf.lt (Nat.le_of_eq b6.symm))
  have f:=f.ext aQ
  have KP:=KP.ext aQ
  have w:=w.ext aQ
  have P:=P.ext aQ
  have Q:=Q.ext aQ
  have I:=I.ext aQ
  have K:=K.ext aQ
  have b:=b.ext aQ
  have u:=u.ext aQ
  have h:=h.ext aQ
  have v:=v.ext aQ
  have E:=E.ext aQ
  have L:=L.ext aQ
  have y:=y.ext aQ
  have bf:=bf.ext aQ
  have bg:=bg.ext aQ
  have bo:Exa Z cO aC "java/math/MutableBigInteger":=e8
  have ie:Fld Z cO aC "java/math/MutableBigInteger" "offset" "I" (.int (0:Int32)):=c_ (Or.inl (aj hw 110 rfl)) (ty:= .int) (by decide)
  have ig:Fld Z cO aC "java/math/MutableBigInteger" "value" "[I" .null:=c_ (Or.inl (aj hw 112 rfl)) (ty:=(.array .int)) (by decide)
  have ih:Fld Z cO aC "java/math/MutableBigInteger" "intLen" "I" (.int (0:Int32)):=c_ (Or.inl (aj hw 114 rfl)) (ty:= .int) (by decide)
  refine aG (mkF m 79 #[rv mb,rv dv,rv qx,iv 1,iv sh,iv 2,rv B,.unset,rv aP,.unset,.unset,.unset,.unset,.unset,.unset,.unset,.unset,.unset,.unset,.unset,.unset,.unset,.unset,.unset,.unset,.unset,.unset,.unset] [(.ref aC)]) e9 ?_
  refine jh 80 39 dS a ?_
  refine aR 82 40 dS a ?_
  refine iJ 85 1 1 3 11 41 269 116 103 117 dS a (xT l Z a0 hw [] aC aP (cn+(1:Int32)) cO n0 (Nat.le_trans Z0 KP.1) f cw bo ie ig ih c7 _ b7 bg) xD ic rfl fun _ kM kN db ii=> ?_
  obtain ⟨rfl,ik,aS,il,im,io,ip⟩:=ii
  have iy:=Fr.app ec ik
  have f:=f.keep aS (allS cw all0)
  have KP:=KP.trans aS (allS (Or.inr cP) all0)
  have w:=w.keep aS
  have P:=P.keep aS (ninS bH nin0)
  have Q:=Q.keep aS (ninS bH nin0)
  have I:=I.keep aS (ninS bH nin0)
  have K:=K.keep aS (ninS dT nin0)
  have b:=b.keep aS
  have u:=u.keep aS (ninS bA nin0)
  have h:=h.keep aS (ninS bA nin0)
  have v:=v.keep aS (ninS bA nin0)
  have E:=E.keep aS (ninS c' nin0)
  have L:=L.keep aS
  have y:=y.keep aS (ninS da nin0)
  have bf:=bf.keep aS
  have bg:=bg.keep aS (ninS b7 nin0)
  refine aJ [_] ?_
  have bo:=il
  have b8:=im
  have cl:=io
  have b9:=ip
  refine gY 87 42 #[_,_,_,_,_,_,_,_,_,_,_,_,_,_,_,_,_,_,_,_,_,_,_,_,_,_,_,_] db a ?_
  refine aR 89 43 db a ?_
  refine ak 90 44 db a ?_
  refine aE 93 45 113 db a rfl I fun kO iA iB=> ?_
  refine fh 96 46 113 102 iA a iB b9 bo (Or.inl (aj hw 114 rfl)) (ty:= .int) fun kP iC dc iD al=> ?_
  have iE:=Fr.snoc dc iy cw
  have iF:Fld Z iC aC "java/math/MutableBigInteger" "intLen" "I" (.int cn):=b9.same al
  have f:=f.wr al cw
  have KP:=KP.wr al (Or.inr cP)
  have w:=w.wr al
  have P:=P.other al (Or.inl bH)
  have Q:=Q.other al (Or.inl bH)
  have I:=I.other al (Or.inl bH)
  have K:=K.other al dT
  have b:=b.wr al
  have u:=u.other al (Or.inl bA)
  have h:=h.other al (Or.inl bA)
  have v:=v.other al (Or.inl bA)
  have E:=E.other al c'
  have L:=L.wr al
  have y:=y.other al da
  have bf:=bf.wr al
  have bg:=bg.other al b7
  have bo:=bo.wr al
  have b8:=b8.other al (Or.inr (slot_ne (Or.inl (aj hw 110 rfl)) (Or.inl (aj hw 114 rfl)) (by decide) (t:= .int) (t':= .int) (by decide) (by decide)))
  have cl:=cl.other al (Or.inr (slot_ne (Or.inl (aj hw 112 rfl)) (Or.inl (aj hw 114 rfl)) (by decide) (t:=(.array .int)) (t':= .int) (by decide) (by decide)))
  have b9:=iF
  refine aR 98 47 dc a ?_
  refine aB 99 48 1 dc a ?_
  refine fh 102 49 109 102 dc a iD b8 bo (Or.inl (aj hw 110 rfl)) (ty:= .int) fun kQ fb dV iG am=> ?_
  have iH:=Fr.snoc dV iE cw
  have iI:Fld Z fb aC "java/math/MutableBigInteger" "offset" "I" (.int (1:Int32)):=b8.same am
  have f:=f.wr am cw
  have KP:=KP.wr am (Or.inr cP)
  have w:=w.wr am
  have P:=P.other am (Or.inl bH)
  have Q:=Q.other am (Or.inl bH)
  have I:=I.other am (Or.inl bH)
  have K:=K.other am dT
  have b:=b.wr am
  have u:=u.other am (Or.inl bA)
  have h:=h.other am (Or.inl bA)
  have v:=v.other am (Or.inl bA)
  have E:=E.other am c'
  have L:=L.wr am
  have y:=y.other am da
  have bf:=bf.wr am
  have bg:=bg.other am b7
  have bo:=bo.wr am
  have cl:=cl.other am (Or.inr (slot_ne (Or.inl (aj hw 112 rfl)) (Or.inl (aj hw 110 rfl)) (by decide) (t:=(.array .int)) (t':= .int) (by decide) (by decide)))
  have b9:=b9.other am (Or.inr (slot_ne (Or.inl (aj hw 114 rfl)) (Or.inl (aj hw 110 rfl)) (by decide) (t:= .int) (t':= .int) (by decide) (by decide)))
  have b8:=iI
  refine ak 103 50 dV a ?_
  refine aE 106 51 111 dV a iG Q fun kR fc iK=> ?_
  refine ak 107 52 fc a ?_
  refine aE 110 53 109 fc a iK P fun kS fe iL=> ?_
  refine ak 111 54 fe a ?_
  refine aE 114 55 113 fe a iL I fun kT dd iM=> ?_
  refine aR 116 56 dd a ?_
  refine aB 117 57 1 dd a ?_
  refine aq 119 58 dd a ?_
  refine bZ 122 6 0 3 11 59 266 267 103 268 dd a (EK l Z a0 hw [] aa aP c7 (cn+(1:Int32)) cn (1:Int32) sh fa (fun _=>0) 1 n fb n0 (Nat.le_trans Z0 KP.1) f ka cn e5 ib K bg hcn rfl (by omega) (by omega) (by omega) (by omega) (by omega)) D_ iM fun _ kU kV ff iN=> ?_
  obtain ⟨rfl,iO,aZ,iP⟩:=iN
  have iQ:=Fr.app iH iO
  have f:=f.keep aZ (allS e5 all0)
  have KP:=KP.trans aZ (allS (Or.inr dR) all0)
  have w:=w.keep aZ
  have b:=b.keep aZ
  have u:=u.keep aZ (ninS c8 nin0)
  have h:=h.keep aZ (ninS c8 nin0)
  have v:=v.keep aZ (ninS c8 nin0)
  have E:=E.keep aZ (ninS e6 nin0)
  have L:=L.keep aZ
  have y:=y.keep aZ (ninS e7 nin0)
  have bf:=bf.keep aZ
  have bo:=bo.keep aZ
  have b8:=b8.keep aZ (ninS (Ne.symm b7) nin0)
  have cl:=cl.keep aZ (ninS (Ne.symm b7) nin0)
  have b9:=b9.keep aZ (ninS (Ne.symm b7) nin0)
  refine aJ [] ?_
  have bg:=iP
  refine bL 323 60 ff a ?_
  exact J _ _ _ aC aP c7 cn (cn+(1:Int32)) fa n _ _ _ _ _ ff rfl iQ f KP w b u h v E L y bo b8 cl b9 bf bg cP dR (Ne.symm b7) e7 c8 e6 bA da c' hcn hra fn hn4 rfl (IY hn2 (aW (fa 0)).1 hs hcs) ⟨rfl,rfl⟩ ⟨rfl,rfl⟩ ⟨rfl,rfl⟩ ⟨rfl,rfl⟩ ⟨rfl,rfl⟩
def uz (Z:State)(qx a:Addr)(A D:Int)(h0:Heap)(n0:Nat)(v:Option Value)(h:Heap)(L:List Loc):Prop:= ∃(rv:Int32) (qa:Addr) (kq:ClassId) (b c d:Int32) (G:Nat→Int32) (nq:Nat),v=some (.int rv)∧Fr n0 L∧Keep h0 h [qx,a]∧(qa=a∨h0.size≤qa)∧qx≠qa∧Exa Z h qx "java/math/MutableBigInteger"∧Fld Z h qx "java/math/MutableBigInteger" "offset" "I" (.int b)∧Fld Z h qx "java/math/MutableBigInteger" "value" "[I" (.ref qa)∧Fld Z h qx "java/math/MutableBigInteger" "intLen" "I" (.int c)∧bM Z h qa kq d G∧Exa Z h qa "[I"∧d.toInt=(nq:Int)∧nq≤8∧oE b c nq G∧aY G nq=A/D∧(rv=0↔A%D=0)
theorem XD (l:Launch)(Z:State)(a0:Array Value)(hw: ∀d∈tables_1,d.before a0 Z=true)(ws:List Jvm.Cond)(mb qx f:Addr)(tt:Int32)(fa:Nat→Int32)(h0:Heap)(n0:Nat)(Z0:n0≤h0.size)(OL:Old Z n0 h0)(aa:Addr)(ka kq:ClassId)(G:n0≤qx)(K:n0≤f)(x:qx≠f)(aH:mb≠qx)(aK:aa≠qx)(aL:mb≠f)(aM:aa≠f)(aN:Exa Z h0 mb "java/math/MutableBigInteger")(L:Fld Z h0 mb "java/math/MutableBigInteger" "offset" "I" (.int (0:Int32)))(M:Fld Z h0 mb "java/math/MutableBigInteger" "value" "[I" (.ref aa))(N:Fld Z h0 mb "java/math/MutableBigInteger" "intLen" "I" (.int (1:Int32)))(O:bM Z h0 aa ka (1:Int32) fa)(g:Exa Z h0 qx "java/math/MutableBigInteger")(h:Fld Z h0 qx "java/math/MutableBigInteger" "offset" "I" (.int (0:Int32)))(j:Fld Z h0 qx "java/math/MutableBigInteger" "value" "[I" (.ref f))(n:Fld Z h0 qx "java/math/MutableBigInteger" "intLen" "I" (.int (0:Int32)))(r:bM Z h0 f kq (1:Int32) (fun _=>0))(u:Exa Z h0 f "[I")(ht0:0<ah tt)(hle:ah tt≤ah (fa 0)):
  bp l (⟨"java/math/MutableBigInteger","divideOneWord","(ILjava/math/MutableBigInteger;)I"⟩:MethodName) (Jvm.Cond.code (⟨"java/math/MutableBigInteger","divideOneWord","(ILjava/math/MutableBigInteger;)I"⟩:MethodName) jdk_2101_method_53_code 15 (some .int)::ws) ({frames:=1,cells:=1,slots:=4,locals:=24}:Room) #[(.ref mb),(.int tt),(.ref qx)] Z h0 (uz Z qx f (aY fa 1) (ah tt) h0 n0):=by
 refine bI (plainFor_of_name jy) (fun m=>Uc m mb tt qx) fun p e s m aO aP c s₁ hx H P R (S:s.vm.findClass "java/math/MutableBigInteger"=some m.cls) hnm hret X0 hZ e0=> ?_
 have D:=fj H wX
 have a:=bG hx H wX S hZ R hw
 have N0:=Fr.nil n0
 have KP:Keep h0 h0 [qx,f]:=Keep.refl _ _
 have hnz:tt≠0:=nj ht0
 refine au 1 0 X0 a ?_
 refine bW 2 1 X0 a ?_
 refine bO 5 214 2 X0 a ?_
 refine bR 6 3 X0 a ?_
 generalize T:((tt.toInt64)&&&(4294967295:Int64))=dl
 have hdl:dl.toInt=ah tt:=T▸ij tt
 have hln:dl≠0:=fun q=>by rw[q] at hdl;have o:(0:Int64).toInt=0:=rfl;omega
 have ut:=aW tt
 refine pY 7 4 #[_,_,_,_,_,_,_,_,_,_,_,_,_,_,_] X0 a ?_
 refine ak 8 5 X0 a ?_
 refine aE 11 6 113 X0 a e0 N fun aQ B U=> ?_
 refine aB 12 7 1 B a ?_
 refine bY 15 8 B a rfl (teq (by decide:(1:Int32)=(1:Int32))).2 ?_
 refine ak 16 9 B a ?_
 refine aE 19 10 111 B a U M fun aS I V=> ?_
 refine ak 20 11 I a ?_
 refine aE 23 12 109 I a V L fun W b J=> ?_
 refine jB 24 0 b hx hZ J O rfl (by decide) (D 13 rfl) rfl ?_
 refine bW 25 14 b a ?_
 refine bO 28 214 15 b a ?_
 refine bR 29 16 b a ?_
 generalize X:(((fa 0).toInt64)&&&(4294967295:Int64))=A
 have hdv:A.toInt=ah (fa 0):=X▸ij (fa 0)
 have ua:=aW (fa 0)
 have LQ:=yP (BW (by omega)) hdl ht0 ut.2 (by rw[hdv];omega) (Cj hdv)
 refine dN 31 17 #[_,_,_,_,_,_,_,_,_,_,_,_,_,_,_] b a ?_
 refine aI 33 18 b a ?_
 refine eW 34 19 b a ?_
 refine aG (T':=W) (mkF m 35 #[rv mb,iv tt,rv qx,.val (.long dl),.second,.val (.long A),.second,.unset,.unset,.unset,.unset,.unset,.unset,.unset,.unset] [(.long (A/dl))]) (fun _ k=>XS.ldiv b.here hx rfl (D 20 rfl) rfl hln k) ?_
 refine gn 36 21 b a ?_
 generalize Y:((A/dl).toInt32)=qd
 refine bh 38 22 #[_,_,_,_,_,_,_,_,_,_,_,_,_,_,_] b a ?_
 refine aI 40 23 b a ?_
 refine aq 42 24 b a ?_
 refine bW 43 25 b a ?_
 refine eW 44 26 b a ?_
 refine jA 45 27 b a ?_
 refine mK 46 28 b a ?_
 refine gn 47 29 b a ?_
 generalize ad:((A-((qd.toInt64)*dl)).toInt32)=rn
 rw[Y,ad,hdv] at LQ
 have hq0: ¬qd=0:=JB (q:=0) ht0 LQ.1 hle
 refine bh 49 30 #[_,_,_,_,_,_,_,_,_,_,_,_,_,_,_] b a ?_
 refine ak 50 31 b a ?_
 refine aE 53 32 111 b a J j fun aT E ae=> ?_
 refine aB 54 33 0 E a ?_
 refine aq 56 34 E a ?_
 refine jW 57 0 E hx hZ ae r rfl (by decide) (D 35 rfl) rfl fun aU aV y af z ag=> ?_
 have ai:=Fr.snoc y N0 K
 have KP:=KP.wr z (Or.inl (List.mem_of_getElem? (i:=1) rfl))
 have g:=g.wr z
 have h:=h.other z (Or.inl x)
 have j:=j.other z (Or.inl x)
 have n:=n.other z (Or.inl x)
 have u:=u.wr z
 have r:=ag
 refine ak 58 36 y a ?_
 refine aq 60 37 y a ?_
 refine bk 67 38 y a rfl ((if0 _ _).trans (feq hq0).2) ?_
 refine aB 68 41 1 y a ?_
 refine fh 71 42 113 102 y a af n g (Or.inl (aj hw 114 rfl)) (ty:= .int) fun aX al C am v=> ?_
 have ao:=Fr.snoc C ai G
 have av:Fld Z al qx "java/math/MutableBigInteger" "intLen" "I" (.int (1:Int32)):=n.same v
 have KP:=KP.wr v (Or.inl (List.mem_of_getElem? (i:=0) rfl))
 have g:=g.wr v
 have h:=h.other v (Or.inr (slot_ne (Or.inl (aj hw 110 rfl)) (Or.inl (aj hw 114 rfl)) (by decide) (t:= .int) (t':= .int) (by decide) (by decide)))
 have j:=j.other v (Or.inr (slot_ne (Or.inl (aj hw 112 rfl)) (Or.inl (aj hw 114 rfl)) (by decide) (t:=(.array .int)) (t':= .int) (by decide) (by decide)))
 have r:=r.other v (Ne.symm x)
 have u:=u.wr v
 have n:=av
 refine ak 72 43 C a ?_
 refine aB 73 44 0 C a ?_
 refine fh 76 45 109 102 C a am h g (Or.inl (aj hw 110 rfl)) (ty:= .int) fun aZ aw F ax w=> ?_
 have aA:=Fr.snoc F ao G
 have aC:Fld Z aw qx "java/math/MutableBigInteger" "offset" "I" (.int (0:Int32)):=h.same w
 have KP:=KP.wr w (Or.inl (List.mem_of_getElem? (i:=0) rfl))
 have g:=g.wr w
 have j:=j.other w (Or.inr (slot_ne (Or.inl (aj hw 112 rfl)) (Or.inl (aj hw 110 rfl)) (by decide) (t:=(.array .int)) (t':= .int) (by decide) (by decide)))
 have n:=n.other w (Or.inr (slot_ne (Or.inl (aj hw 114 rfl)) (Or.inl (aj hw 110 rfl)) (by decide) (t:= .int) (t':= .int) (by decide) (by decide)))
 have r:=r.other w (Ne.symm x)
 have u:=u.wr w
 have h:=aC
 refine aq 78 46 F a ?_
 have DD:=vZ ht0 LQ.1 LQ.2
 obtain ⟨fq,fr⟩:=Cd (Q:=ah qd) ht0 DD.1 DD.2.2
 have v1:aY fa 1=ah (fa 0):=by show 0*4294967296+ah (fa 0)=_;omega
 exact gg 47 F a hret P (by rw[ax];exact ⟨rn,f,kq,(0:Int32),(1:Int32),(1:Int32),_,1,rfl,aA,KP,Or.inl rfl,x,g,h,j,n,r,u,rfl,by omega,Ci hq0,by rw[v1,←fq];show 0*4294967296+ah qd=_;omega,by rw[v1];exact fr⟩)
theorem XJ (l:Launch)(Z:State)(a0:Array Value)(hw: ∀d∈tables_1,d.before a0 Z=true)(ws:List Jvm.Cond)(mb qx N:Addr)(tt:Int32)(fa:Nat→Int32)(n:Nat)(h0:Heap)(n0:Nat)(Z0:n0≤h0.size)(B:Old Z n0 h0)(cn:Int32)(aa:Addr)(ka kq:ClassId)(ao:n0≤qx)(c_:n0≤N)(c':qx≠N)(Y:mb≠qx)(a5:aa≠qx)(da:mb≠N)(db:aa≠N)(I:Exa Z h0 mb "java/math/MutableBigInteger")(E:Fld Z h0 mb "java/math/MutableBigInteger" "offset" "I" (.int (0:Int32)))(F:Fld Z h0 mb "java/math/MutableBigInteger" "value" "[I" (.ref aa))(v:Fld Z h0 mb "java/math/MutableBigInteger" "intLen" "I" (.int cn))(C:bM Z h0 aa ka cn fa)(f:Exa Z h0 qx "java/math/MutableBigInteger")(w:Fld Z h0 qx "java/math/MutableBigInteger" "offset" "I" (.int (0:Int32)))(h:Fld Z h0 qx "java/math/MutableBigInteger" "value" "[I" (.ref N))(x:Fld Z h0 qx "java/math/MutableBigInteger" "intLen" "I" (.int (0:Int32)))(bg:bM Z h0 N kq (1:Int32) (fun _=>0))(dc:Exa Z h0 N "[I")(ht0:0<ah tt)(hcn:cn.toInt=n)(dd:2≤n)(hn4:n≤4):
  bp l (⟨"java/math/MutableBigInteger","divideOneWord","(ILjava/math/MutableBigInteger;)I"⟩:MethodName) (Jvm.Cond.code (⟨"java/math/MutableBigInteger","divideOneWord","(ILjava/math/MutableBigInteger;)I"⟩:MethodName) jdk_2101_method_53_code 15 (some .int)::ws) ({frames:=1,cells:=1,slots:=4,locals:=24}:Room) #[(.ref mb),(.int tt),(.ref qx)] Z h0 (uz Z qx N (aY fa n) (ah tt) h0 n0):=by
 refine bI (plainFor_of_name jy) (fun m=>Ud m mb tt qx) fun p e s m ax a6 c s₁ hx bj bl b5 (b6:s.vm.findClass "java/math/MutableBigInteger"=some m.cls) hnm hret X0 hZ e0=> ?_
 have D:=fj bj wX
 have a:=bG hx bj wX b6 hZ b5 hw
 have N0:=Fr.nil n0
 have KP:Keep h0 h0 [qx,N]:=Keep.refl _ _
 have hnz:tt≠0:=nj ht0
 refine au 1 0 X0 a ?_
 refine bW 2 1 X0 a ?_
 refine bO 5 214 2 X0 a ?_
 refine bR 6 3 X0 a ?_
 generalize b7:((tt.toInt64)&&&(4294967295:Int64))=dl
 have hdl:dl.toInt=ah tt:=b7▸ij tt
 have hln:dl≠0:=fun q=>by rw[q] at hdl;have o:(0:Int64).toInt=0:=rfl;omega
 have ut:=aW tt
 refine pY 7 4 #[_,_,_,_,_,_,_,_,_,_,_,_,_,_,_] X0 a ?_
 refine ak 8 5 X0 a ?_
 refine aE 11 6 113 X0 a e0 v fun de aP b8=> ?_
 refine aB 12 7 1 aP a ?_
 refine bQ 79 8 aP a rfl (feq (JE (j:=1) hcn rfl (by omega))).2 ?_
 refine ak 80 48 aP a ?_
 refine aE 83 49 111 aP a b8 h fun df a7 bm=> ?_
 refine bU 84 50 a7 a bm bg ?_
 refine ak 85 51 a7 a ?_
 refine aE 88 52 113 a7 a bm v fun dg aQ b9=> ?_
 refine bY 91 53 aQ a rfl (tlt (lg (i:=1) rfl hcn (by omega))).2.1 ?_
 refine ak 92 54 aQ a ?_
 refine ak 93 55 aQ a ?_
 refine aE 96 56 113 aQ a b9 v fun dh b_ b'=> ?_
 obtain ⟨di,bn,aA,ca,cb,X,bo,bq,br⟩:=newPE b_ hx hZ (aj hw 52 rfl) b' (g:=(mkF m 96 #[rv mb,iv tt,rv qx,.val (.long dl),.second,.unset,.unset,.unset,.unset,.unset,.unset,.unset,.unset,.unset,.unset] [(.int cn),(.ref qx)])) rfl (D 57 rfl) rfl (jJ (j:=0) hcn rfl (by omega)) (cap:=4) (by rw[nJ hcn];omega) (by decide) (by decide) (by decide) (ad:="[I") (by decide)
 obtain ⟨K,aC⟩: ∃z,z=h0.size:=⟨_,rfl⟩
 rw[←aC] at bo bq br
 have aD:h0.size≤K:=Nat.le_trans KP.1 (Nat.le_of_eq aC.symm)
 have aF:n0≤K:=Nat.le_trans Z0 aD
 have ae:mb≠K:=Nat.ne_of_lt (Nat.lt_of_lt_of_le I.lt (Nat.le_of_eq aC.symm))
 have a8:aa≠K:=Nat.ne_of_lt (Nat.lt_of_lt_of_le C.lt (Nat.le_of_eq aC.symm))
 have L:qx≠K:=Nat.ne_of_lt (Nat.lt_of_lt_of_le f.lt (Nat.le_of_eq aC.symm))
 have dj:N≠K:=Nat.ne_of_lt (Nat.lt_of_lt_of_le bg.lt (Nat.le_of_eq aC.symm))
 have B:=B.ext X
 have KP:=KP.ext X
 have I:=I.ext X
 have E:=E.ext X
 have F:=F.ext X
 have v:=v.ext X
 have C:=C.ext X
 have f:=f.ext X
 have w:=w.ext X
 have h:=h.ext X
 have x:=x.ext X
 have H:Exa Z bn K "[I":=bq
 have y:bM Z bn K aA cn (fun _=>0):=rD (Arv.new bo (jJ (j:=0) hcn rfl (by omega)))
 refine aG (mkF m 98 #[rv mb,iv tt,rv qx,.val (.long dl),.second,.unset,.unset,.unset,.unset,.unset,.unset,.unset,.unset,.unset,.unset] [(.ref K),(.ref qx)]) br ?_
 refine fh 101 58 111 102 ca a cb h f (Or.inl (aj hw 112 rfl)) (ty:=(.array .int)) fun dk cd aS ce P=> ?_
 have cg:=Fr.snoc aS N0 ao
 have ci:Fld Z cd qx "java/math/MutableBigInteger" "value" "[I" (.ref K):=h.same P
 have B:=B.wr P ao
 have KP:=KP.wr P (Or.inl (List.mem_of_getElem? (i:=0) rfl))
 have I:=I.wr P
 have E:=E.other P (Or.inl Y)
 have F:=F.other P (Or.inl Y)
 have v:=v.other P (Or.inl Y)
 have C:=C.other P a5
 have f:=f.wr P
 have w:=w.other P (Or.inr (slot_ne (Or.inl (aj hw 110 rfl)) (Or.inl (aj hw 112 rfl)) (by decide) (t:= .int) (t':=(.array .int)) (by decide) (by decide)))
 have x:=x.other P (Or.inr (slot_ne (Or.inl (aj hw 114 rfl)) (Or.inl (aj hw 112 rfl)) (by decide) (t:= .int) (t':=(.array .int)) (by decide) (by decide)))
 have H:=H.wr P
 have y:=y.other P (Ne.symm L)
 have h:=ci
 refine ak 102 59 aS a ?_
 refine aB 103 60 0 aS a ?_
 refine fh 106 61 109 102 aS a ce w f (Or.inl (aj hw 110 rfl)) (ty:= .int) fun dm cj aT ck Q=> ?_
 have cl:=Fr.snoc aT cg ao
 have cm:Fld Z cj qx "java/math/MutableBigInteger" "offset" "I" (.int (0:Int32)):=w.same Q
 have B:=B.wr Q ao
 have KP:=KP.wr Q (Or.inl (List.mem_of_getElem? (i:=0) rfl))
 have I:=I.wr Q
 have E:=E.other Q (Or.inl Y)
 have F:=F.other Q (Or.inl Y)
 have v:=v.other Q (Or.inl Y)
 have C:=C.other Q a5
 have f:=f.wr Q
 have h:=h.other Q (Or.inr (slot_ne (Or.inl (aj hw 112 rfl)) (Or.inl (aj hw 110 rfl)) (by decide) (t:=(.array .int)) (t':= .int) (by decide) (by decide)))
 have x:=x.other Q (Or.inr (slot_ne (Or.inl (aj hw 114 rfl)) (Or.inl (aj hw 110 rfl)) (by decide) (t:= .int) (t':= .int) (by decide) (by decide)))
 have H:=H.wr Q
 have y:=y.other Q (Ne.symm L)
 have w:=cm
 refine ak 107 62 aT a ?_
 refine ak 108 63 aT a ?_
 refine aE 111 64 113 aT a ck v fun dn co cp=> ?_
 refine fh 114 65 113 102 co a cp x f (Or.inl (aj hw 114 rfl)) (ty:= .int) fun dp bt a9 cq R=> ?_
 have cr:=Fr.snoc a9 cl ao
 have ct:Fld Z bt qx "java/math/MutableBigInteger" "intLen" "I" (.int cn):=x.same R
 have B:=B.wr R ao
 have KP:=KP.wr R (Or.inl (List.mem_of_getElem? (i:=0) rfl))
 have I:=I.wr R
 have E:=E.other R (Or.inl Y)
 have F:=F.other R (Or.inl Y)
 have v:=v.other R (Or.inl Y)
 have C:=C.other R a5
 have f:=f.wr R
 have w:=w.other R (Or.inr (slot_ne (Or.inl (aj hw 110 rfl)) (Or.inl (aj hw 114 rfl)) (by decide) (t:= .int) (t':= .int) (by decide) (by decide)))
 have h:=h.other R (Or.inr (slot_ne (Or.inl (aj hw 112 rfl)) (Or.inl (aj hw 114 rfl)) (by decide) (t:=(.array .int)) (t':= .int) (by decide) (by decide)))
 have H:=H.wr R
 have y:=y.other R (Ne.symm L)
 have x:=ct
 refine au 115 66 a9 a ?_
 refine bZ 118 1 0 1 4 67 215 216 47 217 a9 a (xO l Z a0 hw [] tt bt n0 (Nat.le_trans Z0 KP.1) B) mX cq fun _ dq dr a_ cu=> ?_
 obtain ⟨sh,rfl,cv,cw,hns⟩:=cu
 have bu:=Fr.app cr cv
 refine aJ [_] ?_
 refine bh 120 68 #[_,_,_,_,_,_,_,_,_,_,_,_,_,_,_] a_ a ?_
 refine ak 121 69 a_ a ?_
 refine aE 124 70 111 a_ a cw F fun du bv cx=> ?_
 refine ak 125 71 bv a ?_
 refine aE 128 72 109 bv a cx E fun dv M a'=> ?_
 refine jB 129 0 M hx hZ a' C rfl (by omega) (D 73 rfl) rfl ?_
 refine bh 131 74 #[_,_,_,_,_,_,_,_,_,_,_,_,_,_,_] M a ?_
 refine aq 133 75 M a ?_
 refine bW 134 76 M a ?_
 refine bO 137 214 77 M a ?_
 refine bR 138 78 M a ?_
 have J: ∀(T_:State) (u:Heap) (L_:List Loc) (q0 aw:Int32),Stand p l e ({frames:=1,cells:=1,slots:=4,locals:=24}:Room) s m #[(.ref mb),(.int tt),(.ref qx)] ax a6 c T_ L_ 1 4→T_.heap=u→Fr n0 L_→Old Z n0 u→Keep h0 u [qx,N]→Exa Z u mb "java/math/MutableBigInteger"→Fld Z u mb "java/math/MutableBigInteger" "offset" "I" (.int (0:Int32))→Fld Z u mb "java/math/MutableBigInteger" "value" "[I" (.ref aa)→Fld Z u mb "java/math/MutableBigInteger" "intLen" "I" (.int cn)→bM Z u aa ka cn fa→Exa Z u qx "java/math/MutableBigInteger"→Fld Z u qx "java/math/MutableBigInteger" "offset" "I" (.int (0:Int32))→Fld Z u qx "java/math/MutableBigInteger" "value" "[I" (.ref K)→Fld Z u qx "java/math/MutableBigInteger" "intLen" "I" (.int cn)→Exa Z u K "[I"→bM Z u K aA cn (fJ (fun _=>0) 0 q0)→rG (ah (fa 0)) (ah tt) (ah q0) (ah aw)→ay p e ax (gb s (uz Z qx N (aY fa n) (ah tt) h0 n0) ({frames:=1,cells:=1,slots:=4,locals:=24}:Room).cells ({frames:=1,cells:=1,slots:=4,locals:=24}:Room).slots) T_ (mkF m 192 #[rv mb,iv tt,rv qx,.val (.long dl),.second,iv sh,iv aw,.val (.long ((aw.toInt64)&&&(4294967295:Int64))),.second,.unset,.unset,.unset,.unset,.unset,.unset] []):=by
  intro dw dx dy q0 aw bx cy cz B KP I E F v C f w h x H y D0
  refine ak 193 114 bx a ?_
  refine aE 196 115 113 bx a cy v fun dz bz cA=> ?_
  refine bh 198 116 #[_,_,_,_,_,_,_,_,_,_,_,_,_,_,_] bz a ?_
  have LP: ∀r:Nat,∀(T_:State) (u:Heap) (L_:List Loc) (G:Nat→Int32) (A jx:Int32) (i:Nat) (g10 g11 g12 g13 g14:Slot),Stand p l e ({frames:=1,cells:=1,slots:=4,locals:=24}:Room) s m #[(.ref mb),(.int tt),(.ref qx)] ax a6 c T_ L_ 1 4→T_.heap=u→Fr n0 L_→Old Z n0 u→Keep h0 u [qx,N]→Exa Z u mb "java/math/MutableBigInteger"→Fld Z u mb "java/math/MutableBigInteger" "offset" "I" (.int (0:Int32))→Fld Z u mb "java/math/MutableBigInteger" "value" "[I" (.ref aa)→Fld Z u mb "java/math/MutableBigInteger" "intLen" "I" (.int cn)→bM Z u aa ka cn fa→Exa Z u qx "java/math/MutableBigInteger"→Fld Z u qx "java/math/MutableBigInteger" "offset" "I" (.int (0:Int32))→Fld Z u qx "java/math/MutableBigInteger" "value" "[I" (.ref K)→Fld Z u qx "java/math/MutableBigInteger" "intLen" "I" (.int cn)→Exa Z u K "[I"→bM Z u K aA cn G→i+r=n→1≤i→jx.toInt=((n-i+1:Nat):Int)→aY fa i=aY G i*ah tt+ah A→ah A<ah tt→vY g10 g11→i_ g12→vY g13 g14→ay p e ax (gb s (uz Z qx N (aY fa n) (ah tt) h0 n0) ({frames:=1,cells:=1,slots:=4,locals:=24}:Room).cells ({frames:=1,cells:=1,slots:=4,locals:=24}:Room).slots) T_ (mkF m 198 #[rv mb,iv tt,rv qx,.val (.long dl),.second,iv sh,iv A,.val (.long ((A.toInt64)&&&(4294967295:Int64))),.second,iv jx,g10,g11,g12,g13,g14] []):=by
   intro r
   induction r with
   |zero=>
    intro dA cB dB G A jx i g10 g11 g12 g13 g14 aM cC cD B KP I E F v C f w h x H y hr cE aN hV hrw p10 c12 p13
    refine dG 201 117 #[_,_,_,_,_,_,_,_,_,iv (jx+(-1:Int32)),_,_,_,_,_] aM a ?_
    generalize aO:(jx+(-1:Int32))=S
    have aH:S.toInt=((n-i:Nat):Int):=aO▸yM aN
    clear aO aN
    refine aq 203 118 aM a ?_
    refine bk 315 119 aM a rfl ((if0 _ _).trans (flt (JF aH (by omega))).2.2.2) ?_
    obtain rfl:i=n:=by omega
    refine ak 316 184 aM a ?_
    refine jQ 319 0 0 1 4 185 219 220 222 221 103 223 aM a (zG l Z a0 hw [] qx K G i cB n0 (Nat.le_trans Z0 KP.1) B aA cn cn ao (Ne.symm L) f w h x y hcn (by omega) (by omega) (by omega)) pJ cC f fun _ cF dC af cG=> ?_
    obtain ⟨rfl,cH,aU,oq,lq,-,w,h,x,bC⟩:=cG
    have bE:=Fr.app cD cH
    have KP:=KP.trans aU (allS (Or.inl (List.mem_of_getElem? (i:=0) rfl)) all0)
    have f:=f.keep aU
    have H:=H.keep aU
    have y:=y.keep aU (ninS (Ne.symm L) nin0)
    refine aJ [] ?_
    refine aq 321 186 af a ?_
    obtain ⟨fq,fr⟩:=Cd ht0 hV hrw
    by_cases hsp:(0:Int32)<sh
    ·refine bw 324 187 af a rfl ((if0 _ _).trans (tlt hsp).2.2.2) ?_
     refine aq 326 188 af a ?_
     refine au 327 189 af a ?_
     refine aG (T':=cF) (mkF m 328 #[rv mb,iv tt,rv qx,.val (.long dl),.second,iv sh,iv A,.val (.long ((A.toInt64)&&&(4294967295:Int64))),.second,iv S,g10,g11,g12,g13,g14] [(.int (A%tt))]) (fun _ k=>iremM af hx rfl (D 190 rfl) rfl hnz k) ?_
     rw[Jz hns ht0 hsp hrw]
     exact gg 191 af a hret bl (by exact ⟨A,K,aA,oq,lq,cn,G,i,rfl,bE,KP,Or.inr aD,L,f,w,h,x,y,H,hcn,by omega,bC,fq,fr⟩)
    ·refine bk 329 187 af a rfl ((if0 _ _).trans (flt hsp).2.2.2) ?_
     refine aq 331 192 af a ?_
     exact gg 193 af a hret bl (by exact ⟨A,K,aA,oq,lq,cn,G,i,rfl,bE,KP,Or.inr aD,L,f,w,h,x,y,H,hcn,by omega,bC,fq,fr⟩)
   |succ r IH=>
    intro dD bH dE G A jx i g10 g11 g12 g13 g14 al cI bK B KP I E F v C f w h x H y hr cE aN hV hrw p10 c12 p13
    refine dG 201 117 #[_,_,_,_,_,_,_,_,_,iv (jx+(-1:Int32)),_,_,_,_,_] al a ?_
    generalize aO:(jx+(-1:Int32))=S
    have aH:S.toInt=((n-i:Nat):Int):=aO▸yM aN
    clear aO aN
    refine aq 203 118 al a ?_
    refine bw 206 119 al a rfl ((if0 _ _).trans (tlt (lg (i:=0) rfl aH (by omega))).2.2.2) ?_
    refine aI 208 120 al a ?_
    refine bT 210 121 32 al a ?_
    refine kj 211 122 al a ?_
    refine ak 212 123 al a ?_
    refine aE 215 124 111 al a cI F fun dF bN cJ=> ?_
    refine ak 216 125 bN a ?_
    refine aE 219 126 109 bN a cJ E fun dH bP cK=> ?_
    refine ak 220 127 bP a ?_
    refine aE 223 128 113 bP a cK v fun cL b bb=> ?_
    refine bJ 224 129 b a ?_
    refine aq 226 130 b a ?_
    refine dQ 227 131 b a ?_
    have hix:((0:Int32)+cn-S).toInt=(i:Int):=by rw[vX];exact (n_ hcn aH (by omega)).trans (by omega)
    have hiy:(cn-S).toInt=(i:Int):=(n_ hcn aH (by omega)).trans (by omega)
    refine jB 228 i b hx hZ bb C hix (by omega) (D 132 rfl) rfl ?_
    refine bW 229 133 b a ?_
    refine bO 232 214 134 b a ?_
    refine bR 233 135 b a ?_
    refine ot 234 136 b a ?_
    have eU:=qR A (fa i)
    have eL:=Jy (ai:=fa i) hrw
    generalize cM:((((A.toInt64)&&&(4294967295:Int64))<<<((32:Int32)&&&0x3f).toInt64)|||(((fa i).toInt64)&&&(4294967295:Int64)))=es
    rw[cM] at eU eL
    refine BT 236 10 #[rv mb,iv tt,rv qx,.val (.long dl),.second,iv sh,iv A,.val (.long ((A.toInt64)&&&(4294967295:Int64))),.second,iv S,.val (.long es),.second,g12,g13,g14] b hx (D 137 rfl) rfl rfl p10 rfl rfl ?_
    refine aI 238 138 b a ?_
    refine jl 239 139 0 b a ?_
    refine iq 240 140 b a ?_
    suffices jn: ∀(aV:State) (bd:List Loc),Stand p l e ({frames:=1,cells:=1,slots:=4,locals:=24}:Room) s m #[(.ref mb),(.int tt),(.ref qx)] ax a6 c aV bd 1 4→Fr n0 bd→aV.heap=bH→ ∀(qd rn:Int32) (y13 bS:Slot),vY y13 bS→rG (ah A*4294967296+ah (fa i)) (ah tt) (ah qd) (ah rn)→ay p e ax (gb s (uz Z qx N (aY fa n) (ah tt) h0 n0) ({frames:=1,cells:=1,slots:=4,locals:=24}:Room).cells ({frames:=1,cells:=1,slots:=4,locals:=24}:Room).slots) aV (mkF m 289 #[rv mb,iv tt,rv qx,.val (.long dl),.second,iv sh,iv rn,.val (.long ((A.toInt64)&&&(4294967295:Int64))),.second,iv S,.val (.long es),.second,iv qd,y13,bS] []) from by
     by_cases hneg:(lcmpW es (0:Int64))<(0:Int32)
     ·refine bk 264 141 b a rfl ((if0 _ _).trans (tlt hneg).1) ?_
      refine aI 266 156 b a ?_
      refine au 267 157 b a ?_
      refine bZ 270 2 0 1 4 158 295 296 103 297 b a (zp l Z a0 hw [] es tt bH n0 (Nat.le_trans Z0 KP.1) B (Jx hneg eL) eL) zj bb fun _ dI dJ T cN=> ?_
      obtain ⟨rx,rfl,cO,cP,hw1,hw2⟩:=cN
      have cQ:=Fr.app bK cO
      refine aJ [_] ?_
      refine BT 272 13 #[rv mb,iv tt,rv qx,.val (.long dl),.second,iv sh,iv A,.val (.long ((A.toInt64)&&&(4294967295:Int64))),.second,iv S,.val (.long es),.second,g12,.val (.long rx),.second] T hx (D 159 rfl) rfl rfl p13 rfl rfl ?_
      refine aI 274 160 T a ?_
      refine bO 277 214 161 T a ?_
      refine bR 278 162 T a ?_
      refine gn 279 163 T a ?_
      refine ku 281 12 #[rv mb,iv tt,rv qx,.val (.long dl),.second,iv sh,iv A,.val (.long ((A.toInt64)&&&(4294967295:Int64))),.second,iv S,.val (.long es),.second,iv ((rx&&&(4294967295:Int64)).toInt32),.val (.long rx),.second] T hx (D 164 rfl) rfl c12 rfl rfl ?_
      refine aI 283 165 T a ?_
      refine bT 285 166 32 T a ?_
      refine jD 286 167 T a ?_
      refine gn 287 168 T a ?_
      refine bh 289 169 #[_,_,_,_,_,_,_,_,_,_,_,_,_,_,_] T a ?_
      rw[eU] at hw1 hw2
      exact jn _ _ T cQ cP _ _ _ _ ⟨rfl,rfl,rfl⟩ (vZ ht0 (JL hw1) (JN hw2))
     ·refine bw 243 141 b a rfl ((if0 _ _).trans (flt hneg).1) ?_
      refine aI 245 142 b a ?_
      refine eW 246 143 b a ?_
      refine aG (T':=cL) (mkF m 247 #[rv mb,iv tt,rv qx,.val (.long dl),.second,iv sh,iv A,.val (.long ((A.toInt64)&&&(4294967295:Int64))),.second,iv S,.val (.long es),.second,g12,g13,g14] [(.long (es/dl))]) (fun _ k=>XS.ldiv b.here hx rfl (D 144 rfl) rfl hln k) ?_
      refine gn 248 145 b a ?_
      refine ku 250 12 #[rv mb,iv tt,rv qx,.val (.long dl),.second,iv sh,iv A,.val (.long ((A.toInt64)&&&(4294967295:Int64))),.second,iv S,.val (.long es),.second,iv ((es/dl).toInt32),g13,g14] b hx (D 146 rfl) rfl c12 rfl rfl ?_
      refine aI 252 147 b a ?_
      refine aq 254 148 b a ?_
      refine bW 255 149 b a ?_
      refine eW 256 150 b a ?_
      refine jA 257 151 b a ?_
      refine mK 258 152 b a ?_
      refine gn 259 153 b a ?_
      refine bh 261 154 #[_,_,_,_,_,_,_,_,_,_,_,_,_,_,_] b a ?_
      refine bL 289 155 b a ?_
      have LQ:=yP eU hdl ht0 ut.2 (by rw[←eU];exact eL) hneg
      exact jn _ _ b bK bb _ _ _ _ p13 (vZ ht0 LQ.1 LQ.2)
    intro aV bd bV cR cS qd rn g13 g14 p13 DD
    refine ak 290 170 bV a ?_
    refine aE 293 171 111 bV a cS h fun dK bX cT=> ?_
    refine ak 294 172 bX a ?_
    refine aE 297 173 113 bX a cT v fun dL aX cU=> ?_
    refine aq 299 174 aX a ?_
    refine dQ 300 175 aX a ?_
    refine aq 302 176 aX a ?_
    refine jW 303 i aX hx hZ cU y hiy (by omega) (D 177 rfl) rfl fun dM dP am cV U cW=> ?_
    have cX:=Fr.snoc am cR aF
    have B:=B.wr U aF
    have KP:=KP.wr U (Or.inr aD)
    have I:=I.wr U
    have E:=E.other U (Or.inl ae)
    have F:=F.other U (Or.inl ae)
    have v:=v.other U (Or.inl ae)
    have C:=C.other U a8
    have f:=f.wr U
    have w:=w.other U (Or.inl L)
    have h:=h.other U (Or.inl L)
    have x:=x.other U (Or.inl L)
    have H:=H.wr U
    have y:=cW
    refine aq 305 178 am a ?_
    refine bW 306 179 am a ?_
    refine bO 309 214 180 am a ?_
    refine bR 310 181 am a ?_
    refine dN 312 182 #[_,_,_,_,_,_,_,_,_,_,_,_,_,_,_] am a ?_
    refine bL 198 183 am a ?_
    exact IH _ _ _ _ rn S (i+1) _ _ _ _ _ am cV cX B KP I E F v C f w h x H y (by omega) (by omega) (aH.trans (by omega)) (JQ hV DD) DD.2.2 ⟨rfl,rfl,rfl⟩ ⟨rfl,rfl⟩ p13
  exact LP (n-1) _ _ _ _ aw cn 1 .unset .unset .unset .unset .unset bz cA cz B KP I E F v C f w h x H y (by omega) (by omega) (hcn.trans (by omega)) (JR D0) D0.2.2 ⟨rfl,rfl,rfl⟩ ⟨rfl,rfl⟩ ⟨rfl,rfl,rfl⟩
 have m0:((fa 0).toInt64&&&(4294967295:Int64)).toInt=ah (fa 0):=ij (fa 0)
 have ua:=aW (fa 0)
 refine dN 140 79 #[_,_,_,_,_,_,_,_,_,_,_,_,_,_,_] M a ?_
 refine aI 142 80 M a ?_
 refine eW 143 81 M a ?_
 refine iq 144 82 M a ?_
 by_cases hcm:(lcmpW (((fa 0).toInt64)&&&(4294967295:Int64)) dl)<(0:Int32)
 ·refine bw 147 83 M a rfl ((if0 _ _).trans (tlt hcm).2.1) ?_
  have l0:=mJ hcm
  rw[m0,hdl] at l0
  refine ak 148 84 M a ?_
  refine aE 151 85 111 M a a' h fun dR be cY=> ?_
  refine aB 152 86 0 be a ?_
  refine aB 153 87 0 be a ?_
  refine jW 154 0 be hx hZ cY y rfl (by omega) (D 88 rfl) rfl fun dS dT bf cZ V c0=> ?_
  have c2:=Fr.snoc bf bu aF
  have B:=B.wr V aF
  have KP:=KP.wr V (Or.inr aD)
  have I:=I.wr V
  have E:=E.other V (Or.inl ae)
  have F:=F.other V (Or.inl ae)
  have v:=v.other V (Or.inl ae)
  have C:=C.other V a8
  have f:=f.wr V
  have w:=w.other V (Or.inl L)
  have h:=h.other V (Or.inl L)
  have x:=x.other V (Or.inl L)
  have H:=H.wr V
  have y:=c0
  refine bL 192 89 bf a ?_
  exact J _ _ _ (0:Int32) (fa 0) bf cZ c2 B KP I E F v C f w h x H y ⟨by rw[show ah (0:Int32)=0 from rfl];omega,ua.1,l0⟩
 ·refine bk 157 83 M a rfl ((if0 _ _).trans (flt hcm).2.1) ?_
  have LQ:=yP (BW (by omega)) hdl ht0 ut.2 (by rw[m0];omega) (Cj m0)
  refine ak 158 90 M a ?_
  refine aE 161 91 111 M a a' h fun c3 aK c4=> ?_
  refine aB 162 92 0 aK a ?_
  refine aI 164 93 aK a ?_
  refine eW 165 94 aK a ?_
  refine aG (T':=c3) (mkF m 166 #[rv mb,iv tt,rv qx,.val (.long dl),.second,iv sh,iv (fa 0),.val (.long (((fa 0).toInt64)&&&(4294967295:Int64))),.second,.unset,.unset,.unset,.unset,.unset,.unset] [(.long ((((fa 0).toInt64)&&&(4294967295:Int64))/dl)),(.int (0:Int32)),(.ref K)]) (fun _ k=>XS.ldiv aK.here hx rfl (D 95 rfl) rfl hln k) ?_
  refine gn 167 96 aK a ?_
  generalize c5:(((((fa 0).toInt64)&&&(4294967295:Int64))/dl).toInt32)=q0
  refine jW 168 0 aK hx hZ c4 y rfl (by omega) (D 97 rfl) rfl fun dV dW aZ c6 W c7=> ?_
  have c8:=Fr.snoc aZ bu aF
  have B:=B.wr W aF
  have KP:=KP.wr W (Or.inr aD)
  have I:=I.wr W
  have E:=E.other W (Or.inl ae)
  have F:=F.other W (Or.inl ae)
  have v:=v.other W (Or.inl ae)
  have C:=C.other W a8
  have f:=f.wr W
  have w:=w.other W (Or.inl L)
  have h:=h.other W (Or.inl L)
  have x:=x.other W (Or.inl L)
  have H:=H.wr W
  have y:=c7
  refine aI 170 98 aZ a ?_
  refine ak 171 99 aZ a ?_
  refine aE 174 100 111 aZ a c6 h fun dX O b0=> ?_
  refine aB 175 101 0 O a ?_
  refine jB 176 0 O hx hZ b0 y rfl (by omega) (D 102 rfl) rfl ?_
  rw[Br]
  refine bW 177 103 O a ?_
  refine eW 178 104 O a ?_
  refine jA 179 105 O a ?_
  refine mK 180 106 O a ?_
  refine gn 181 107 O a ?_
  generalize c9:(((((fa 0).toInt64)&&&(4294967295:Int64))-((q0.toInt64)*dl)).toInt32)=aw
  rw[c5,c9,m0] at LQ
  refine bh 183 108 #[_,_,_,_,_,_,_,_,_,_,_,_,_,_,_] O a ?_
  refine aq 185 109 O a ?_
  refine bW 186 110 O a ?_
  refine bO 189 214 111 O a ?_
  refine bR 190 112 O a ?_
  refine dN 192 113 #[_,_,_,_,_,_,_,_,_,_,_,_,_,_,_] O a ?_
  exact J _ _ _ q0 aw O b0 c8 B KP I E F v C f w h x H y (vZ ht0 LQ.1 LQ.2)
theorem XQ (l:Launch)(Z:State)(a0:Array Value)(hw: ∀d∈tables_1,d.before a0 Z=true)(ws:List Jvm.Cond)(mb dv qx E:Addr)(fa ft:Nat→Int32)(n nd:Nat)(h0:Heap)(n0:Nat)(Z0:n0≤h0.size)(u:Old Z n0 h0)(cn dn:Int32)(aa dz:Addr)(ka kz kq:ClassId)(Q:n0≤qx)(aX:n0≤E)(S:mb≠qx)(b5:mb≠E)(cF:dv≠qx)(cG:dv≠E)(aZ:aa≠qx)(cj:aa≠E)(bj:dz≠qx)(c_:dz≠E)(T:qx≠E)(v:Exa Z h0 mb "java/math/MutableBigInteger")(K:Fld Z h0 mb "java/math/MutableBigInteger" "offset" "I" (.int (0:Int32)))(L:Fld Z h0 mb "java/math/MutableBigInteger" "value" "[I" (.ref aa))(H:Fld Z h0 mb "java/math/MutableBigInteger" "intLen" "I" (.int cn))(y:bM Z h0 aa ka cn fa)(C:Exa Z h0 dv "java/math/MutableBigInteger")(aQ:Fld Z h0 dv "java/math/MutableBigInteger" "offset" "I" (.int (0:Int32)))(aS:Fld Z h0 dv "java/math/MutableBigInteger" "value" "[I" (.ref dz))(av:Fld Z h0 dv "java/math/MutableBigInteger" "intLen" "I" (.int dn))(B:bM Z h0 dz kz dn ft)(f:Exa Z h0 qx "java/math/MutableBigInteger")(h:Fld Z h0 qx "java/math/MutableBigInteger" "offset" "I" (.int (0:Int32)))(r:Fld Z h0 qx "java/math/MutableBigInteger" "value" "[I" (.ref E))(o:Fld Z h0 qx "java/math/MutableBigInteger" "intLen" "I" (.int (0:Int32)))(w:bM Z h0 E kq (1:Int32) (fun _=>0))(A:Exa Z h0 E "[I")(R:Exa Z h0 aa "[I")(hcn:cn.toInt=n)(hdn:dn.toInt=nd)(h1n:1≤n)(hn4:n≤4)(cH:1≤nd)(hd2:nd≤2)(ha0:0<ah (fa 0))(ht0:0<ah (ft 0))(ht1:nd=2→ah (ft 0)<2147483648)(hle:aY fa n≤4503599627370496*aY ft nd):
  bp l (⟨"java/math/MutableBigInteger","divideKnuth","(Ljava/math/MutableBigInteger;Ljava/math/MutableBigInteger;Z)Ljava/math/MutableBigInteger;"⟩:MethodName) (Jvm.Cond.code (⟨"java/math/MutableBigInteger","divideKnuth","(Ljava/math/MutableBigInteger;Ljava/math/MutableBigInteger;Z)Ljava/math/MutableBigInteger;"⟩:MethodName) jdk_2101_method_57_code 8 (some (.object "java/math/MutableBigInteger"))::ws) ({frames:=4,cells:=4,slots:=28,locals:=106}:Room) #[(.ref mb),(.ref dv),(.ref qx),(.int (1:Int32))] Z h0 (qe Z qx E (aY fa n) (aY ft nd) h0 n0):=by
 refine bI (plainFor_of_name jy) (fun m=>Uf m mb dv qx (1:Int32)) fun p e s m c' ec c s₁ hx da a5 cI (aV:s.vm.findClass "java/math/MutableBigInteger"=some m.cls) hnm hret X0 hZ e0=> ?_
 have D:=fj da DE
 have a:=bG hx da DE aV hZ cI hw
 have N0:=Fr.nil n0
 have KP:Keep h0 h0 [qx,E]:=Keep.refl _ _
 have hA0:0<aY fa n:=tD h1n ha0
 have hD0:0<aY ft nd:=tD cH ht0
 refine ak 1 0 X0 a ?_
 refine aE 4 1 113 X0 a e0 av fun hF cJ ed=> ?_
 refine bk 17 2 cJ a rfl ((if0 _ _).trans (feq (qU hdn cH)).2) ?_
 refine ak 18 8 cJ a ?_
 refine aE 21 9 113 cJ a ed H fun hG bl bV=> ?_
 refine bk 50 10 bl a rfl ((if0 _ _).trans (feq (qU hcn h1n)).2) ?_
 refine ak 51 25 bl a ?_
 refine ak 52 26 bl a ?_
 have J: ∀(T_:State) (P:Heap) (L_:List Loc) (rc:Int32),Stand p l e ({frames:=4,cells:=4,slots:=28,locals:=106}:Room) s m #[(.ref mb),(.ref dv),(.ref qx),(.int (1:Int32))] c' ec c T_ L_ 0 0→T_.heap=P→Fr n0 L_→Old Z n0 P→Keep h0 P [qx,E]→Exa Z P mb "java/math/MutableBigInteger"→Fld Z P mb "java/math/MutableBigInteger" "offset" "I" (.int (0:Int32))→Fld Z P mb "java/math/MutableBigInteger" "value" "[I" (.ref aa)→Fld Z P mb "java/math/MutableBigInteger" "intLen" "I" (.int cn)→bM Z P aa ka cn fa→Exa Z P dv "java/math/MutableBigInteger"→Fld Z P dv "java/math/MutableBigInteger" "offset" "I" (.int (0:Int32))→Fld Z P dv "java/math/MutableBigInteger" "value" "[I" (.ref dz)→Fld Z P dv "java/math/MutableBigInteger" "intLen" "I" (.int dn)→bM Z P dz kz dn ft→Exa Z P qx "java/math/MutableBigInteger"→Fld Z P qx "java/math/MutableBigInteger" "offset" "I" (.int (0:Int32))→Fld Z P qx "java/math/MutableBigInteger" "value" "[I" (.ref E)→Fld Z P qx "java/math/MutableBigInteger" "intLen" "I" (.int (0:Int32))→bM Z P E kq (1:Int32) (fun _=>0)→Exa Z P E "[I"→Exa Z P aa "[I"→qt (aY fa n) (aY ft nd) rc→(rc<0→n≤2)→ay p e c' (gb s (qe Z qx E (aY fa n) (aY ft nd) h0 n0) ({frames:=4,cells:=4,slots:=28,locals:=106}:Room).cells ({frames:=4,cells:=4,slots:=28,locals:=106}:Room).slots) T_ (mkF m 55 #[rv mb,rv dv,rv qx,iv 1,.unset,.unset,.unset,.unset] [(.int rc)]):=by
  intro dc ef hH rc M ck cl u KP v K L H y C aQ aS av B f h r o w A R hC hnl
  refine bh 57 28 #[_,_,_,_,_,_,_,_] M a ?_
  refine aq 59 29 M a ?_
  by_cases hlt:rc<(0:Int32)
  ·refine bw 62 30 M a rfl ((if0 _ _).trans (tlt hlt).2.1) ?_
   have aF:=JU hC hlt
   obtain rfl|rfl:n=1∨n=2:=by have:=hnl hlt;omega
   ·obtain rfl:=oO (b:=1) hcn rfl
    refine ak 63 31 M a ?_
    refine ak 64 32 M a ?_
    refine aB 65 33 0 M a ?_
    refine aG (T':=dc) (mkF m 66 #[rv mb,rv dv,rv qx,iv 1,iv rc,.unset,.unset,.unset] [(.int (0:Int32)),(.ref qx),(.int (0:Int32)),(.ref qx)]) (fun _ k=>XS.dupX1 M.here hx rfl (D 34 rfl) rfl rfl rfl k) ?_
    refine fh 69 35 109 102 M a ck h f (Or.inl (aj hw 110 rfl)) (ty:= .int) fun hI eg dd eh U=> ?_
    have ei:=Fr.snoc dd cl Q
    have ej:Fld Z eg qx "java/math/MutableBigInteger" "offset" "I" (.int (0:Int32)):=h.same U
    have u:=u.wr U Q
    have KP:=KP.wr U (Or.inl (List.mem_of_getElem? (i:=0) rfl))
    have v:=v.wr U
    have K:=K.other U (Or.inl S)
    have L:=L.other U (Or.inl S)
    have H:=H.other U (Or.inl S)
    have y:=y.other U aZ
    have C:=C.wr U
    have B:=B.other U bj
    have f:=f.wr U
    have r:=r.other U (Or.inr (slot_ne (Or.inl (aj hw 112 rfl)) (Or.inl (aj hw 110 rfl)) (by decide) (t:=(.array .int)) (t':= .int) (by decide) (by decide)))
    have o:=o.other U (Or.inr (slot_ne (Or.inl (aj hw 114 rfl)) (Or.inl (aj hw 110 rfl)) (by decide) (t:= .int) (t':= .int) (by decide) (by decide)))
    have w:=w.other U (Ne.symm T)
    have A:=A.wr U
    have R:=R.wr U
    have h:=ej
    refine fh 72 36 113 102 dd a eh o f (Or.inl (aj hw 114 rfl)) (ty:= .int) fun hJ de cm ek V=> ?_
    have el:=Fr.snoc cm ei Q
    have em:Fld Z de qx "java/math/MutableBigInteger" "intLen" "I" (.int (0:Int32)):=o.same V
    have u:=u.wr V Q
    have KP:=KP.wr V (Or.inl (List.mem_of_getElem? (i:=0) rfl))
    have v:=v.wr V
    have K:=K.other V (Or.inl S)
    have L:=L.other V (Or.inl S)
    have H:=H.other V (Or.inl S)
    have y:=y.other V aZ
    have C:=C.wr V
    have B:=B.other V bj
    have f:=f.wr V
    have h:=h.other V (Or.inr (slot_ne (Or.inl (aj hw 110 rfl)) (Or.inl (aj hw 114 rfl)) (by decide) (t:= .int) (t':= .int) (by decide) (by decide)))
    have r:=r.other V (Or.inr (slot_ne (Or.inl (aj hw 112 rfl)) (Or.inl (aj hw 114 rfl)) (by decide) (t:=(.array .int)) (t':= .int) (by decide) (by decide)))
    have w:=w.other V (Ne.symm T)
    have A:=A.wr V
    have R:=R.wr V
    have o:=em
    refine au 73 37 cm a ?_
    refine bw 76 38 cm a rfl ((if0 _ _).trans (feq (by decide: ¬((1:Int32)=(0:Int32)))).1) ?_
    obtain ⟨hK,b6,cL,eo,X,df,co,-,dg⟩:=newO cm hx hZ aV (aj hw 133 rfl) (aj hw 102 rfl) (aj hw 103 rfl) ek (g:=(mkF m 76 #[rv mb,rv dv,rv qx,iv 1,iv rc,.unset,.unset,.unset] [])) rfl (D 39 rfl) (by decide) (by decide)
    obtain ⟨Y,a6⟩: ∃z,z=de.size:=⟨_,rfl⟩
    rw[←a6] at df co dg
    have cM:h0.size≤Y:=Nat.le_trans KP.1 (Nat.le_of_eq a6.symm)
    have ep:n0≤Y:=Nat.le_trans Z0 cM
    have er:mb≠Y:=Nat.ne_of_lt (Nat.lt_of_lt_of_le v.lt (Nat.le_of_eq a6.symm))
    have es:aa≠Y:=Nat.ne_of_lt (Nat.lt_of_lt_of_le y.lt (Nat.le_of_eq a6.symm))
    have hL:dv≠Y:=Nat.ne_of_lt (Nat.lt_of_lt_of_le C.lt (Nat.le_of_eq a6.symm))
    have hM:dz≠Y:=Nat.ne_of_lt (Nat.lt_of_lt_of_le B.lt (Nat.le_of_eq a6.symm))
    have cN:qx≠Y:=Nat.ne_of_lt (Nat.lt_of_lt_of_le f.lt (Nat.le_of_eq a6.symm))
    have dh:E≠Y:=Nat.ne_of_lt (Nat.lt_of_lt_of_le w.lt (Nat.le_of_eq a6.symm))
    have u:=u.ext X
    have KP:=KP.ext X
    have v:=v.ext X
    have K:=K.ext X
    have L:=L.ext X
    have H:=H.ext X
    have y:=y.ext X
    have C:=C.ext X
    have B:=B.ext X
    have f:=f.ext X
    have h:=h.ext X
    have r:=r.ext X
    have o:=o.ext X
    have w:=w.ext X
    have A:=A.ext X
    have R:=R.ext X
    have di:Exa Z b6 Y "java/math/MutableBigInteger":=df
    have et:Fld Z b6 Y "java/math/MutableBigInteger" "offset" "I" (.int (0:Int32)):=co (Or.inl (aj hw 110 rfl)) (ty:= .int) (by decide)
    have eu:Fld Z b6 Y "java/math/MutableBigInteger" "value" "[I" .null:=co (Or.inl (aj hw 112 rfl)) (ty:=(.array .int)) (by decide)
    have ev:Fld Z b6 Y "java/math/MutableBigInteger" "intLen" "I" (.int (0:Int32)):=co (Or.inl (aj hw 114 rfl)) (ty:= .int) (by decide)
    refine aG (mkF m 79 #[rv mb,rv dv,rv qx,iv 1,iv rc,.unset,.unset,.unset] [(.ref Y)]) dg ?_
    refine jh 80 40 cL a ?_
    refine ak 81 41 cL a ?_
    have N:=KP
    have bm:=v.lt
    have bn:=y.lt
    have bo:=C.lt
    have bq:=B.lt
    have am:=f.lt
    have br:=w.lt
    have ew:=di.lt
    refine iJ 84 1 1 2 4 42 134 135 103 136 cL a (Wg l Z a0 hw [] Y mb aa ka (fa 0) b6 n0 (Nat.le_trans Z0 KP.1) u ep di et eu ev v K L H er es y R) Ea eo rfl fun _ hN hO dj ex=> ?_
    obtain ⟨rfl,ey,bt,bb,ax,bX,x,ez,eA,eB,eC,aA,aC⟩:=ex
    have eD:=Fr.app el ey
    have KP:=KP.trans bt (allS (Or.inr cM) all0)
    have f:=f.keep bt
    have h:=h.keep bt (ninS cN nin0)
    have r:=r.keep bt (ninS cN nin0)
    have o:=o.keep bt (ninS cN nin0)
    have w:=w.keep bt (ninS dh nin0)
    have A:=A.keep bt
    refine aJ [_] ?_
    have aD:h0.size≤bb:=Nat.le_trans N.1 x
    have dk:mb≠bb:=Nat.ne_of_lt (Nat.lt_of_lt_of_le bm x)
    have dl:aa≠bb:=Nat.ne_of_lt (Nat.lt_of_lt_of_le bn x)
    have dm:dv≠bb:=Nat.ne_of_lt (Nat.lt_of_lt_of_le bo x)
    have dp:dz≠bb:=Nat.ne_of_lt (Nat.lt_of_lt_of_le bq x)
    have b0:qx≠bb:=Nat.ne_of_lt (Nat.lt_of_lt_of_le am x)
    have b7:E≠bb:=Nat.ne_of_lt (Nat.lt_of_lt_of_le br x)
    have eE:Y≠bb:=Nat.ne_of_lt (Nat.lt_of_lt_of_le ew x)
    refine bL 88 43 dj a ?_
    exact dU 45 dj a hret a5 (by exact ⟨Y,bb,E,ax,kq,(0:Int32),(1:Int32),(1:Int32),(0:Int32),(0:Int32),(1:Int32),(pD [(fa 0)]),(fun _=>0),1,1,1,rfl,eD,KP,cM,aD,eE,Or.inl rfl,dh,b7,T,ez,eA,eB,eC,aA,aC,f,h,r,o,w,A,rfl,by decide,by decide,(yQ (by exact nj ha0)),rfl,by omega,tJ,(Co hA0 aF),(Cq hA0 aF (by decide))⟩)
   ·obtain rfl:=oO (b:=2) hcn rfl
    refine ak 63 31 M a ?_
    refine ak 64 32 M a ?_
    refine aB 65 33 0 M a ?_
    refine aG (T':=dc) (mkF m 66 #[rv mb,rv dv,rv qx,iv 1,iv rc,.unset,.unset,.unset] [(.int (0:Int32)),(.ref qx),(.int (0:Int32)),(.ref qx)]) (fun _ k=>XS.dupX1 M.here hx rfl (D 34 rfl) rfl rfl rfl k) ?_
    refine fh 69 35 109 102 M a ck h f (Or.inl (aj hw 110 rfl)) (ty:= .int) fun hP eF dq eH ad=> ?_
    have eI:=Fr.snoc dq cl Q
    have eK:Fld Z eF qx "java/math/MutableBigInteger" "offset" "I" (.int (0:Int32)):=h.same ad
    have u:=u.wr ad Q
    have KP:=KP.wr ad (Or.inl (List.mem_of_getElem? (i:=0) rfl))
    have v:=v.wr ad
    have K:=K.other ad (Or.inl S)
    have L:=L.other ad (Or.inl S)
    have H:=H.other ad (Or.inl S)
    have y:=y.other ad aZ
    have C:=C.wr ad
    have B:=B.other ad bj
    have f:=f.wr ad
    have r:=r.other ad (Or.inr (slot_ne (Or.inl (aj hw 112 rfl)) (Or.inl (aj hw 110 rfl)) (by decide) (t:=(.array .int)) (t':= .int) (by decide) (by decide)))
    have o:=o.other ad (Or.inr (slot_ne (Or.inl (aj hw 114 rfl)) (Or.inl (aj hw 110 rfl)) (by decide) (t:= .int) (t':= .int) (by decide) (by decide)))
    have w:=w.other ad (Ne.symm T)
    have A:=A.wr ad
    have R:=R.wr ad
    have h:=eK
    refine fh 72 36 113 102 dq a eH o f (Or.inl (aj hw 114 rfl)) (ty:= .int) fun hQ dr cp eL ae=> ?_
    have eM:=Fr.snoc cp eI Q
    have eN:Fld Z dr qx "java/math/MutableBigInteger" "intLen" "I" (.int (0:Int32)):=o.same ae
    have u:=u.wr ae Q
    have KP:=KP.wr ae (Or.inl (List.mem_of_getElem? (i:=0) rfl))
    have v:=v.wr ae
    have K:=K.other ae (Or.inl S)
    have L:=L.other ae (Or.inl S)
    have H:=H.other ae (Or.inl S)
    have y:=y.other ae aZ
    have C:=C.wr ae
    have B:=B.other ae bj
    have f:=f.wr ae
    have h:=h.other ae (Or.inr (slot_ne (Or.inl (aj hw 110 rfl)) (Or.inl (aj hw 114 rfl)) (by decide) (t:= .int) (t':= .int) (by decide) (by decide)))
    have r:=r.other ae (Or.inr (slot_ne (Or.inl (aj hw 112 rfl)) (Or.inl (aj hw 114 rfl)) (by decide) (t:=(.array .int)) (t':= .int) (by decide) (by decide)))
    have w:=w.other ae (Ne.symm T)
    have A:=A.wr ae
    have R:=R.wr ae
    have o:=eN
    refine au 73 37 cp a ?_
    refine bw 76 38 cp a rfl ((if0 _ _).trans (feq (by decide: ¬((1:Int32)=(0:Int32)))).1) ?_
    obtain ⟨hR,b8,cO,eP,af,du,cq,-,dw⟩:=newO cp hx hZ aV (aj hw 133 rfl) (aj hw 102 rfl) (aj hw 103 rfl) eL (g:=(mkF m 76 #[rv mb,rv dv,rv qx,iv 1,iv rc,.unset,.unset,.unset] [])) rfl (D 39 rfl) (by decide) (by decide)
    obtain ⟨ag,a7⟩: ∃z,z=dr.size:=⟨_,rfl⟩
    rw[←a7] at du cq dw
    have cP:h0.size≤ag:=Nat.le_trans KP.1 (Nat.le_of_eq a7.symm)
    have eQ:n0≤ag:=Nat.le_trans Z0 cP
    have eR:mb≠ag:=Nat.ne_of_lt (Nat.lt_of_lt_of_le v.lt (Nat.le_of_eq a7.symm))
    have eS:aa≠ag:=Nat.ne_of_lt (Nat.lt_of_lt_of_le y.lt (Nat.le_of_eq a7.symm))
    have hS:dv≠ag:=Nat.ne_of_lt (Nat.lt_of_lt_of_le C.lt (Nat.le_of_eq a7.symm))
    have hT:dz≠ag:=Nat.ne_of_lt (Nat.lt_of_lt_of_le B.lt (Nat.le_of_eq a7.symm))
    have cQ:qx≠ag:=Nat.ne_of_lt (Nat.lt_of_lt_of_le f.lt (Nat.le_of_eq a7.symm))
    have dx:E≠ag:=Nat.ne_of_lt (Nat.lt_of_lt_of_le w.lt (Nat.le_of_eq a7.symm))
    have u:=u.ext af
    have KP:=KP.ext af
    have v:=v.ext af
    have K:=K.ext af
    have L:=L.ext af
    have H:=H.ext af
    have y:=y.ext af
    have C:=C.ext af
    have B:=B.ext af
    have f:=f.ext af
    have h:=h.ext af
    have r:=r.ext af
    have o:=o.ext af
    have w:=w.ext af
    have A:=A.ext af
    have R:=R.ext af
    have dy:Exa Z b8 ag "java/math/MutableBigInteger":=du
    have eT:Fld Z b8 ag "java/math/MutableBigInteger" "offset" "I" (.int (0:Int32)):=cq (Or.inl (aj hw 110 rfl)) (ty:= .int) (by decide)
    have eU:Fld Z b8 ag "java/math/MutableBigInteger" "value" "[I" .null:=cq (Or.inl (aj hw 112 rfl)) (ty:=(.array .int)) (by decide)
    have eV:Fld Z b8 ag "java/math/MutableBigInteger" "intLen" "I" (.int (0:Int32)):=cq (Or.inl (aj hw 114 rfl)) (ty:= .int) (by decide)
    refine aG (mkF m 79 #[rv mb,rv dv,rv qx,iv 1,iv rc,.unset,.unset,.unset] [(.ref ag)]) dw ?_
    refine jh 80 40 cO a ?_
    refine ak 81 41 cO a ?_
    have N:=KP
    have bm:=v.lt
    have bn:=y.lt
    have bo:=C.lt
    have bq:=B.lt
    have am:=f.lt
    have br:=w.lt
    have eX:=dy.lt
    refine iJ 84 1 1 2 5 42 134 135 103 136 cO a (Wn l Z a0 hw [] ag mb aa ka (fa 0) (fa 1) b8 n0 (Nat.le_trans Z0 KP.1) u eQ dy eT eU eV v K L H eR eS y R) Ea eP rfl fun _ hU hV dA eZ=> ?_
    obtain ⟨rfl,e2,bu,bb,ax,bX,x,e3,e4,e5,e6,aA,aC⟩:=eZ
    have e7:=Fr.app eM e2
    have KP:=KP.trans bu (allS (Or.inr cP) all0)
    have f:=f.keep bu
    have h:=h.keep bu (ninS cQ nin0)
    have r:=r.keep bu (ninS cQ nin0)
    have o:=o.keep bu (ninS cQ nin0)
    have w:=w.keep bu (ninS dx nin0)
    have A:=A.keep bu
    refine aJ [_] ?_
    have aD:h0.size≤bb:=Nat.le_trans N.1 x
    have dk:mb≠bb:=Nat.ne_of_lt (Nat.lt_of_lt_of_le bm x)
    have dl:aa≠bb:=Nat.ne_of_lt (Nat.lt_of_lt_of_le bn x)
    have dm:dv≠bb:=Nat.ne_of_lt (Nat.lt_of_lt_of_le bo x)
    have dp:dz≠bb:=Nat.ne_of_lt (Nat.lt_of_lt_of_le bq x)
    have b0:qx≠bb:=Nat.ne_of_lt (Nat.lt_of_lt_of_le am x)
    have b7:E≠bb:=Nat.ne_of_lt (Nat.lt_of_lt_of_le br x)
    have e8:ag≠bb:=Nat.ne_of_lt (Nat.lt_of_lt_of_le eX x)
    refine bL 88 43 dA a ?_
    exact dU 45 dA a hret a5 (by exact ⟨ag,bb,E,ax,kq,(0:Int32),(2:Int32),(2:Int32),(0:Int32),(0:Int32),(1:Int32),(pD [(fa 0),(fa 1)]),(fun _=>0),2,2,1,rfl,e7,KP,cP,aD,e8,Or.inl rfl,dx,b7,T,e3,e4,e5,e6,aA,aC,f,h,r,o,w,A,rfl,by decide,by decide,(JX (by exact nj ha0)),rfl,by omega,tJ,(Co hA0 aF),(Cq hA0 aF (by decide))⟩)
  ·refine bk 89 30 M a rfl ((if0 _ _).trans (flt hlt).2.1) ?_
   refine aq 91 46 M a ?_
   by_cases heq:rc=(0:Int32)
   ·refine bw 94 47 M a rfl ((if0 _ _).trans (teq heq).2) ?_
    have aF:=JV hC heq
    refine ak 95 48 M a ?_
    refine aE 98 49 111 M a ck r fun e9 b9 e'=> ?_
    refine aB 99 50 0 b9 a ?_
    refine ak 100 51 b9 a ?_
    refine aB 101 52 1 b9 a ?_
    refine aG (T':=e9) (mkF m 102 #[rv mb,rv dv,rv qx,iv 1,iv rc,.unset,.unset,.unset] [(.int (1:Int32)),(.ref qx),(.int (1:Int32)),(.int (0:Int32)),(.ref E)]) (fun _ k=>XS.dupX1 b9.here hx rfl (D 53 rfl) rfl rfl rfl k) ?_
    refine fh 105 54 113 102 b9 a e' o f (Or.inl (aj hw 114 rfl)) (ty:= .int) fun hW fb dB fc aH=> ?_
    have fe:=Fr.snoc dB cl Q
    have ff:Fld Z fb qx "java/math/MutableBigInteger" "intLen" "I" (.int (1:Int32)):=o.same aH
    have u:=u.wr aH Q
    have KP:=KP.wr aH (Or.inl (List.mem_of_getElem? (i:=0) rfl))
    have v:=v.wr aH
    have y:=y.other aH aZ
    have C:=C.wr aH
    have B:=B.other aH bj
    have f:=f.wr aH
    have h:=h.other aH (Or.inr (slot_ne (Or.inl (aj hw 110 rfl)) (Or.inl (aj hw 114 rfl)) (by decide) (t:= .int) (t':= .int) (by decide) (by decide)))
    have r:=r.other aH (Or.inr (slot_ne (Or.inl (aj hw 112 rfl)) (Or.inl (aj hw 114 rfl)) (by decide) (t:=(.array .int)) (t':= .int) (by decide) (by decide)))
    have w:=w.other aH (Ne.symm T)
    have A:=A.wr aH
    have o:=ff
    refine jW 106 0 dB hx hZ fc w rfl (by decide) (D 55 rfl) rfl fun hX hY cr fg aT fi=> ?_
    have fk:=Fr.snoc cr fe aX
    have u:=u.wr aT aX
    have KP:=KP.wr aT (Or.inl (List.mem_of_getElem? (i:=1) rfl))
    have v:=v.wr aT
    have y:=y.other aT cj
    have C:=C.wr aT
    have B:=B.other aT c_
    have f:=f.wr aT
    have h:=h.other aT (Or.inl T)
    have r:=r.other aT (Or.inl T)
    have o:=o.other aT (Or.inl T)
    have A:=A.wr aT
    have w:=fi
    refine ak 107 56 cr a ?_
    refine aB 108 57 0 cr a ?_
    refine fh 111 58 109 102 cr a fg h f (Or.inl (aj hw 110 rfl)) (ty:= .int) fun h1 dC ct fl aK=> ?_
    have fn:=Fr.snoc ct fk Q
    have fp:Fld Z dC qx "java/math/MutableBigInteger" "offset" "I" (.int (0:Int32)):=h.same aK
    have u:=u.wr aK Q
    have KP:=KP.wr aK (Or.inl (List.mem_of_getElem? (i:=0) rfl))
    have v:=v.wr aK
    have y:=y.other aK aZ
    have C:=C.wr aK
    have B:=B.other aK bj
    have f:=f.wr aK
    have r:=r.other aK (Or.inr (slot_ne (Or.inl (aj hw 112 rfl)) (Or.inl (aj hw 110 rfl)) (by decide) (t:=(.array .int)) (t':= .int) (by decide) (by decide)))
    have o:=o.other aK (Or.inr (slot_ne (Or.inl (aj hw 114 rfl)) (Or.inl (aj hw 110 rfl)) (by decide) (t:= .int) (t':= .int) (by decide) (by decide)))
    have w:=w.other aK (Ne.symm T)
    have A:=A.wr aK
    have h:=fp
    refine au 112 59 ct a ?_
    refine bw 115 60 ct a rfl ((if0 _ _).trans (feq (by decide: ¬((1:Int32)=(0:Int32)))).1) ?_
    obtain ⟨h2,b_,dD,fu,aL,dE,cu,-,dF⟩:=newO ct hx hZ aV (aj hw 133 rfl) (aj hw 102 rfl) (aj hw 103 rfl) fl (g:=(mkF m 115 #[rv mb,rv dv,rv qx,iv 1,iv rc,.unset,.unset,.unset] [])) rfl (D 61 rfl) (by decide) (by decide)
    obtain ⟨ai,a8⟩: ∃z,z=dC.size:=⟨_,rfl⟩
    rw[←a8] at dE cu dF
    have cR:h0.size≤ai:=Nat.le_trans KP.1 (Nat.le_of_eq a8.symm)
    have fv:n0≤ai:=Nat.le_trans Z0 cR
    have h3:mb≠ai:=Nat.ne_of_lt (Nat.lt_of_lt_of_le v.lt (Nat.le_of_eq a8.symm))
    have h4:aa≠ai:=Nat.ne_of_lt (Nat.lt_of_lt_of_le y.lt (Nat.le_of_eq a8.symm))
    have h5:dv≠ai:=Nat.ne_of_lt (Nat.lt_of_lt_of_le C.lt (Nat.le_of_eq a8.symm))
    have h6:dz≠ai:=Nat.ne_of_lt (Nat.lt_of_lt_of_le B.lt (Nat.le_of_eq a8.symm))
    have cS:qx≠ai:=Nat.ne_of_lt (Nat.lt_of_lt_of_le f.lt (Nat.le_of_eq a8.symm))
    have dH:E≠ai:=Nat.ne_of_lt (Nat.lt_of_lt_of_le w.lt (Nat.le_of_eq a8.symm))
    have u:=u.ext aL
    have KP:=KP.ext aL
    have v:=v.ext aL
    have y:=y.ext aL
    have C:=C.ext aL
    have B:=B.ext aL
    have f:=f.ext aL
    have h:=h.ext aL
    have r:=r.ext aL
    have o:=o.ext aL
    have w:=w.ext aL
    have A:=A.ext aL
    have dI:Exa Z b_ ai "java/math/MutableBigInteger":=dE
    have fw:Fld Z b_ ai "java/math/MutableBigInteger" "offset" "I" (.int (0:Int32)):=cu (Or.inl (aj hw 110 rfl)) (ty:= .int) (by decide)
    have fx:Fld Z b_ ai "java/math/MutableBigInteger" "value" "[I" .null:=cu (Or.inl (aj hw 112 rfl)) (ty:=(.array .int)) (by decide)
    have fy:Fld Z b_ ai "java/math/MutableBigInteger" "intLen" "I" (.int (0:Int32)):=cu (Or.inl (aj hw 114 rfl)) (ty:= .int) (by decide)
    refine aG (mkF m 118 #[rv mb,rv dv,rv qx,iv 1,iv rc,.unset,.unset,.unset] [(.ref ai)]) dF ?_
    refine jh 119 62 dD a ?_
    have N:=KP
    have bm:=v.lt
    have bn:=y.lt
    have bo:=C.lt
    have bq:=B.lt
    have am:=f.lt
    have br:=w.lt
    have fz:=dI.lt
    refine iJ 122 0 1 2 4 63 231 105 103 107 dD a (xR l Z a0 hw [] ai b_ n0 (Nat.le_trans Z0 KP.1) u fv dI fw fx fy) pJ fu rfl fun _ h7 h8 dJ fA=> ?_
    obtain ⟨rfl,fB,bv,bb,ax,bX,x,fC,fD,fE,fF,aA,aC⟩:=fA
    have fG:=Fr.app fn fB
    have KP:=KP.trans bv (allS (Or.inr cR) all0)
    have f:=f.keep bv
    have h:=h.keep bv (ninS cS nin0)
    have r:=r.keep bv (ninS cS nin0)
    have o:=o.keep bv (ninS cS nin0)
    have w:=w.keep bv (ninS dH nin0)
    have A:=A.keep bv
    refine aJ [_] ?_
    have aD:h0.size≤bb:=Nat.le_trans N.1 x
    have dk:mb≠bb:=Nat.ne_of_lt (Nat.lt_of_lt_of_le bm x)
    have dl:aa≠bb:=Nat.ne_of_lt (Nat.lt_of_lt_of_le bn x)
    have dm:dv≠bb:=Nat.ne_of_lt (Nat.lt_of_lt_of_le bo x)
    have dp:dz≠bb:=Nat.ne_of_lt (Nat.lt_of_lt_of_le bq x)
    have b0:qx≠bb:=Nat.ne_of_lt (Nat.lt_of_lt_of_le am x)
    have b7:E≠bb:=Nat.ne_of_lt (Nat.lt_of_lt_of_le br x)
    have fH:ai≠bb:=Nat.ne_of_lt (Nat.lt_of_lt_of_le fz x)
    refine bL 126 64 dJ a ?_
    exact dU 66 dJ a hret a5 (by exact ⟨ai,bb,E,ax,kq,(0:Int32),(0:Int32),(1:Int32),(0:Int32),(1:Int32),(1:Int32),(fun _=>0),_,1,1,1,rfl,fG,KP,cR,aD,fH,Or.inl rfl,dH,b7,T,fC,fD,fE,fF,aA,aC,f,h,r,o,w,A,rfl,by decide,by decide,tJ,rfl,by omega,(Ci (by decide)),(JZ hD0 aF),(J0 aF)⟩)
   ·refine bk 127 47 M a rfl ((if0 _ _).trans (feq heq).2) ?_
    have aF:=JW hC hlt heq
    refine ak 128 67 M a ?_
    refine jQ 131 0 0 0 0 68 204 205 207 206 103 208 M a (Xh l Z a0 hw [] qx E kq ef n0 (Nat.le_trans Z0 KP.1) u (0:Int32) (0:Int32) (0:Int32) Q aX T f h r o w) pJ ck f fun _ cv h9 dK fI=> ?_
    obtain ⟨rfl,fK,aw,-,h,r,o,w⟩:=fI
    have cT:=Fr.app cl fK
    have u:=u.keep aw (allS Q (allS aX all0))
    have KP:=KP.trans aw (allS (Or.inl (List.mem_of_getElem? (i:=0) rfl)) (allS (Or.inl (List.mem_of_getElem? (i:=1) rfl)) all0))
    have v:=v.keep aw
    have K:=K.keep aw (ninS S (ninS b5 nin0))
    have L:=L.keep aw (ninS S (ninS b5 nin0))
    have H:=H.keep aw (ninS S (ninS b5 nin0))
    have y:=y.keep aw (ninS aZ (ninS cj nin0))
    have C:=C.keep aw
    have aQ:=aQ.keep aw (ninS cF (ninS cG nin0))
    have aS:=aS.keep aw (ninS cF (ninS cG nin0))
    have av:=av.keep aw (ninS cF (ninS cG nin0))
    have B:=B.keep aw (ninS bj (ninS c_ nin0))
    have f:=f.keep aw
    have A:=A.keep aw
    refine aJ [] ?_
    have w:bM Z cv.heap E kq (1:Int32) (fun _=>0):=w
    refine ak 132 69 dK a ?_
    refine aE 135 70 113 dK a rfl av fun h' a9 dL=> ?_
    refine aB 136 71 1 a9 a ?_
    obtain rfl|rfl:nd=1∨nd=2:=by omega
    ·obtain rfl:=oO (b:=1) hdn rfl
     refine bY 139 72 a9 a rfl (teq (by decide:(1:Int32)=(1:Int32))).2 ?_
     refine ak 140 73 a9 a ?_
     refine ak 141 74 a9 a ?_
     refine aE 144 75 111 a9 a dL aS fun ia dM fL=> ?_
     refine ak 145 76 dM a ?_
     refine aE 148 77 109 dM a fL aQ fun ib cw cU=> ?_
     refine jB 149 0 cw hx hZ cU B rfl (by decide) (D 78 rfl) rfl ?_
     refine ak 150 79 cw a ?_
     rw[oJ ft] at aF
     obtain rfl|cV:n=1∨2≤n:=by omega
     ·obtain rfl:=oO (b:=1) hcn rfl
      rw[oJ fa] at aF
      have N:=KP
      have bm:=v.lt
      have bn:=y.lt
      have bo:=C.lt
      have bq:=B.lt
      have am:=f.lt
      have br:=A.lt
      refine jQ 153 2 0 1 4 80 209 210 212 211 103 213 cw a (XD l Z a0 hw [] mb qx E (ft 0) fa cv.heap n0 (Nat.le_trans Z0 KP.1) u aa ka kq Q aX T S aZ b5 cj v K L H y f h r o w A ht0 (Int.le_of_lt aF)) Ec cU v fun _ dP ic a_ fM=> ?_
      obtain ⟨ro,qa,bx,oq,lq,zq,G,nq,rfl,fN,cW,aU,cX,-,h,r,o,I,O,b',hn8,ca,fq,fr⟩:=fM
      have dR:=Fr.app cT fN
      have u:=u.keep cW (allS Q (allS aX all0))
      have KP:=KP.trans cW (allS (Or.inl (List.mem_of_getElem? (i:=0) rfl)) (allS (Or.inl (List.mem_of_getElem? (i:=1) rfl)) all0))
      have f:=f.keep cW
      refine aJ [_] ?_
      have aU:=aU.imp id (Nat.le_trans N.1)
      rw[←oJ ft] at fq fr
      have cb:=cX
      refine bh 155 81 #[_,_,_,_,_,_,_,_] a_ a ?_
      refine au 156 82 a_ a ?_
      refine bw 159 83 a_ a rfl ((if0 _ _).trans (feq (by decide: ¬((1:Int32)=(0:Int32)))).1) ?_
      refine aq 161 84 a_ a ?_
      by_cases hrv:ro=(0:Int32)
      ·refine bw 164 85 a_ a rfl ((if0 _ _).trans (teq hrv).2) ?_
       obtain ⟨ie,cd,dS,fO,a',dT,cx,-,dV⟩:=newO a_ hx hZ aV (aj hw 133 rfl) (aj hw 102 rfl) (aj hw 103 rfl) rfl (g:=(mkF m 164 #[rv mb,rv dv,rv qx,iv 1,iv rc,iv ro,.unset,.unset] [])) rfl (D 86 rfl) (by decide) (by decide)
       obtain ⟨aM,cy⟩: ∃z,z=dP.heap.size:=⟨_,rfl⟩
       rw[←cy] at dT cx dV
       have cY:h0.size≤aM:=Nat.le_trans KP.1 (Nat.le_of_eq cy.symm)
       have fP:n0≤aM:=Nat.le_trans Z0 cY
       have cZ:qx≠aM:=Nat.ne_of_lt (Nat.lt_of_lt_of_le f.lt (Nat.le_of_eq cy.symm))
       have dW:qa≠aM:=Nat.ne_of_lt (Nat.lt_of_lt_of_le I.lt (Nat.le_of_eq cy.symm))
       have u:=u.ext a'
       have KP:=KP.ext a'
       have f:=f.ext a'
       have h:=h.ext a'
       have r:=r.ext a'
       have o:=o.ext a'
       have I:=I.ext a'
       have O:=O.ext a'
       have dX:Exa Z cd aM "java/math/MutableBigInteger":=dT
       have fQ:Fld Z cd aM "java/math/MutableBigInteger" "offset" "I" (.int (0:Int32)):=cx (Or.inl (aj hw 110 rfl)) (ty:= .int) (by decide)
       have fR:Fld Z cd aM "java/math/MutableBigInteger" "value" "[I" .null:=cx (Or.inl (aj hw 112 rfl)) (ty:=(.array .int)) (by decide)
       have fS:Fld Z cd aM "java/math/MutableBigInteger" "intLen" "I" (.int (0:Int32)):=cx (Or.inl (aj hw 114 rfl)) (ty:= .int) (by decide)
       refine aG (mkF m 167 #[rv mb,rv dv,rv qx,iv 1,iv rc,iv ro,.unset,.unset] [(.ref aM)]) dV ?_
       refine jh 168 87 dS a ?_
       have N:=KP
       have am:=f.lt
       have bE:=I.lt
       have fT:=dX.lt
       refine iJ 171 0 1 3 8 88 231 105 103 107 dS a (xR l Z a0 hw [] aM cd n0 (Nat.le_trans Z0 KP.1) u fP dX fQ fR fS) pJ fO rfl fun _ ig ih fU fV=> ?_
       obtain ⟨rfl,fW,bF,bb,ax,bX,x,fX,fZ,f0,f1,aA,aC⟩:=fV
       have f2:=Fr.app dR fW
       have KP:=KP.trans bF (allS (Or.inr cY) all0)
       have f:=f.keep bF
       have h:=h.keep bF (ninS cZ nin0)
       have r:=r.keep bF (ninS cZ nin0)
       have o:=o.keep bF (ninS cZ nin0)
       have I:=I.keep bF (ninS dW nin0)
       have O:=O.keep bF
       refine aJ [_] ?_
       have aD:h0.size≤bb:=Nat.le_trans N.1 x
       have b0:qx≠bb:=Nat.ne_of_lt (Nat.lt_of_lt_of_le am x)
       have bH:qa≠bb:=Nat.ne_of_lt (Nat.lt_of_lt_of_le bE x)
       have f3:aM≠bb:=Nat.ne_of_lt (Nat.lt_of_lt_of_le fT x)
       exact dU 89 fU a hret a5 (by exact ⟨aM,bb,qa,ax,bx,(0:Int32),(0:Int32),(1:Int32),oq,lq,zq,(fun _=>0),G,1,1,nq,rfl,f2,KP,cY,aD,f3,aU,dW,bH,cb,fX,fZ,f0,f1,aA,aC,f,h,r,o,I,O,rfl,by decide,by decide,tJ,b',by omega,ca,fq,(yR (fr.mp hrv))⟩)
      ·refine bk 172 85 a_ a rfl ((if0 _ _).trans (feq hrv).2) ?_
       obtain ⟨ii,ce,c0,f4,bd,dZ,cz,-,d0⟩:=newO a_ hx hZ aV (aj hw 133 rfl) (aj hw 102 rfl) (aj hw 103 rfl) rfl (g:=(mkF m 172 #[rv mb,rv dv,rv qx,iv 1,iv rc,iv ro,.unset,.unset] [])) rfl (D 90 rfl) (by decide) (by decide)
       obtain ⟨aN,cA⟩: ∃z,z=dP.heap.size:=⟨_,rfl⟩
       rw[←cA] at dZ cz d0
       have c2:h0.size≤aN:=Nat.le_trans KP.1 (Nat.le_of_eq cA.symm)
       have f5:n0≤aN:=Nat.le_trans Z0 c2
       have c3:qx≠aN:=Nat.ne_of_lt (Nat.lt_of_lt_of_le f.lt (Nat.le_of_eq cA.symm))
       have d1:qa≠aN:=Nat.ne_of_lt (Nat.lt_of_lt_of_le I.lt (Nat.le_of_eq cA.symm))
       have u:=u.ext bd
       have KP:=KP.ext bd
       have f:=f.ext bd
       have h:=h.ext bd
       have r:=r.ext bd
       have o:=o.ext bd
       have I:=I.ext bd
       have O:=O.ext bd
       have d2:Exa Z ce aN "java/math/MutableBigInteger":=dZ
       have f6:Fld Z ce aN "java/math/MutableBigInteger" "offset" "I" (.int (0:Int32)):=cz (Or.inl (aj hw 110 rfl)) (ty:= .int) (by decide)
       have f7:Fld Z ce aN "java/math/MutableBigInteger" "value" "[I" .null:=cz (Or.inl (aj hw 112 rfl)) (ty:=(.array .int)) (by decide)
       have f8:Fld Z ce aN "java/math/MutableBigInteger" "intLen" "I" (.int (0:Int32)):=cz (Or.inl (aj hw 114 rfl)) (ty:= .int) (by decide)
       refine aG (mkF m 175 #[rv mb,rv dv,rv qx,iv 1,iv rc,iv ro,.unset,.unset] [(.ref aN)]) d0 ?_
       refine jh 176 91 c0 a ?_
       refine aq 178 92 c0 a ?_
       have N:=KP
       have am:=f.lt
       have bE:=I.lt
       have f9:=d2.lt
       refine iJ 181 1 1 3 8 93 224 225 103 226 c0 a (Eu l Z a0 hw [] aN ro ce n0 (Nat.le_trans Z0 KP.1) u f5 d2 f6 f7 f8) xB f4 rfl fun _ ik il f_ f'=> ?_
       obtain ⟨rfl,ga,bK,bb,ax,bX,x,gd,gf,gi,gj,aA,aC⟩:=f'
       have gk:=Fr.app dR ga
       have KP:=KP.trans bK (allS (Or.inr c2) all0)
       have f:=f.keep bK
       have h:=h.keep bK (ninS c3 nin0)
       have r:=r.keep bK (ninS c3 nin0)
       have o:=o.keep bK (ninS c3 nin0)
       have I:=I.keep bK (ninS d1 nin0)
       have O:=O.keep bK
       refine aJ [_] ?_
       have aD:h0.size≤bb:=Nat.le_trans N.1 x
       have b0:qx≠bb:=Nat.ne_of_lt (Nat.lt_of_lt_of_le am x)
       have bH:qa≠bb:=Nat.ne_of_lt (Nat.lt_of_lt_of_le bE x)
       have gl:aN≠bb:=Nat.ne_of_lt (Nat.lt_of_lt_of_le f9 x)
       exact dU 94 f_ a hret a5 (by exact ⟨aN,bb,qa,ax,bx,(0:Int32),(1:Int32),(1:Int32),oq,lq,zq,(pD [ro]),G,1,1,nq,rfl,gk,KP,c2,aD,gl,aU,d1,bH,cb,gd,gf,gi,gj,aA,aC,f,h,r,o,I,O,rfl,by decide,by decide,(yQ hrv),b',by omega,ca,fq,(yS (fun q=>hrv (fr.mpr q)))⟩)
     ·have N:=KP
      have bm:=v.lt
      have bn:=y.lt
      have bo:=C.lt
      have bq:=B.lt
      have am:=f.lt
      have br:=A.lt
      refine jQ 153 2 0 1 4 80 209 210 212 211 103 213 cw a (XJ l Z a0 hw [] mb qx E (ft 0) fa n cv.heap n0 (Nat.le_trans Z0 KP.1) u cn aa ka kq Q aX T S aZ b5 cj v K L H y f h r o w A ht0 hcn cV hn4) Ec cU v fun _ d3 im be gp=> ?_
      obtain ⟨ro,qa,bx,oq,lq,zq,G,nq,rfl,gq,c4,aU,cX,-,h,r,o,I,O,b',hn8,ca,fq,fr⟩:=gp
      have d4:=Fr.app cT gq
      have u:=u.keep c4 (allS Q (allS aX all0))
      have KP:=KP.trans c4 (allS (Or.inl (List.mem_of_getElem? (i:=0) rfl)) (allS (Or.inl (List.mem_of_getElem? (i:=1) rfl)) all0))
      have f:=f.keep c4
      refine aJ [_] ?_
      have aU:=aU.imp id (Nat.le_trans N.1)
      rw[←oJ ft] at fq fr
      have cb:=cX
      refine bh 155 81 #[_,_,_,_,_,_,_,_] be a ?_
      refine au 156 82 be a ?_
      refine bw 159 83 be a rfl ((if0 _ _).trans (feq (by decide: ¬((1:Int32)=(0:Int32)))).1) ?_
      refine aq 161 84 be a ?_
      by_cases hrv:ro=(0:Int32)
      ·refine bw 164 85 be a rfl ((if0 _ _).trans (teq hrv).2) ?_
       obtain ⟨io,cg,d5,gs,bf,d6,cB,-,d7⟩:=newO be hx hZ aV (aj hw 133 rfl) (aj hw 102 rfl) (aj hw 103 rfl) rfl (g:=(mkF m 164 #[rv mb,rv dv,rv qx,iv 1,iv rc,iv ro,.unset,.unset] [])) rfl (D 86 rfl) (by decide) (by decide)
       obtain ⟨aO,cC⟩: ∃z,z=d3.heap.size:=⟨_,rfl⟩
       rw[←cC] at d6 cB d7
       have c5:h0.size≤aO:=Nat.le_trans KP.1 (Nat.le_of_eq cC.symm)
       have gu:n0≤aO:=Nat.le_trans Z0 c5
       have c6:qx≠aO:=Nat.ne_of_lt (Nat.lt_of_lt_of_le f.lt (Nat.le_of_eq cC.symm))
       have d8:qa≠aO:=Nat.ne_of_lt (Nat.lt_of_lt_of_le I.lt (Nat.le_of_eq cC.symm))
       have u:=u.ext bf
       have KP:=KP.ext bf
       have f:=f.ext bf
       have h:=h.ext bf
       have r:=r.ext bf
       have o:=o.ext bf
       have I:=I.ext bf
       have O:=O.ext bf
       have d9:Exa Z cg aO "java/math/MutableBigInteger":=d6
       have gv:Fld Z cg aO "java/math/MutableBigInteger" "offset" "I" (.int (0:Int32)):=cB (Or.inl (aj hw 110 rfl)) (ty:= .int) (by decide)
       have gw:Fld Z cg aO "java/math/MutableBigInteger" "value" "[I" .null:=cB (Or.inl (aj hw 112 rfl)) (ty:=(.array .int)) (by decide)
       have gx:Fld Z cg aO "java/math/MutableBigInteger" "intLen" "I" (.int (0:Int32)):=cB (Or.inl (aj hw 114 rfl)) (ty:= .int) (by decide)
       refine aG (mkF m 167 #[rv mb,rv dv,rv qx,iv 1,iv rc,iv ro,.unset,.unset] [(.ref aO)]) d7 ?_
       refine jh 168 87 d5 a ?_
       have N:=KP
       have am:=f.lt
       have bE:=I.lt
       have gy:=d9.lt
       refine iJ 171 0 1 3 8 88 231 105 103 107 d5 a (xR l Z a0 hw [] aO cg n0 (Nat.le_trans Z0 KP.1) u gu d9 gv gw gx) pJ gs rfl fun _ ip iy gA gB=> ?_
       obtain ⟨rfl,gC,bN,bb,ax,bX,x,gD,gE,gG,gH,aA,aC⟩:=gB
       have gI:=Fr.app d4 gC
       have KP:=KP.trans bN (allS (Or.inr c5) all0)
       have f:=f.keep bN
       have h:=h.keep bN (ninS c6 nin0)
       have r:=r.keep bN (ninS c6 nin0)
       have o:=o.keep bN (ninS c6 nin0)
       have I:=I.keep bN (ninS d8 nin0)
       have O:=O.keep bN
       refine aJ [_] ?_
       have aD:h0.size≤bb:=Nat.le_trans N.1 x
       have b0:qx≠bb:=Nat.ne_of_lt (Nat.lt_of_lt_of_le am x)
       have bH:qa≠bb:=Nat.ne_of_lt (Nat.lt_of_lt_of_le bE x)
       have gK:aO≠bb:=Nat.ne_of_lt (Nat.lt_of_lt_of_le gy x)
       exact dU 89 gA a hret a5 (by exact ⟨aO,bb,qa,ax,bx,(0:Int32),(0:Int32),(1:Int32),oq,lq,zq,(fun _=>0),G,1,1,nq,rfl,gI,KP,c5,aD,gK,aU,d8,bH,cb,gD,gE,gG,gH,aA,aC,f,h,r,o,I,O,rfl,by decide,by decide,tJ,b',by omega,ca,fq,(yR (fr.mp hrv))⟩)
      ·refine bk 172 85 be a rfl ((if0 _ _).trans (feq hrv).2) ?_
       obtain ⟨iA,ci,c7,gL,bg,d_,cD,-,d'⟩:=newO be hx hZ aV (aj hw 133 rfl) (aj hw 102 rfl) (aj hw 103 rfl) rfl (g:=(mkF m 172 #[rv mb,rv dv,rv qx,iv 1,iv rc,iv ro,.unset,.unset] [])) rfl (D 90 rfl) (by decide) (by decide)
       obtain ⟨aP,cE⟩: ∃z,z=d3.heap.size:=⟨_,rfl⟩
       rw[←cE] at d_ cD d'
       have c8:h0.size≤aP:=Nat.le_trans KP.1 (Nat.le_of_eq cE.symm)
       have gM:n0≤aP:=Nat.le_trans Z0 c8
       have c9:qx≠aP:=Nat.ne_of_lt (Nat.lt_of_lt_of_le f.lt (Nat.le_of_eq cE.symm))
       have ea:qa≠aP:=Nat.ne_of_lt (Nat.lt_of_lt_of_le I.lt (Nat.le_of_eq cE.symm))
       have u:=u.ext bg
       have KP:=KP.ext bg
       have f:=f.ext bg
       have h:=h.ext bg
       have r:=r.ext bg
       have o:=o.ext bg
       have I:=I.ext bg
       have O:=O.ext bg
       have eb:Exa Z ci aP "java/math/MutableBigInteger":=d_
       have gN:Fld Z ci aP "java/math/MutableBigInteger" "offset" "I" (.int (0:Int32)):=cD (Or.inl (aj hw 110 rfl)) (ty:= .int) (by decide)
       have gO:Fld Z ci aP "java/math/MutableBigInteger" "value" "[I" .null:=cD (Or.inl (aj hw 112 rfl)) (ty:=(.array .int)) (by decide)
       have gP:Fld Z ci aP "java/math/MutableBigInteger" "intLen" "I" (.int (0:Int32)):=cD (Or.inl (aj hw 114 rfl)) (ty:= .int) (by decide)
       refine aG (mkF m 175 #[rv mb,rv dv,rv qx,iv 1,iv rc,iv ro,.unset,.unset] [(.ref aP)]) d' ?_
       refine jh 176 91 c7 a ?_
       refine aq 178 92 c7 a ?_
       have N:=KP
       have am:=f.lt
       have bE:=I.lt
       have gQ:=eb.lt
       refine iJ 181 1 1 3 8 93 224 225 103 226 c7 a (Eu l Z a0 hw [] aP ro ci n0 (Nat.le_trans Z0 KP.1) u gM eb gN gO gP) xB gL rfl fun _ iB iC gS gT=> ?_
       obtain ⟨rfl,gU,bP,bb,ax,bX,x,gV,gW,gX,gZ,aA,aC⟩:=gT
       have g0:=Fr.app d4 gU
       have KP:=KP.trans bP (allS (Or.inr c8) all0)
       have f:=f.keep bP
       have h:=h.keep bP (ninS c9 nin0)
       have r:=r.keep bP (ninS c9 nin0)
       have o:=o.keep bP (ninS c9 nin0)
       have I:=I.keep bP (ninS ea nin0)
       have O:=O.keep bP
       refine aJ [_] ?_
       have aD:h0.size≤bb:=Nat.le_trans N.1 x
       have b0:qx≠bb:=Nat.ne_of_lt (Nat.lt_of_lt_of_le am x)
       have bH:qa≠bb:=Nat.ne_of_lt (Nat.lt_of_lt_of_le bE x)
       have g1:aP≠bb:=Nat.ne_of_lt (Nat.lt_of_lt_of_le gQ x)
       exact dU 94 gS a hret a5 (by exact ⟨aP,bb,qa,ax,bx,(0:Int32),(1:Int32),(1:Int32),oq,lq,zq,(pD [ro]),G,1,1,nq,rfl,g0,KP,c8,aD,g1,aU,ea,bH,cb,gV,gW,gX,gZ,aA,aC,f,h,r,o,I,O,rfl,by decide,by decide,(yQ hrv),b',by omega,ca,fq,(yS (fun q=>hrv (fr.mpr q)))⟩)
    ·obtain rfl:=oO (b:=2) hdn rfl
     refine bQ 184 72 a9 a rfl (feq (by decide: ¬((2:Int32)=(1:Int32)))).2 ?_
     refine ak 185 97 a9 a ?_
     refine aE 188 98 113 a9 a dL H fun iD bS g2=> ?_
     refine bT 190 99 6 bS a ?_
     refine bQ 264 100 bS a rfl (tlt (lg (j:=6) hcn rfl (by omega))).1 ?_
     refine ak 265 136 bS a ?_
     refine ak 266 137 bS a ?_
     refine ak 267 138 bS a ?_
     refine au 268 139 bS a ?_
     have cV:2≤n:=J1 h1n aF ha0 ht0
     refine ly 271 3 0 4 24 140 261 262 264 263 103 265 bS a (Xz l Z a0 hw [] mb dv qx E fa ft n cv.heap n0 (Nat.le_trans Z0 KP.1) u cn aa dz ka kz kq Q aX T v K L H y C aQ aS av B f h r o w A hcn cV hn4 ha0 ht0 (ht1 rfl) hle) Eb g2 v fun _ iE iF g3 g4=> ?_
     obtain ⟨rm,ra,qa,kr,bx,oo,lr,zr,oq,lq,zq,F,G,nr,nz,nq,rfl,g5,g6,g7,sa_,g8,aU,g9⟩:=g4
     have N:=KP
     have g_:=Fr.app cT g5
     have KP:=KP.trans g6 (allS (Or.inl (List.mem_of_getElem? (i:=0) rfl)) (allS (Or.inl (List.mem_of_getElem? (i:=1) rfl)) all0))
     refine aJ [_] ?_
     exact dU 141 g3 a hret a5 (by exact ⟨rm,ra,qa,kr,bx,oo,lr,zr,oq,lq,zq,F,G,nr,nz,nq,rfl,g_,KP,Nat.le_trans N.1 g7,Nat.le_trans N.1 sa_,g8,aU.imp id (Nat.le_trans N.1),g9⟩)
 rcases Nat.lt_trichotomy n nd with hnn|hnn|hnn
 ·obtain ⟨iG,iH,g',iI,ha⟩:=isOf hZ bV v
  obtain ⟨_,iK,iL,hc,hd,he⟩:=rX bl hx aV (mvT hZ (aj hw 128 rfl)) (mvT hZ (aj hw 129 rfl)) (notFace_of_selects (args:= #[]) (mvT hZ (aj hw 131 rfl))) (mvT hZ (aj hw 131 rfl)) (mvT hZ (aj hw 130 rfl)) (by decide) (backOf (W:=0) (Wq l Z a0 hw [] mb dv h0 n0 (Nat.le_trans Z0 KP.1) u cn dn H av (lg hcn hdn hnn)) hZ (aj hw 132 rfl) (aj hw 103 rfl) (by decide) (by decide)) g' ha (g:=(mkF m 52 #[rv mb,rv dv,rv qx,iv 1,.unset,.unset,.unset,.unset] [(.ref dv),(.ref mb)])) rfl (by rw[cI];rfl) (argsL:= [(.ref dv)]) (rest:= []) (lenOf xG rfl) rfl (by show 2*0+_≤_;exact Nat.le_of_eq rfl) (D 27 rfl) rfl bV (kc:=0) (ks:=0) rfl rfl (by decide) (by decide)
  obtain ⟨rfl,hf,hg⟩:=hd
  have hh:=Fr.app N0 hf
  refine qL (mkF m 55 #[rv mb,rv dv,rv qx,iv 1,.unset,.unset,.unset,.unset] [(.int (-1:Int32))]) he ?_
  exact J _ _ _ _ hc hg hh u KP v K L H y C aQ aS av B f h r o w A R (Or.inl ⟨rfl,J2 h1n hnn hd2 ht0⟩) (fun _=>by omega)
 ·obtain rfl:=hnn
  obtain rfl|rfl:n=1∨n=2:=by omega
  ·obtain rfl:=oO (b:=1) hcn rfl
   obtain rfl:=oO (b:=1) hdn rfl
   refine jQ 55 1 0 0 0 27 128 129 131 130 103 132 bl a (Wz l Z a0 hw [] mb aa ka (fa 0) dv dz kz (ft 0) h0 n0 (Nat.le_trans Z0 KP.1) u v K L H C aQ aS av y B) xG bV v fun _ iM iN hj hk=> ?_
   obtain ⟨rc,rfl,hl,hm,hC⟩:=hk
   have hn:=Fr.app N0 hl
   refine aJ [_] ?_
   exact J _ _ _ _ hj hm hn u KP v K L H y C aQ aS av B f h r o w A R (by rw[oJ,oJ];exact hC) (fun _=>by decide)
  ·obtain rfl:=oO (b:=2) hcn rfl
   obtain rfl:=oO (b:=2) hdn rfl
   refine jQ 55 1 0 0 0 27 128 129 131 130 103 132 bl a (WB l Z a0 hw [] mb aa ka (fa 0) (fa 1) dv dz kz (ft 0) (ft 1) h0 n0 (Nat.le_trans Z0 KP.1) u v K L H C aQ aS av y B) xG bV v fun _ iO iP hp hq=> ?_
   obtain ⟨rc,rfl,hr,hs,hC⟩:=hq
   have ht:=Fr.app N0 hr
   refine aJ [_] ?_
   exact J _ _ _ _ hp hs ht u KP v K L H y C aQ aS av B f h r o w A R (by rw[qA,qA];exact hC) (fun _=>by decide)
 ·obtain ⟨iQ,iR,hu,iS,hv⟩:=isOf hZ bV v
  obtain ⟨_,iT,iU,hy,hz,hA⟩:=rX bl hx aV (mvT hZ (aj hw 128 rfl)) (mvT hZ (aj hw 129 rfl)) (notFace_of_selects (args:= #[]) (mvT hZ (aj hw 131 rfl))) (mvT hZ (aj hw 131 rfl)) (mvT hZ (aj hw 130 rfl)) (by decide) (backOf (W:=0) (Ww l Z a0 hw [] mb dv h0 n0 (Nat.le_trans Z0 KP.1) u cn dn H av (lg hdn hcn hnn)) hZ (aj hw 132 rfl) (aj hw 103 rfl) (by decide) (by decide)) hu hv (g:=(mkF m 52 #[rv mb,rv dv,rv qx,iv 1,.unset,.unset,.unset,.unset] [(.ref dv),(.ref mb)])) rfl (by rw[cI];rfl) (argsL:= [(.ref dv)]) (rest:= []) (lenOf xG rfl) rfl (by show 2*0+_≤_;exact Nat.le_of_eq rfl) (D 27 rfl) rfl bV (kc:=0) (ks:=0) rfl rfl (by decide) (by decide)
  obtain ⟨rfl,hB,hD⟩:=hz
  have hE:=Fr.app N0 hB
  refine qL (mkF m 55 #[rv mb,rv dv,rv qx,iv 1,.unset,.unset,.unset,.unset] [(.int (1:Int32))]) hA ?_
  exact J _ _ _ _ hy hD hE u KP v K L H y C aQ aS av B f h r o w A R (Or.inr (Or.inr ⟨rfl,J3 cH hnn hn4 hd2 ha0⟩)) (fun q=>absurd q (by decide))
theorem XW (l:Launch)(Z:State)(a0:Array Value)(hw: ∀d∈tables_1,d.before a0 Z=true)(ws:List Jvm.Cond)(mb dv qx b:Addr)(A D:Int)(h0:Heap)(n0:Nat)(Z0:n0≤h0.size)(y:Old Z n0 h0)(z:n0≤qx)(B:n0≤b)(f:Exa Z h0 mb "java/math/MutableBigInteger")(hK:bp l (⟨"java/math/MutableBigInteger","divideKnuth","(Ljava/math/MutableBigInteger;Ljava/math/MutableBigInteger;Z)Ljava/math/MutableBigInteger;"⟩:MethodName) [Jvm.Cond.code (⟨"java/math/MutableBigInteger","divideKnuth","(Ljava/math/MutableBigInteger;Ljava/math/MutableBigInteger;Z)Ljava/math/MutableBigInteger;"⟩:MethodName) jdk_2101_method_57_code 8 (some (.object "java/math/MutableBigInteger"))] ({frames:=4,cells:=4,slots:=28,locals:=106}:Room) #[(.ref mb),(.ref dv),(.ref qx),(.int (1:Int32))] Z h0 (qe Z qx b A D h0 n0)):
  bp l (⟨"java/math/MutableBigInteger","divideKnuth","(Ljava/math/MutableBigInteger;Ljava/math/MutableBigInteger;)Ljava/math/MutableBigInteger;"⟩:MethodName) (Jvm.Cond.code (⟨"java/math/MutableBigInteger","divideKnuth","(Ljava/math/MutableBigInteger;Ljava/math/MutableBigInteger;)Ljava/math/MutableBigInteger;"⟩:MethodName) jdk_2101_method_56_code 3 (some (.object "java/math/MutableBigInteger"))::ws) ({frames:=5,cells:=4,slots:=28,locals:=130}:Room) #[(.ref mb),(.ref dv),(.ref qx)] Z h0 (qe Z qx b A D h0 n0):=by
 refine bI (plainFor_of_name jy) (fun m=>Ug m mb dv qx) fun p e s m C E c s₁ hx g h j (k:s.vm.findClass "java/math/MutableBigInteger"=some m.cls) hnm hret X0 hZ e0=> ?_
 have a:=bG hx g Pg k hZ j hw
 have N0:=Fr.nil n0
 have KP:Keep h0 h0 [qx,b]:=Keep.refl _ _
 refine ak 1 0 X0 a ?_
 refine ak 2 1 X0 a ?_
 refine ak 3 2 X0 a ?_
 refine aB 4 3 1 X0 a ?_
 refine jQ 7 3 0 4 28 4 123 124 126 125 103 127 X0 a hK Eb e0 f fun _ H I n o=> ?_
 obtain ⟨rm,ra,qa,kr,kq,oo,lr,zr,q,r,t,F,G,nr,nz,nq,rfl,u,v,w⟩:=o
 have x:=Fr.app N0 u
 have KP:=KP.trans v (allS (Or.inl (List.mem_of_getElem? (i:=0) rfl)) (allS (Or.inl (List.mem_of_getElem? (i:=1) rfl)) all0))
 refine aJ [_] ?_
 exact dU 5 n a hret h (by exact ⟨rm,ra,qa,kr,kq,oo,lr,zr,q,r,t,F,G,nr,nz,nq,rfl,x,KP,w⟩)
def xU (Z:State)(A D:Int)(h0:Heap)(n0:Nat)(v:Option Value)(h:Heap)(L:List Loc):Prop:= ∃(ar:Addr) (a:ClassId) (xq b xr:Addr) (sg:Int32),v=some (.ref ar)∧Fr n0 L∧Keep h0 h []∧Arv Z h ar a (.object "java/math/BigInteger") (2:Int32) [(.ref xq),(.ref xr)] .null∧jX Z h xq b (A/D)∧Exa Z h xr "java/math/BigInteger"∧Fld Z h xr "java/math/BigInteger" "signum" "I" (.int sg)∧(sg=0↔A%D=0)
theorem Fc (l:Launch)(Z:State)(a0:Array Value)(hw: ∀d∈tables_1,d.before a0 Z=true)(ws:List Jvm.Cond)(mb zx:Addr)(h0:Heap)(n0:Nat)(Z0:n0≤h0.size)(i:Old Z n0 h0)(l2:Int32)(j:Fld Z h0 mb "java/math/MutableBigInteger" "intLen" "I" (.int l2))(hl0:l2=0)(SZ:Sta Z Z.heap "java/math/BigInteger" "ZERO" "Ljava/math/BigInteger;" (.ref zx)):
  bp l (⟨"java/math/MutableBigInteger","toBigInteger","(I)Ljava/math/BigInteger;"⟩:MethodName) (Jvm.Cond.code (⟨"java/math/MutableBigInteger","toBigInteger","(I)Ljava/math/BigInteger;"⟩:MethodName) jdk_2101_method_9_code 2 (some (.object "java/math/BigInteger"))::ws) ({frames:=0,cells:=2,slots:=15,locals:=0}:Room) #[(.ref mb),(.int (1:Int32))] Z h0 (Xy Z mb zx h0 n0):=by
 refine bI (plainFor_of_name jy) (fun m=>Uh m mb (1:Int32)) fun p e s m u v c s₁ hx b k n (f:s.vm.findClass "java/math/MutableBigInteger"=some m.cls) hnm hret X0 hZ e0=> ?_
 have D:=fj b wQ
 have a:=bG hx b wQ f hZ n hw
 have N0:=Fr.nil n0
 refine ak 1 0 X0 a ?_
 refine aE 4 1 113 X0 a e0 j fun w h o=> ?_
 refine bk 11 2 h a rfl ((if0 _ _).trans (teq hl0).1) ?_
 obtain ⟨x,q,r,t⟩:=getS2 h hx hZ f (host:="") (Or.inl (aj hw 152 rfl)) Via.refl o (SZ.ext i.2) (g:=(mkF m 11 #[rv mb,iv 1] [])) rfl (D 5 rfl)
 refine aG (mkF m 14 #[rv mb,iv 1] [(.ref zx)]) t ?_
 exact dU 6 q a hret k (by rw[r];exact ⟨rfl,N0,rfl⟩)
theorem XY (l:Launch)(Z:State)(a0:Array Value)(hw: ∀d∈tables_1,d.before a0 Z=true)(ws:List Jvm.Cond)(ax tx:Addr)(fa ft:Nat→Int32)(n nd:Nat)(h0:Heap)(n0:Nat)(Z0:n0≤h0.size)(h:Old Z n0 h0)(zx:Addr)(cn dn:Int32)(aa S:Addr)(ka kz:ClassId)(k:Exa Z h0 ax "java/math/BigInteger")(u:Fld Z h0 ax "java/math/BigInteger" "signum" "I" (.int (1:Int32)))(aA:Fld Z h0 ax "java/math/BigInteger" "mag" "[I" (.ref aa))(v:bM Z h0 aa ka cn fa)(K:Exa Z h0 aa "[I")(B:Exa Z h0 tx "java/math/BigInteger")(H:Fld Z h0 tx "java/math/BigInteger" "signum" "I" (.int (1:Int32)))(P:Fld Z h0 tx "java/math/BigInteger" "mag" "[I" (.ref S))(w:bM Z h0 S kz dn ft)(fZ:Exa Z h0 S "[I")(hcn:cn.toInt=n)(hdn:dn.toInt=nd)(h1n:1≤n)(hn4:n≤4)(dC:1≤nd)(hd2:nd≤2)(ha0:0<ah (fa 0))(ht0:0<ah (ft 0))(ht1:nd=2→ah (ft 0)<2147483648)(hle:aY fa n≤4503599627370496*aY ft nd)(SZ:Sta Z Z.heap "java/math/BigInteger" "ZERO" "Ljava/math/BigInteger;" (.ref zx))(EZ:Exa Z Z.heap zx "java/math/BigInteger")(FZ:Fld Z Z.heap zx "java/math/BigInteger" "signum" "I" (.int (0:Int32)))(hzx:zx<n0):
  bp l (⟨"java/math/BigInteger","divideAndRemainderKnuth","(Ljava/math/BigInteger;)[Ljava/math/BigInteger;"⟩:MethodName) (Jvm.Cond.code (⟨"java/math/BigInteger","divideAndRemainderKnuth","(Ljava/math/BigInteger;)[Ljava/math/BigInteger;"⟩:MethodName) jdk_2097_method_64_code 7 (some (.array (.object "java/math/BigInteger")))::ws) ({frames:=6,cells:=14,slots:=80,locals:=150}:Room) #[(.ref ax),(.ref tx)] Z h0 (xU Z (aY fa n) (aY ft nd) h0 n0):=by
 refine bI (plainFor_of_name gF) (fun m=>Ui m ax tx) fun p e s m cB dD c s₁ hx cC cD b7 (aO:s.vm.findClass "java/math/BigInteger"=some m.cls) hnm hret X0 hZ e0=> ?_
 have D:=fj cC DF
 have b:=bG hx cC DF aO hZ b7 hw
 have N0:=Fr.nil n0
 have KP:Keep h0 h0 []:=Keep.refl _ _
 refine aB 1 0 2 X0 b ?_
 obtain ⟨f0,b8,aP,cE,dE,Y,cF,cG,b9,cH⟩:=newRE X0 hx hZ aO (aj hw 71 rfl) (aj hw 100 rfl) e0 (g:=(mkF m 1 #[rv ax,rv tx,.unset,.unset,.unset,.unset,.unset] [(.int (2:Int32))])) rfl (D 1 rfl) rfl (by decide) (cap:=2) (by decide) (by decide) (by decide) (by decide) (ad:="[Ljava/math/BigInteger;") (by decide)
 obtain ⟨a,aX⟩: ∃z,z=h0.size:=⟨_,rfl⟩
 rw[←aX] at cF cG cH
 have bn:h0.size≤a:=Nat.le_trans KP.1 (Nat.le_of_eq aX.symm)
 have aZ:n0≤a:=Nat.le_trans Z0 bn
 have dF:ax≠a:=Nat.ne_of_lt (Nat.lt_of_lt_of_le k.lt (Nat.le_of_eq aX.symm))
 have f1:aa≠a:=Nat.ne_of_lt (Nat.lt_of_lt_of_le v.lt (Nat.le_of_eq aX.symm))
 have f2:tx≠a:=Nat.ne_of_lt (Nat.lt_of_lt_of_le B.lt (Nat.le_of_eq aX.symm))
 have f3:S≠a:=Nat.ne_of_lt (Nat.lt_of_lt_of_le w.lt (Nat.le_of_eq aX.symm))
 have h:=h.ext Y
 have KP:=KP.ext Y
 have k:=k.ext Y
 have u:=u.ext Y
 have aA:=aA.ext Y
 have v:=v.ext Y
 have K:=K.ext Y
 have B:=B.ext Y
 have H:=H.ext Y
 have P:=P.ext Y
 have w:=w.ext Y
 have t:Exa Z b8 a "[Ljava/math/BigInteger;":=cG
 have r:Arv Z b8 a aP (.object "java/math/BigInteger") (2:Int32) [.null,.null] .null:=(Arv.new cF (by decide)).pad (pad_rep [] .null 2)
 refine aG (mkF m 4 #[rv ax,rv tx,.unset,.unset,.unset,.unset,.unset] [(.ref a)]) cH ?_
 refine qu 5 2 #[_,_,_,_,_,_,_] cE b ?_
 obtain ⟨f4,a8,cI,dH,Q,cJ,bo,-,cK⟩:=newO cE hx hZ aO (aj hw 101 rfl) (aj hw 102 rfl) (aj hw 103 rfl) dE (g:=(mkF m 5 #[rv ax,rv tx,rv a,.unset,.unset,.unset,.unset] [])) rfl (D 3 rfl) (by decide) (by decide)
 obtain ⟨f,aQ⟩: ∃z,z=b8.size:=⟨_,rfl⟩
 rw[←aQ] at cJ bo cK
 have bt:h0.size≤f:=Nat.le_trans KP.1 (Nat.le_of_eq aQ.symm)
 have aS:n0≤f:=Nat.le_trans Z0 bt
 have bu:ax≠f:=Nat.ne_of_lt (Nat.lt_of_lt_of_le k.lt (Nat.le_of_eq aQ.symm))
 have cL:aa≠f:=Nat.ne_of_lt (Nat.lt_of_lt_of_le v.lt (Nat.le_of_eq aQ.symm))
 have b_:tx≠f:=Nat.ne_of_lt (Nat.lt_of_lt_of_le B.lt (Nat.le_of_eq aQ.symm))
 have cM:S≠f:=Nat.ne_of_lt (Nat.lt_of_lt_of_le w.lt (Nat.le_of_eq aQ.symm))
 have b':a≠f:=Nat.ne_of_lt (Nat.lt_of_lt_of_le t.lt (Nat.le_of_eq aQ.symm))
 have h:=h.ext Q
 have KP:=KP.ext Q
 have k:=k.ext Q
 have u:=u.ext Q
 have aA:=aA.ext Q
 have v:=v.ext Q
 have K:=K.ext Q
 have B:=B.ext Q
 have H:=H.ext Q
 have P:=P.ext Q
 have w:=w.ext Q
 have t:=t.ext Q
 have r:=r.ext Q
 have x:Exa Z a8 f "java/math/MutableBigInteger":=cJ
 have dI:Fld Z a8 f "java/math/MutableBigInteger" "offset" "I" (.int (0:Int32)):=bo (Or.inl (aj hw 110 rfl)) (ty:= .int) (by decide)
 have dJ:Fld Z a8 f "java/math/MutableBigInteger" "value" "[I" .null:=bo (Or.inl (aj hw 112 rfl)) (ty:=(.array .int)) (by decide)
 have dK:Fld Z a8 f "java/math/MutableBigInteger" "intLen" "I" (.int (0:Int32)):=bo (Or.inl (aj hw 114 rfl)) (ty:= .int) (by decide)
 refine aG (mkF m 8 #[rv ax,rv tx,rv a,.unset,.unset,.unset,.unset] [(.ref f)]) cK ?_
 refine jh 9 4 cI b ?_
 have ai:=KP
 have aC:=k.lt
 have bv:=v.lt
 have bx:=B.lt
 have bz:=w.lt
 have al:=t.lt
 have a5:=x.lt
 refine iJ 12 0 1 3 6 5 104 105 103 107 cI b (xR l Z a0 hw [] f a8 n0 (Nat.le_trans Z0 KP.1) h aS x dI dJ dK) pJ dH rfl fun _ cN f5 cO dL=> ?_
 obtain ⟨rfl,dM,L,M,kq,bA,aT,-,ae,af,T,N,aD⟩:=dL
 have dP:=Fr.app N0 dM
 have h:=h.keep L (allS aS all0)
 have KP:=KP.trans L (allS (Or.inr bt) all0)
 have k:=k.keep L
 have u:=u.keep L (ninS bu nin0)
 have aA:=aA.keep L (ninS bu nin0)
 have v:=v.keep L (ninS cL nin0)
 have K:=K.keep L
 have B:=B.keep L
 have H:=H.keep L (ninS b_ nin0)
 have P:=P.keep L (ninS b_ nin0)
 have w:=w.keep L (ninS cM nin0)
 have t:=t.keep L
 have r:=r.keep L (ninS b' nin0)
 have x:=x.keep L
 refine aJ [_] ?_
 have cP:h0.size≤M:=Nat.le_trans ai.1 aT
 have cQ:ax≠M:=Nat.ne_of_lt (Nat.lt_of_lt_of_le aC aT)
 have dR:aa≠M:=Nat.ne_of_lt (Nat.lt_of_lt_of_le bv aT)
 have dS:tx≠M:=Nat.ne_of_lt (Nat.lt_of_lt_of_le bx aT)
 have dT:S≠M:=Nat.ne_of_lt (Nat.lt_of_lt_of_le bz aT)
 have cR:a≠M:=Nat.ne_of_lt (Nat.lt_of_lt_of_le al aT)
 have dV:f≠M:=Nat.ne_of_lt (Nat.lt_of_lt_of_le a5 aT)
 have N:bM Z cN.heap M kq (1:Int32) (fun _=>0):=N
 refine qu 13 6 #[_,_,_,_,_,_,_] cO b ?_
 obtain ⟨f6,a9,ca,dW,C,cS,bB,-,cT⟩:=newO cO hx hZ aO (aj hw 101 rfl) (aj hw 102 rfl) (aj hw 103 rfl) rfl (g:=(mkF m 13 #[rv ax,rv tx,rv a,rv f,.unset,.unset,.unset] [])) rfl (D 7 rfl) (by decide) (by decide)
 obtain ⟨i,aF⟩: ∃z,z=cN.heap.size:=⟨_,rfl⟩
 rw[←aF] at cS bB cT
 have cU:h0.size≤i:=Nat.le_trans KP.1 (Nat.le_of_eq aF.symm)
 have cV:n0≤i:=Nat.le_trans Z0 cU
 have dX:ax≠i:=Nat.ne_of_lt (Nat.lt_of_lt_of_le k.lt (Nat.le_of_eq aF.symm))
 have cW:aa≠i:=Nat.ne_of_lt (Nat.lt_of_lt_of_le v.lt (Nat.le_of_eq aF.symm))
 have cX:tx≠i:=Nat.ne_of_lt (Nat.lt_of_lt_of_le B.lt (Nat.le_of_eq aF.symm))
 have dZ:S≠i:=Nat.ne_of_lt (Nat.lt_of_lt_of_le w.lt (Nat.le_of_eq aF.symm))
 have d0:a≠i:=Nat.ne_of_lt (Nat.lt_of_lt_of_le t.lt (Nat.le_of_eq aF.symm))
 have bC:f≠i:=Nat.ne_of_lt (Nat.lt_of_lt_of_le x.lt (Nat.le_of_eq aF.symm))
 have cY:M≠i:=Nat.ne_of_lt (Nat.lt_of_lt_of_le N.lt (Nat.le_of_eq aF.symm))
 have h:=h.ext C
 have KP:=KP.ext C
 have k:=k.ext C
 have u:=u.ext C
 have aA:=aA.ext C
 have v:=v.ext C
 have K:=K.ext C
 have B:=B.ext C
 have H:=H.ext C
 have P:=P.ext C
 have w:=w.ext C
 have t:=t.ext C
 have r:=r.ext C
 have x:=x.ext C
 have ae:=ae.ext C
 have af:=af.ext C
 have T:=T.ext C
 have N:=N.ext C
 have aD:=aD.ext C
 have U:Exa Z a9 i "java/math/MutableBigInteger":=cS
 have d1:Fld Z a9 i "java/math/MutableBigInteger" "offset" "I" (.int (0:Int32)):=bB (Or.inl (aj hw 110 rfl)) (ty:= .int) (by decide)
 have d2:Fld Z a9 i "java/math/MutableBigInteger" "value" "[I" .null:=bB (Or.inl (aj hw 112 rfl)) (ty:=(.array .int)) (by decide)
 have d3:Fld Z a9 i "java/math/MutableBigInteger" "intLen" "I" (.int (0:Int32)):=bB (Or.inl (aj hw 114 rfl)) (ty:= .int) (by decide)
 refine aG (mkF m 16 #[rv ax,rv tx,rv a,rv f,.unset,.unset,.unset] [(.ref i)]) cT ?_
 refine jh 17 8 ca b ?_
 refine ak 18 9 ca b ?_
 refine aE 21 10 40 ca b dW aA fun f7 d4 d5=> ?_
 refine iJ 24 1 1 4 9 11 115 116 103 117 d4 b (xT l Z a0 hw [] i aa cn a9 n0 (Nat.le_trans Z0 KP.1) h cV U d1 d2 d3 ka _ cW v) xD d5 rfl fun _ d6 f8 cZ d7=> ?_
 obtain ⟨rfl,d8,E,-,a_,a',bb⟩:=d7
 have d9:=Fr.app dP d8
 have h:=h.keep E (allS cV all0)
 have KP:=KP.trans E (allS (Or.inr cU) all0)
 have k:=k.keep E
 have u:=u.keep E (ninS dX nin0)
 have v:=v.keep E (ninS cW nin0)
 have K:=K.keep E
 have B:=B.keep E
 have H:=H.keep E (ninS cX nin0)
 have P:=P.keep E (ninS cX nin0)
 have w:=w.keep E (ninS dZ nin0)
 have t:=t.keep E
 have r:=r.keep E (ninS d0 nin0)
 have x:=x.keep E
 have ae:=ae.keep E (ninS bC nin0)
 have af:=af.keep E (ninS bC nin0)
 have T:=T.keep E (ninS bC nin0)
 have N:=N.keep E (ninS cY nin0)
 have aD:=aD.keep E
 have U:=U.keep E
 refine aJ [_] ?_
 refine gY 26 12 #[_,_,_,_,_,_,_] cZ b ?_
 obtain ⟨f9,bd,cb,d_,y,c0,bE,-,c2⟩:=newO cZ hx hZ aO (aj hw 101 rfl) (aj hw 102 rfl) (aj hw 103 rfl) rfl (g:=(mkF m 26 #[rv ax,rv tx,rv a,rv f,rv i,.unset,.unset] [])) rfl (D 13 rfl) (by decide) (by decide)
 obtain ⟨o,am⟩: ∃z,z=d6.heap.size:=⟨_,rfl⟩
 rw[←am] at c0 bE c2
 have c3:h0.size≤o:=Nat.le_trans KP.1 (Nat.le_of_eq am.symm)
 have c4:n0≤o:=Nat.le_trans Z0 c3
 have d':ax≠o:=Nat.ne_of_lt (Nat.lt_of_lt_of_le k.lt (Nat.le_of_eq am.symm))
 have ea:aa≠o:=Nat.ne_of_lt (Nat.lt_of_lt_of_le v.lt (Nat.le_of_eq am.symm))
 have eb:tx≠o:=Nat.ne_of_lt (Nat.lt_of_lt_of_le B.lt (Nat.le_of_eq am.symm))
 have c5:S≠o:=Nat.ne_of_lt (Nat.lt_of_lt_of_le w.lt (Nat.le_of_eq am.symm))
 have ec:a≠o:=Nat.ne_of_lt (Nat.lt_of_lt_of_le t.lt (Nat.le_of_eq am.symm))
 have bF:f≠o:=Nat.ne_of_lt (Nat.lt_of_lt_of_le x.lt (Nat.le_of_eq am.symm))
 have c6:M≠o:=Nat.ne_of_lt (Nat.lt_of_lt_of_le N.lt (Nat.le_of_eq am.symm))
 have cd:i≠o:=Nat.ne_of_lt (Nat.lt_of_lt_of_le U.lt (Nat.le_of_eq am.symm))
 have h:=h.ext y
 have KP:=KP.ext y
 have k:=k.ext y
 have u:=u.ext y
 have v:=v.ext y
 have K:=K.ext y
 have B:=B.ext y
 have H:=H.ext y
 have P:=P.ext y
 have w:=w.ext y
 have t:=t.ext y
 have r:=r.ext y
 have x:=x.ext y
 have ae:=ae.ext y
 have af:=af.ext y
 have T:=T.ext y
 have N:=N.ext y
 have aD:=aD.ext y
 have U:=U.ext y
 have a_:=a_.ext y
 have a':=a'.ext y
 have bb:=bb.ext y
 have be:Exa Z bd o "java/math/MutableBigInteger":=c0
 have ed:Fld Z bd o "java/math/MutableBigInteger" "offset" "I" (.int (0:Int32)):=bE (Or.inl (aj hw 110 rfl)) (ty:= .int) (by decide)
 have ef:Fld Z bd o "java/math/MutableBigInteger" "value" "[I" .null:=bE (Or.inl (aj hw 112 rfl)) (ty:=(.array .int)) (by decide)
 have eg:Fld Z bd o "java/math/MutableBigInteger" "intLen" "I" (.int (0:Int32)):=bE (Or.inl (aj hw 114 rfl)) (ty:= .int) (by decide)
 refine aG (mkF m 29 #[rv ax,rv tx,rv a,rv f,rv i,.unset,.unset] [(.ref o)]) c2 ?_
 refine jh 30 14 cb b ?_
 refine ak 31 15 cb b ?_
 refine aE 34 16 40 cb b d_ P fun f_ eh ei=> ?_
 refine iJ 37 1 1 5 12 17 115 116 103 117 eh b (xT l Z a0 hw [] o S dn bd n0 (Nat.le_trans Z0 KP.1) h c4 be ed ef eg kz _ c5 w) xD ei rfl fun _ c7 f' bf ej=> ?_
 obtain ⟨rfl,ek,A,-,el,em,eo⟩:=ej
 have ep:=Fr.app d9 ek
 have h:=h.keep A (allS c4 all0)
 have KP:=KP.trans A (allS (Or.inr c3) all0)
 have k:=k.keep A
 have u:=u.keep A (ninS d' nin0)
 have v:=v.keep A (ninS ea nin0)
 have K:=K.keep A
 have B:=B.keep A
 have H:=H.keep A (ninS eb nin0)
 have w:=w.keep A (ninS c5 nin0)
 have t:=t.keep A
 have r:=r.keep A (ninS ec nin0)
 have x:=x.keep A
 have ae:=ae.keep A (ninS bF nin0)
 have af:=af.keep A (ninS bF nin0)
 have T:=T.keep A (ninS bF nin0)
 have N:=N.keep A (ninS c6 nin0)
 have aD:=aD.keep A
 have U:=U.keep A
 have a_:=a_.keep A (ninS cd nin0)
 have a':=a'.keep A (ninS cd nin0)
 have bb:=bb.keep A (ninS cd nin0)
 have be:=be.keep A
 refine aJ [_] ?_
 refine gY 39 18 #[_,_,_,_,_,_,_] bf b ?_
 refine aR 41 19 bf b ?_
 refine aR 43 20 bf b ?_
 refine ak 44 21 bf b ?_
 have ai:=KP
 have aC:=k.lt
 have bv:=v.lt
 have bx:=B.lt
 have bz:=w.lt
 have al:=t.lt
 have a5:=x.lt
 have c8:=N.lt
 have c9:=U.lt
 have c_:=be.lt
 refine jQ 47 2 0 9 40 22 118 119 121 120 103 122 bf b (XW l Z a0 hw [] i o f M (aY fa n) (aY ft nd) c7.heap n0 (Nat.le_trans Z0 KP.1) h aS bA U (XQ l Z a0 hw [] i o f M fa ft n nd c7.heap n0 (Nat.le_trans Z0 KP.1) h cn dn aa S ka kz kq aS bA (Ne.symm bC) (Ne.symm cY) (Ne.symm bF) (Ne.symm c6) cL dR cM dT dV U a_ a' bb v be el em eo w x ae af T N aD K hcn hdn h1n hn4 dC hd2 ha0 ht0 ht1 hle)) Qe rfl U fun _ ce ga a6 er=> ?_
 obtain ⟨rm,ra,qa,kr,es,oo,lr,zr,oq,lq,zq,F,G,nr,nz,nq,rfl,ev,aK,ao,av,ew,bK,bN,c',ex,V,aL,aM,aH,aw,aN,-,ae,af,T,da,ey,hzr,hnr,hn9,ez,eA,hn8,db,fq,fr⟩:=er
 have dd:=Fr.app ep ev
 have h:=h.keep aK (allS aS (allS bA all0))
 have KP:=KP.trans aK (allS (Or.inr bt) (allS (Or.inr cP) all0))
 have k:=k.keep aK
 have u:=u.keep aK (ninS bu (ninS cQ nin0))
 have H:=H.keep aK (ninS b_ (ninS dS nin0))
 have t:=t.keep aK
 have r:=r.keep aK (ninS b' (ninS cR nin0))
 have x:=x.keep aK
 refine aJ [_] ?_
 have de:h0.size≤rm:=Nat.le_trans ai.1 ao
 have gd:ax≠rm:=Nat.ne_of_lt (Nat.lt_of_lt_of_le aC ao)
 have gf:aa≠rm:=Nat.ne_of_lt (Nat.lt_of_lt_of_le bv ao)
 have gi:tx≠rm:=Nat.ne_of_lt (Nat.lt_of_lt_of_le bx ao)
 have gj:S≠rm:=Nat.ne_of_lt (Nat.lt_of_lt_of_le bz ao)
 have bP:a≠rm:=Nat.ne_of_lt (Nat.lt_of_lt_of_le al ao)
 have cg:f≠rm:=Nat.ne_of_lt (Nat.lt_of_lt_of_le a5 ao)
 have gk:M≠rm:=Nat.ne_of_lt (Nat.lt_of_lt_of_le c8 ao)
 have gl:i≠rm:=Nat.ne_of_lt (Nat.lt_of_lt_of_le c9 ao)
 have gp:o≠rm:=Nat.ne_of_lt (Nat.lt_of_lt_of_le c_ ao)
 have df:h0.size≤ra:=Nat.le_trans ai.1 av
 have gq:ax≠ra:=Nat.ne_of_lt (Nat.lt_of_lt_of_le aC av)
 have gs:aa≠ra:=Nat.ne_of_lt (Nat.lt_of_lt_of_le bv av)
 have gu:tx≠ra:=Nat.ne_of_lt (Nat.lt_of_lt_of_le bx av)
 have gv:S≠ra:=Nat.ne_of_lt (Nat.lt_of_lt_of_le bz av)
 have dg:a≠ra:=Nat.ne_of_lt (Nat.lt_of_lt_of_le al av)
 have eB:f≠ra:=Nat.ne_of_lt (Nat.lt_of_lt_of_le a5 av)
 have gw:M≠ra:=Nat.ne_of_lt (Nat.lt_of_lt_of_le c8 av)
 have gx:i≠ra:=Nat.ne_of_lt (Nat.lt_of_lt_of_le c9 av)
 have gy:o≠ra:=Nat.ne_of_lt (Nat.lt_of_lt_of_le c_ av)
 have dh:=Nat.le_trans Z0 de
 have di:=Nat.le_trans Z0 df
 have dj:=Cw bK bA (Nat.le_trans Z0 ai.1)
 have eC:=Cw bK cP ai.1
 have dk:=rF bK (Ne.symm cR) al
 have eD:=rF bK (Ne.symm cQ) aC
 refine gY 49 23 #[_,_,_,_,_,_,_] a6 b ?_
 refine ak 50 24 a6 b ?_
 refine aB 51 25 0 a6 b ?_
 refine ak 52 26 a6 b ?_
 refine ak 53 27 a6 b ?_
 refine aE 56 28 38 a6 b rfl u fun gA dl eE=> ?_
 refine ak 57 29 dl b ?_
 refine aE 60 30 38 dl b eE H fun gB bg ci=> ?_
 refine bY 63 31 bg b rfl (teq (by decide:(1:Int32)=(1:Int32))).2 ?_
 refine aB 64 32 1 bg b ?_
 refine bL 68 33 bg b ?_
 have J: ∀(T_:State) (O:Heap) (L_:List Loc) (xq bq:Addr),Stand p l e ({frames:=6,cells:=14,slots:=80,locals:=150}:Room) s m #[(.ref ax),(.ref tx)] cB dD c T_ L_ 11 55→T_.heap=O→Fr n0 L_→Old Z n0 O→Keep h0 O []→Exa Z O ax "java/math/BigInteger"→Fld Z O ax "java/math/BigInteger" "signum" "I" (.int (1:Int32))→Exa Z O a "[Ljava/math/BigInteger;"→Arv Z O a aP (.object "java/math/BigInteger") (2:Int32) [.null,.null] .null→Exa Z O rm "java/math/MutableBigInteger"→Fld Z O rm "java/math/MutableBigInteger" "offset" "I" (.int oo)→Fld Z O rm "java/math/MutableBigInteger" "value" "[I" (.ref ra)→Fld Z O rm "java/math/MutableBigInteger" "intLen" "I" (.int lr)→bM Z O ra kr zr F→Exa Z O ra "[I"→jX Z O xq bq (aY fa n/aY ft nd)→xq≠a→bq≠a→xq≠rm→bq≠rm→xq≠ra→bq≠ra→ay p e cB (gb s (xU Z (aY fa n) (aY ft nd) h0 n0) ({frames:=6,cells:=14,slots:=80,locals:=150}:Room).cells ({frames:=6,cells:=14,slots:=80,locals:=150}:Room).slots) T_ (mkF m 71 #[rv ax,rv tx,rv a,rv f,rv i,rv o,rv rm] [(.ref xq),(.int (0:Int32)),(.ref a)]):=by
  intro gC gD gE xq bq eF eH eI h KP k u t r V aL aM aH aw aN I ck bj eK cl eL cm
  obtain ⟨gG,co,dp,dq,eM,eN,eP⟩:=id r
  obtain ⟨gH,cp,a7,eQ,R,eR⟩:=stR eF hx hZ eH co (j:=(0:Int32)) (inb_of dq ⟨by decide,by decide⟩) rfl (Sto.ofV co dp b9 (Ins.self I.1)) (g:=(mkF m 71 #[rv ax,rv tx,rv a,rv f,rv i,rv o,rv rm] [(.ref xq),(.int (0:Int32)),(.ref a)])) rfl rfl (D 36 rfl)
  refine aG (mkF m 72 #[rv ax,rv tx,rv a,rv f,rv i,rv o,rv rm] []) eR ?_
  have dr:=Fr.snoc a7 eI aZ
  have eS:Arv Z cp a aP (.object "java/math/BigInteger") (2:Int32) [(.ref xq),.null] .null:=Arv.set co dp dq eM eN eP rfl R 0 rfl (Nat.le_of_ble_eq_true rfl)
  have h:=h.wr R aZ
  have KP:=KP.wr R (Or.inr bn)
  have k:=k.wr R
  have u:=u.other R (Or.inl dF)
  have t:=t.wr R
  have V:=V.wr R
  have aL:=aL.other R (Or.inl (Ne.symm bP))
  have aM:=aM.other R (Or.inl (Ne.symm bP))
  have aH:=aH.other R (Or.inl (Ne.symm bP))
  have aw:=aw.other R (Ne.symm dg)
  have aN:=aN.wr R
  have I:=I.wr R ck bj
  have r:=eS
  refine ak 73 37 a7 b ?_
  refine aB 74 38 1 a7 b ?_
  refine aR 76 39 a7 b ?_
  refine ak 77 40 a7 b ?_
  refine aE 80 41 38 a7 b eQ u fun gI du cq=> ?_
  by_cases hl0:lr=0
  ·obtain ⟨gK,gL,eT,gM,eU⟩:=isOf hZ cq V
   obtain ⟨_,gN,gO,eV,eX,eZ⟩:=rX du hx aO (mvT hZ (aj hw 147 rfl)) (mvT hZ (aj hw 148 rfl)) (notFace_of_selects (args:= #[]) (mvT hZ (aj hw 150 rfl))) (mvT hZ (aj hw 150 rfl)) (mvT hZ (aj hw 149 rfl)) (by decide) (backOf (W:=2) (Fc l Z a0 hw [] rm zx cp n0 (Nat.le_trans Z0 KP.1) h lr aH hl0 SZ) hZ (aj hw 151 rfl) (aj hw 103 rfl) (by decide) (by decide)) eT eU (g:=(mkF m 80 #[rv ax,rv tx,rv a,rv f,rv i,rv o,rv rm] [(.int (1:Int32)),(.ref rm),(.int (1:Int32)),(.ref a)])) rfl (by rw[b7];rfl) (argsL:= [(.int (1:Int32))]) (rest:= [(.int (1:Int32)),(.ref a)]) (lenOf xH rfl) rfl (by show 2*0+_≤_;exact Nat.le_of_eq rfl) (D 42 rfl) rfl cq (kc:=13) (ks:=70) rfl rfl (by decide) (by decide)
   obtain ⟨rfl,e2,e3⟩:=eX
   have e4:=Fr.app dr e2
   refine qL (mkF m 83 #[rv ax,rv tx,rv a,rv f,rv i,rv o,rv rm] [(.ref zx),(.int (1:Int32)),(.ref a)]) eZ ?_
   have bS:=EZ.ext h.2
   have cr:=FZ.ext h.2
   have bV:zx≠a:=Nat.ne_of_lt (Nat.lt_of_lt_of_le hzx aZ)
   obtain ⟨gP,ct,dv,dw,e5,e6,e7⟩:=id r
   obtain ⟨gQ,e8,cu,e9,bl,e'⟩:=stR eV hx hZ e3 ct (j:=(1:Int32)) (inb_of dw ⟨by decide,by decide⟩) rfl (Sto.ofV ct dv b9 (Ins.self bS)) (g:=(mkF m 83 #[rv ax,rv tx,rv a,rv f,rv i,rv o,rv rm] [(.ref zx),(.int (1:Int32)),(.ref a)])) rfl rfl (D 43 rfl)
   refine aG (mkF m 84 #[rv ax,rv tx,rv a,rv f,rv i,rv o,rv rm] []) e' ?_
   have fb:=Fr.snoc cu e4 aZ
   have fc:Arv Z e8 a aP (.object "java/math/BigInteger") (2:Int32) [(.ref xq),(.ref zx)] .null:=Arv.set ct dv dw e5 e6 e7 rfl bl 1 rfl (Nat.le_of_ble_eq_true rfl)
   have KP:=KP.wr bl (Or.inr bn)
   have I:=I.wr bl ck bj
   have bS:=bS.wr bl
   have cr:=cr.other bl (Or.inl bV)
   have r:=fc
   refine ak 85 44 cu b ?_
   exact dU 45 cu b hret cD (by rw[e9];exact ⟨a,aP,xq,bq,zx,(0:Int32),rfl,fb,KP,r,I,bS,cr,yR (fr.mp hl0)⟩)
  ·obtain ⟨zc,z1,z2,z3,z4,z5,z6⟩:=ez
   have bX:zc<nr:=Classical.byContradiction fun q=>hl0 (vW (by omega))
   have ai:=KP
   have aC:=k.lt
   have al:=t.lt
   have b0:=V.lt
   have b5:=aw.lt
   have fe:=I.lt
   have ff:=I.ltT
   refine jQ 83 1 2 13 70 42 147 148 150 149 103 151 du b (Fb l Z a0 hw [] rm ra F lr zc cp n0 (Nat.le_trans Z0 KP.1) h kr oo zr (nr-zc) nz dh di ew V aL aM aH aw aN (z5 bX) z4 (by omega) hzr (by omega) (by omega)) xH cq V fun _ gS gT fg fi=> ?_
   obtain ⟨xr,br,kb,rfl,fk,cv,aU,hb_,gV,b6,cw,gW,gX,gZ⟩:=fi
   have fl:=Fr.app dr fk
   have KP:=KP.trans cv (allS (Or.inr de) (allS (Or.inr df) all0))
   have r:=r.keep cv (ninS bP (ninS dg nin0))
   have I:=I.keep cv (ninS eK (ninS eL nin0)) (ninS cl (ninS cm nin0))
   refine aJ [_,_,_] ?_
   have g0:h0.size≤xr:=Nat.le_trans ai.1 aU
   have g1:ax≠xr:=Nat.ne_of_lt (Nat.lt_of_lt_of_le aC aU)
   have fn:a≠xr:=Nat.ne_of_lt (Nat.lt_of_lt_of_le al aU)
   have g2:rm≠xr:=Nat.ne_of_lt (Nat.lt_of_lt_of_le b0 aU)
   have g3:ra≠xr:=Nat.ne_of_lt (Nat.lt_of_lt_of_le b5 aU)
   have g4:xq≠xr:=Nat.ne_of_lt (Nat.lt_of_lt_of_le fe aU)
   have g5:bq≠xr:=Nat.ne_of_lt (Nat.lt_of_lt_of_le ff aU)
   obtain ⟨g6,cx,dx,dy,fp,fu,fv⟩:=id r
   obtain ⟨g7,fw,cy,fx,bm,fy⟩:=stR fg hx hZ rfl cx (j:=(1:Int32)) (inb_of dy ⟨by decide,by decide⟩) rfl (Sto.ofV cx dx b9 (Ins.self b6)) (g:=(mkF m 83 #[rv ax,rv tx,rv a,rv f,rv i,rv o,rv rm] [(.ref xr),(.int (1:Int32)),(.ref a)])) rfl rfl (D 43 rfl)
   refine aG (mkF m 84 #[rv ax,rv tx,rv a,rv f,rv i,rv o,rv rm] []) fy ?_
   have fz:=Fr.snoc cy fl aZ
   have fA:Arv Z fw a aP (.object "java/math/BigInteger") (2:Int32) [(.ref xq),(.ref xr)] .null:=Arv.set cx dx dy fp fu fv rfl bm 1 rfl (Nat.le_of_ble_eq_true rfl)
   have KP:=KP.wr bm (Or.inr bn)
   have I:=I.wr bm ck bj
   have b6:=b6.wr bm
   have cw:=cw.other bm (Or.inl (Ne.symm fn))
   have r:=fA
   refine ak 85 44 cy b ?_
   exact dU 45 cy b hret cD (by rw[fx];exact ⟨a,aP,xq,bq,xr,(1:Int32),rfl,fz,KP,r,I,b6,cw,yS (fun q=>hl0 (fr.mpr q))⟩)
 by_cases hl0:lq=0
 ·obtain ⟨g8,g9,fB,g_,fC⟩:=isOf hZ ci x
  obtain ⟨_,g',ha,fD,fE,fF⟩:=rX bg hx aO (mvT hZ (aj hw 147 rfl)) (mvT hZ (aj hw 148 rfl)) (notFace_of_selects (args:= #[]) (mvT hZ (aj hw 150 rfl))) (mvT hZ (aj hw 150 rfl)) (mvT hZ (aj hw 149 rfl)) (by decide) (backOf (W:=2) (Fc l Z a0 hw [] f zx ce.heap n0 (Nat.le_trans Z0 KP.1) h lq T hl0 SZ) hZ (aj hw 151 rfl) (aj hw 103 rfl) (by decide) (by decide)) fB fC (g:=(mkF m 68 #[rv ax,rv tx,rv a,rv f,rv i,rv o,rv rm] [(.int (1:Int32)),(.ref f),(.int (0:Int32)),(.ref a)])) rfl (by rw[b7];rfl) (argsL:= [(.int (1:Int32))]) (rest:= [(.int (0:Int32)),(.ref a)]) (lenOf xH rfl) rfl (by show 2*0+_≤_;exact Nat.le_of_eq rfl) (D 35 rfl) rfl ci (kc:=11) (ks:=55) rfl rfl (by decide) (by decide)
  obtain ⟨rfl,fG,fH⟩:=fE
  have fI:=Fr.app dd fG
  refine qL (mkF m 71 #[rv ax,rv tx,rv a,rv f,rv i,rv o,rv rm] [(.ref zx),(.int (0:Int32)),(.ref a)]) fF ?_
  have I:jX Z ce.heap zx zx (aY fa n/aY ft nd):=⟨EZ.ext h.2,Or.inl ⟨by rw[←fq];exact J4 db hl0,rfl,FZ.ext h.2⟩⟩
  have bV:zx≠a:=Nat.ne_of_lt (Nat.lt_of_lt_of_le hzx aZ)
  have dA:zx≠rm:=Nat.ne_of_lt (Nat.lt_of_lt_of_le hzx dh)
  have dB:zx≠ra:=Nat.ne_of_lt (Nat.lt_of_lt_of_le hzx di)
  exact J _ _ _ zx zx fD fH fI h KP k u t r V aL aM aH aw aN I bV bV dA dA dB dB
 ·obtain ⟨zc,z1,z2,z3,z4,z5,z6⟩:=db
  have bX:zc<nq:=Classical.byContradiction fun q=>hl0 (vW (by omega))
  have ai:=KP
  have aC:=k.lt
  have al:=t.lt
  have a5:=x.lt
  have fK:=da.lt
  have b0:=V.lt
  have b5:=aw.lt
  refine jQ 71 1 2 11 55 35 147 148 150 149 103 151 bg b (Fb l Z a0 hw [] f qa G lq zc ce.heap n0 (Nat.le_trans Z0 KP.1) h es oq zq (nq-zc) nq aS dj ex x ae af T da ey (z5 bX) z4 (by omega) eA (by omega) (by omega)) xH ci x fun _ fL hc fM fN=> ?_
  obtain ⟨xq,bq,kb,rfl,fO,X,aV,hb_,hd,fP,fQ,fR,fS,fT⟩:=fN
  have fU:=Fr.app dd fO
  have h:=h.keep X (allS aS (allS dj all0))
  have KP:=KP.trans X (allS (Or.inr bt) (allS (Or.inr eC) all0))
  have k:=k.keep X
  have u:=u.keep X (ninS bu (ninS (Ne.symm eD) nin0))
  have t:=t.keep X
  have r:=r.keep X (ninS b' (ninS (Ne.symm dk) nin0))
  have V:=V.keep X
  have aL:=aL.keep X (ninS (Ne.symm cg) (ninS (Ne.symm bN) nin0))
  have aM:=aM.keep X (ninS (Ne.symm cg) (ninS (Ne.symm bN) nin0))
  have aH:=aH.keep X (ninS (Ne.symm cg) (ninS (Ne.symm bN) nin0))
  have aw:=aw.keep X (ninS (Ne.symm eB) (ninS (Ne.symm c') nin0))
  have aN:=aN.keep X
  refine aJ [_,_,_] ?_
  have he:h0.size≤xq:=Nat.le_trans ai.1 aV
  have hf:ax≠xq:=Nat.ne_of_lt (Nat.lt_of_lt_of_le aC aV)
  have fV:a≠xq:=Nat.ne_of_lt (Nat.lt_of_lt_of_le al aV)
  have hg:f≠xq:=Nat.ne_of_lt (Nat.lt_of_lt_of_le a5 aV)
  have hh:qa≠xq:=Nat.ne_of_lt (Nat.lt_of_lt_of_le fK aV)
  have fW:rm≠xq:=Nat.ne_of_lt (Nat.lt_of_lt_of_le b0 aV)
  have fX:ra≠xq:=Nat.ne_of_lt (Nat.lt_of_lt_of_le b5 aV)
  have I:jX Z fL.heap xq bq (aY fa n/aY ft nd):=⟨fP,Or.inr ⟨kb,lq,_,nq-zc,fQ,fR,fS,fT,z4,by omega,by omega,oY (z3 bX),by rw[←fq,←yW z2];exact congrArg (aY G) (by omega)⟩⟩
  have bj:=rF hb_ dk al
  have cl:=rF hb_ bN b0
  have cm:=rF hb_ c' b5
  exact J _ _ _ xq bq fM rfl fU h KP k u t r V aL aM aH aw aN I (Ne.symm fV) bj (Ne.symm fW) cl (Ne.symm fX) cm
theorem XZ (l:Launch)(Z:State)(a0:Array Value)(hw: ∀d∈tables_1,d.before a0 Z=true)(ws:List Jvm.Cond)(ax tx:Addr)(A D:Int)(h0:Heap)(n0:Nat)(Z0:n0≤h0.size)(E:Old Z n0 h0)(f:Addr)(kz:ClassId)(dn:Int32)(ft:Nat→Int32)(nd:Nat)(h:Exa Z h0 ax "java/math/BigInteger")(i:Fld Z h0 tx "java/math/BigInteger" "mag" "[I" (.ref f))(k:bM Z h0 f kz dn ft)(hdn:dn.toInt=nd)(hd2:nd≤2)(n:bp l (⟨"java/math/BigInteger","divideAndRemainderKnuth","(Ljava/math/BigInteger;)[Ljava/math/BigInteger;"⟩:MethodName) [Jvm.Cond.code (⟨"java/math/BigInteger","divideAndRemainderKnuth","(Ljava/math/BigInteger;)[Ljava/math/BigInteger;"⟩:MethodName) jdk_2097_method_64_code 7 (some (.array (.object "java/math/BigInteger")))] ({frames:=6,cells:=14,slots:=80,locals:=150}:Room) #[(.ref ax),(.ref tx)] Z h0 (xU Z A D h0 n0)):
  bp l (⟨"java/math/BigInteger","divideAndRemainder","(Ljava/math/BigInteger;)[Ljava/math/BigInteger;"⟩:MethodName) (Jvm.Cond.code (⟨"java/math/BigInteger","divideAndRemainder","(Ljava/math/BigInteger;)[Ljava/math/BigInteger;"⟩:MethodName) jdk_2097_method_63_code 2 (some (.array (.object "java/math/BigInteger")))::ws) ({frames:=7,cells:=14,slots:=80,locals:=172}:Room) #[(.ref ax),(.ref tx)] Z h0 (xU Z A D h0 n0):=by
 refine bI (plainFor_of_name gF) (fun m=>Uj m ax tx) fun p e s m F G c s₁ hx o q r (t:s.vm.findClass "java/math/BigInteger"=some m.cls) hnm hret X0 hZ e0=> ?_
 have a:=bG hx o Pk t hZ r hw
 have N0:=Fr.nil n0
 have KP:Keep h0 h0 []:=Keep.refl _ _
 refine ak 1 0 X0 a ?_
 refine aE 4 1 40 X0 a e0 i fun H b g=> ?_
 refine bU 5 2 b a g k ?_
 refine bT 7 3 80 b a ?_
 refine bQ 26 4 b a rfl (tlt (lg (j:=80) hdn rfl (by omega))).1 ?_
 refine ak 27 14 b a ?_
 refine ak 28 15 b a ?_
 refine ly 31 1 0 14 80 16 95 96 98 97 24 99 b a n Ed g h fun _ I J u v=> ?_
 obtain ⟨ar,w,xq,x,xr,sg,rfl,y,z,B⟩:=v
 have C:=Fr.app N0 y
 have KP:=KP.trans z all0
 refine aJ [_] ?_
 exact dU 17 u a hret q (by exact ⟨ar,w,xq,x,xr,sg,rfl,C,KP,B⟩)
def Fe (Z:State)(V:Int)(h0:Heap)(n0:Nat)(v:Option Value)(h:Heap)(L:List Loc):Prop:= ∃(b:Addr) (kb:ClassId),v=some (.ref b)∧Fr n0 L∧Keep h0 h []∧n0≤b∧h0.size≤b∧(Ab Z h b kb V∨yq Z h b kb V)
theorem X_ (l:Launch)(Z:State)(a0:Array Value)(hw: ∀d∈tables_1,d.before a0 Z=true)(ws:List Jvm.Cond)(a b:Addr)(w0:Int32)(h0:Heap)(n0:Nat)(Z0:n0≤h0.size)(OL:Old Z n0 h0)(ka kb:ClassId)(n:Arv Z h0 a ka .int (1:Int32) [(.int w0)] (.int (0:Int32)))(o:Arv Z h0 b kb .int (1:Int32) [(.int (1:Int32))] (.int (0:Int32))):
  bp l (⟨"java/math/BigInteger","add","([I[I)[I"⟩:MethodName) (Jvm.Cond.code (⟨"java/math/BigInteger","add","([I[I)[I"⟩:MethodName) jdk_2097_method_35_code 9 (some (.array .int))::ws) ({frames:=1,cells:=2,slots:=4,locals:=40}:Room) #[(.ref a),(.ref b)] Z h0 (Fe Z (ah w0+1) h0 n0):=by
 refine bI (plainFor_of_name gF) (fun m=>Uk m a b) fun p e s m aQ aS c s₁ hx M N O (P:s.vm.findClass "java/math/BigInteger"=some m.cls) hnm hret X0 hZ e0=> ?_
 have D:=fj M wY
 have f:=bG hx M wY P hZ O hw
 have N0:=Fr.nil n0
 have KP:Keep h0 h0 []:=Keep.refl _ _
 refine ak 1 0 X0 f ?_
 refine bU 2 1 X0 f e0 n ?_
 refine ak 3 2 X0 f ?_
 refine bU 4 3 X0 f e0 o ?_
 refine bQ 13 4 X0 f rfl (flt (by decide: ¬((1:Int32)<(1:Int32)))).2.1 ?_
 refine ak 14 11 X0 f ?_
 refine bU 15 12 X0 f e0 n ?_
 refine eO 16 13 #[_,_,_,_,_,_,_,_,_] X0 f ?_
 refine ak 17 14 X0 f ?_
 refine bU 18 15 X0 f e0 o ?_
 refine eO 19 16 #[_,_,_,_,_,_,_,_,_] X0 f ?_
 refine au 20 17 X0 f ?_
 obtain ⟨aT,Q,F,i,G,H,R,S,T⟩:=newPE X0 hx hZ (aj hw 52 rfl) e0 (g:=(mkF m 20 #[rv a,rv b,iv 1,iv 1,.unset,.unset,.unset,.unset,.unset] [(.int (1:Int32))])) rfl (D 18 rfl) rfl (by decide) (cap:=1) (by decide) (by decide) (by decide) (by decide) (ad:="[I") (by decide)
 obtain ⟨j,w⟩: ∃z,z=h0.size:=⟨_,rfl⟩
 rw[←w] at R S T
 have I:h0.size≤j:=Nat.le_trans KP.1 (Nat.le_of_eq w.symm)
 have U:n0≤j:=Nat.le_trans Z0 I
 have av:a≠j:=Nat.ne_of_lt (Nat.lt_of_lt_of_le n.lt (Nat.le_of_eq w.symm))
 have aw:b≠j:=Nat.ne_of_lt (Nat.lt_of_lt_of_le o.lt (Nat.le_of_eq w.symm))
 have KP:=KP.ext H
 have n:=n.ext H
 have o:=o.ext H
 have y:Exa Z Q j "[I":=S
 have q:Arv Z Q j F .int (1:Int32) [(.int (0:Int32))] (.int (0:Int32)):=(Arv.new R (by decide)).pad (pad_rep [] (.int (0:Int32)) 1)
 refine aG (mkF m 22 #[rv a,rv b,iv 1,iv 1,.unset,.unset,.unset,.unset,.unset] [(.ref j)]) T ?_
 refine gY 24 19 #[_,_,_,_,_,_,_,_,_] i f ?_
 refine jl 25 20 0 i f ?_
 refine dN 27 21 #[_,_,_,_,_,_,_,_,_] i f ?_
 refine au 28 22 i f ?_
 refine aB 29 23 1 i f ?_
 refine bY 32 24 i f rfl (teq (by decide:(1:Int32)=(1:Int32))).2 ?_
 refine ak 33 25 i f ?_
 refine dG 36 26 #[_,_,iv 0,_,_,_,_,_,_] i f ?_
 refine au 37 27 i f ?_
 refine eY 38 28 i f G n (x:=w0) ?_
 refine bW 39 29 i f ?_
 refine bO 42 53 30 i f ?_
 refine bR 43 31 i f ?_
 refine ak 44 32 i f ?_
 refine aB 45 33 0 i f ?_
 refine eY 46 34 i f G o (x:=(1:Int32)) ?_
 refine bW 47 35 i f ?_
 refine bO 50 53 36 i f ?_
 refine bR 51 37 i f ?_
 refine iu 52 38 i f ?_
 generalize ax:(((w0.toInt64)&&&(4294967295:Int64))+(((1:Int32).toInt64)&&&(4294967295:Int64)))=sm
 have hsm:=Cx ax
 refine dN 54 39 #[_,_,_,_,_,_,_,_,_] i f ?_
 refine aR 56 40 i f ?_
 refine au 57 41 i f ?_
 refine aI 59 42 i f ?_
 refine gn 60 43 i f ?_
 refine iY 61 0 44 i f G q fun aU V h J A aA=> ?_
 have X:=Fr.snoc h N0 U
 have KP:=KP.wr A (Or.inr I)
 have n:=n.other A av
 have o:=o.other A aw
 have y:=y.wr A
 have q:Arv Z V j F .int (1:Int32) [(.int (sm.toInt32))] (.int (0:Int32)):=aA
 refine bL 109 45 h f ?_
 refine aI 111 74 h f ?_
 refine bT 113 75 32 h f ?_
 refine jD 114 76 h f ?_
 refine jl 115 77 0 h f ?_
 refine iq 116 78 h f ?_
 by_cases hcy:(lcmpW ((sm.toUInt64>>>((32:Int32)&&&0x3f).toInt64.toUInt64).toInt64) (0:Int64))=(0:Int32)
 ·refine bk 123 79 h f rfl ((if0 _ _).trans (teq hcy).1) ?_
  have hc0:=Cy hsm hcy
  have u0:=aW w0
  refine aB 124 82 0 h f ?_
  refine bh 126 83 #[_,_,_,_,_,_,_,_,_] h f ?_
  refine au 127 84 h f ?_
  refine bk 161 85 h f rfl ((if0 _ _).trans (flt (by decide: ¬((0:Int32)<(0:Int32)))).2.2.2) ?_
  refine au 162 104 h f ?_
  refine bk 178 105 h f rfl ((if0 _ _).trans (flt (by decide: ¬((0:Int32)<(0:Int32)))).2.2.2) ?_
  refine aq 180 114 h f ?_
  refine bk 212 115 h f rfl ((if0 _ _).trans (teq (by decide:(0:Int32)=(0:Int32))).1) ?_
  refine aR 214 135 h f ?_
  exact dU 136 h f hret N (by rw[J];exact ⟨j,F,rfl,X,KP,U,I,Or.inl ⟨_,q,nj (by omega),hc0.symm,y⟩⟩)
 ·refine bw 119 79 h f rfl ((if0 _ _).trans (feq hcy).1) ?_
  have hc1:=Cz hsm hcy
  refine aB 120 80 1 h f ?_
  refine bL 124 81 h f ?_
  refine bh 126 83 #[_,_,_,_,_,_,_,_,_] h f ?_
  refine au 127 84 h f ?_
  refine bk 161 85 h f rfl ((if0 _ _).trans (flt (by decide: ¬((0:Int32)<(0:Int32)))).2.2.2) ?_
  refine au 162 104 h f ?_
  refine bk 178 105 h f rfl ((if0 _ _).trans (flt (by decide: ¬((0:Int32)<(0:Int32)))).2.2.2) ?_
  refine aq 180 114 h f ?_
  refine bw 183 115 h f rfl ((if0 _ _).trans (feq (by decide: ¬((1:Int32)=(0:Int32)))).1) ?_
  refine aR 185 116 h f ?_
  refine bU 186 117 h f J q ?_
  refine aB 187 118 1 h f ?_
  refine bJ 188 119 h f (z:=(2:Int32)) ?_
  obtain ⟨aV,Y,B,r,ae,af,ag,ai,al⟩:=newPE h hx hZ (aj hw 52 rfl) J (g:=(mkF m 188 #[rv a,rv b,iv 0,iv 1,rv j,.val (.long sm),.second,iv 1,.unset] [(.int (2:Int32))])) rfl (D 120 rfl) rfl (by decide) (cap:=2) (by decide) (by decide) (by decide) (by decide) (ad:="[I") (by decide)
  obtain ⟨k,t⟩: ∃z,z=V.size:=⟨_,rfl⟩
  rw[←t] at ag ai al
  have C:h0.size≤k:=Nat.le_trans KP.1 (Nat.le_of_eq t.symm)
  have K:n0≤k:=Nat.le_trans Z0 C
  have aX:a≠k:=Nat.ne_of_lt (Nat.lt_of_lt_of_le n.lt (Nat.le_of_eq t.symm))
  have aZ:b≠k:=Nat.ne_of_lt (Nat.lt_of_lt_of_le o.lt (Nat.le_of_eq t.symm))
  have a5:j≠k:=Nat.ne_of_lt (Nat.lt_of_lt_of_le y.lt (Nat.le_of_eq t.symm))
  have KP:=KP.ext af
  have q:=q.ext af
  have u:Exa Z Y k "[I":=ai
  have v:Arv Z Y k B .int (2:Int32) [(.int (0:Int32)),(.int (0:Int32))] (.int (0:Int32)):=(Arv.new ag (by decide)).pad (pad_rep [] (.int (0:Int32)) 2)
  refine aG (mkF m 190 #[rv a,rv b,iv 0,iv 1,rv j,.val (.long sm),.second,iv 1,.unset] [(.ref k)]) al ?_
  refine gY 192 121 #[_,_,_,_,_,_,_,_,_] r f ?_
  refine aR 194 122 r f ?_
  refine aB 195 123 0 r f ?_
  refine aR 197 124 r f ?_
  refine aB 198 125 1 r f ?_
  refine aR 200 126 r f ?_
  refine bU 201 127 r f ae q ?_
  obtain ⟨a6,aC,L540,E,aD,aF,am,aH,aK⟩:=cpA r hx hZ P (aj hw 203 rfl) (aj hw 70 rfl) (aj hw 68 rfl) (aj hw 69 rfl) ae q v (us:= [(.int (sm.toInt32))]) (Or.inl ⟨rfl,rfl⟩) (by decide) (by decide) (by decide) (by decide) (by decide) rfl (Nat.le_of_ble_eq_true rfl) X K (g:=(mkF m 201 #[rv a,rv b,iv 0,iv 1,rv j,.val (.long sm),.second,iv 1,rv k] [(.int (1:Int32)),(.int (1:Int32)),(.ref k),(.int (0:Int32)),(.ref j)])) rfl (by rw[O];rfl) rfl (D 128 rfl) (by decide) (W:=0) (by show 2*0+_≤_;exact Nat.le_of_eq rfl) (by decide)
  have KP:=KP.trans am (allS (Or.inr C) all0)
  have u:=u.keep am
  have v:Arv Z aC k B .int (2:Int32) [(.int (0:Int32)),(.int (sm.toInt32))] (.int (0:Int32)):=aH
  refine aG (mkF m 204 #[rv a,rv b,iv 0,iv 1,rv j,.val (.long sm),.second,iv 1,rv k] []) aK ?_
  refine aR 206 129 E f ?_
  refine aB 207 130 0 E f ?_
  refine aB 208 131 1 E f ?_
  refine iY 209 0 132 E f aD v fun a7 aL L aM ao aN=> ?_
  have aO:=Fr.snoc L aF K
  have KP:=KP.wr ao (Or.inr C)
  have u:=u.wr ao
  have v:Arv Z aL k B .int (2:Int32) [(.int (1:Int32)),(.int (sm.toInt32))] (.int (0:Int32)):=aN
  refine aR 211 133 L f ?_
  exact dU 134 L f hret N (by rw[aM];exact ⟨k,B,rfl,aO,KP,K,C,Or.inr ⟨_,_,v,by decide,J6 hc1,u⟩⟩)
theorem Ya (l:Launch)(Z:State)(a0:Array Value)(hw: ∀d∈tables_1,d.before a0 Z=true)(ws:List Jvm.Cond)(a b:Addr)(w0 w1:Int32)(h0:Heap)(n0:Nat)(Z0:n0≤h0.size)(OL:Old Z n0 h0)(ka kb:ClassId)(n:Arv Z h0 a ka .int (2:Int32) [(.int w0),(.int w1)] (.int (0:Int32)))(t:Arv Z h0 b kb .int (1:Int32) [(.int (1:Int32))] (.int (0:Int32)))(hw0: ¬w0=0)(B:ah w0*4294967296+ah w1<9007199254740992):
  bp l (⟨"java/math/BigInteger","add","([I[I)[I"⟩:MethodName) (Jvm.Cond.code (⟨"java/math/BigInteger","add","([I[I)[I"⟩:MethodName) jdk_2097_method_35_code 9 (some (.array .int))::ws) ({frames:=1,cells:=2,slots:=4,locals:=40}:Room) #[(.ref a),(.ref b)] Z h0 (Fe Z ((ah w0*4294967296+ah w1)+1) h0 n0):=by
 refine bI (plainFor_of_name gF) (fun m=>Ul m a b) fun p e s m am ao c s₁ hx G H P (Q:s.vm.findClass "java/math/BigInteger"=some m.cls) hnm hret X0 hZ e0=> ?_
 have D:=fj G wY
 have f:=bG hx G wY Q hZ P hw
 have N0:=Fr.nil n0
 have KP:Keep h0 h0 []:=Keep.refl _ _
 refine ak 1 0 X0 f ?_
 refine bU 2 1 X0 f e0 n ?_
 refine ak 3 2 X0 f ?_
 refine bU 4 3 X0 f e0 t ?_
 refine bQ 13 4 X0 f rfl (flt (by decide: ¬((2:Int32)<(1:Int32)))).2.1 ?_
 refine ak 14 11 X0 f ?_
 refine bU 15 12 X0 f e0 n ?_
 refine eO 16 13 #[_,_,_,_,_,_,_,_,_] X0 f ?_
 refine ak 17 14 X0 f ?_
 refine bU 18 15 X0 f e0 t ?_
 refine eO 19 16 #[_,_,_,_,_,_,_,_,_] X0 f ?_
 refine au 20 17 X0 f ?_
 obtain ⟨av,I,u,i,C,E,J,K,L⟩:=newPE X0 hx hZ (aj hw 52 rfl) e0 (g:=(mkF m 20 #[rv a,rv b,iv 2,iv 1,.unset,.unset,.unset,.unset,.unset] [(.int (2:Int32))])) rfl (D 18 rfl) rfl (by decide) (cap:=2) (by decide) (by decide) (by decide) (by decide) (ad:="[I") (by decide)
 obtain ⟨k,y⟩: ∃z,z=h0.size:=⟨_,rfl⟩
 rw[←y] at J K L
 have v:h0.size≤k:=Nat.le_trans KP.1 (Nat.le_of_eq y.symm)
 have w:n0≤k:=Nat.le_trans Z0 v
 have R:a≠k:=Nat.ne_of_lt (Nat.lt_of_lt_of_le n.lt (Nat.le_of_eq y.symm))
 have aw:b≠k:=Nat.ne_of_lt (Nat.lt_of_lt_of_le t.lt (Nat.le_of_eq y.symm))
 have KP:=KP.ext E
 have n:=n.ext E
 have t:=t.ext E
 have o:Exa Z I k "[I":=K
 have q:Arv Z I k u .int (2:Int32) [(.int (0:Int32)),(.int (0:Int32))] (.int (0:Int32)):=(Arv.new J (by decide)).pad (pad_rep [] (.int (0:Int32)) 2)
 refine aG (mkF m 22 #[rv a,rv b,iv 2,iv 1,.unset,.unset,.unset,.unset,.unset] [(.ref k)]) L ?_
 refine gY 24 19 #[_,_,_,_,_,_,_,_,_] i f ?_
 refine jl 25 20 0 i f ?_
 refine dN 27 21 #[_,_,_,_,_,_,_,_,_] i f ?_
 refine au 28 22 i f ?_
 refine aB 29 23 1 i f ?_
 refine bY 32 24 i f rfl (teq (by decide:(1:Int32)=(1:Int32))).2 ?_
 refine ak 33 25 i f ?_
 refine dG 36 26 #[_,_,iv 1,_,_,_,_,_,_] i f ?_
 refine au 37 27 i f ?_
 refine eY 38 28 i f C n (x:=w1) ?_
 refine bW 39 29 i f ?_
 refine bO 42 53 30 i f ?_
 refine bR 43 31 i f ?_
 refine ak 44 32 i f ?_
 refine aB 45 33 0 i f ?_
 refine eY 46 34 i f C t (x:=(1:Int32)) ?_
 refine bW 47 35 i f ?_
 refine bO 50 53 36 i f ?_
 refine bR 51 37 i f ?_
 refine iu 52 38 i f ?_
 generalize S:(((w1.toInt64)&&&(4294967295:Int64))+(((1:Int32).toInt64)&&&(4294967295:Int64)))=sm
 have hsm:=Cx S
 refine dN 54 39 #[_,_,_,_,_,_,_,_,_] i f ?_
 refine aR 56 40 i f ?_
 refine au 57 41 i f ?_
 refine aI 59 42 i f ?_
 refine gn 60 43 i f ?_
 refine iY 61 1 44 i f C q fun ax T h A F U=> ?_
 have M:=Fr.snoc h N0 w
 have KP:=KP.wr F (Or.inr v)
 have n:=n.other F R
 have o:=o.wr F
 have q:Arv Z T k u .int (2:Int32) [(.int (0:Int32)),(.int (sm.toInt32))] (.int (0:Int32)):=U
 refine bL 109 45 h f ?_
 refine aI 111 74 h f ?_
 refine bT 113 75 32 h f ?_
 refine jD 114 76 h f ?_
 refine jl 115 77 0 h f ?_
 refine iq 116 78 h f ?_
 by_cases hcy:(lcmpW ((sm.toUInt64>>>((32:Int32)&&&0x3f).toInt64.toUInt64).toInt64) (0:Int64))=(0:Int32)
 ·refine bk 123 79 h f rfl ((if0 _ _).trans (teq hcy).1) ?_
  have hc0:=Cy hsm hcy
  have u0:=aW w0
  refine aB 124 82 0 h f ?_
  refine bh 126 83 #[_,_,_,_,_,_,_,_,_] h f ?_
  refine au 127 84 h f ?_
  refine bw 130 85 h f rfl ((if0 _ _).trans (tlt (by decide:(0:Int32)<(1:Int32))).2.2.2) ?_
  refine aq 132 86 h f ?_
  refine bk 161 87 h f rfl ((if0 _ _).trans (teq (by decide:(0:Int32)=(0:Int32))).1) ?_
  refine au 162 104 h f ?_
  refine bw 165 105 h f rfl ((if0 _ _).trans (tlt (by decide:(0:Int32)<(1:Int32))).2.2.2) ?_
  refine aR 167 106 h f ?_
  refine dG 170 107 #[_,_,iv 0,_,_,_,_,_,_] h f ?_
  refine au 171 108 h f ?_
  refine ak 172 109 h f ?_
  refine au 173 110 h f ?_
  refine eY 174 111 h f A n (x:=w0) ?_
  refine iY 175 0 112 h f A q fun aA V r W N X=> ?_
  have Y:=Fr.snoc r M w
  have KP:=KP.wr N (Or.inr v)
  have o:=o.wr N
  have q:Arv Z V k u .int (2:Int32) [(.int w0),(.int (sm.toInt32))] (.int (0:Int32)):=X
  refine bL 161 113 r f ?_
  refine au 162 104 r f ?_
  refine bk 178 105 r f rfl ((if0 _ _).trans (flt (by decide: ¬((0:Int32)<(0:Int32)))).2.2.2) ?_
  refine aq 180 114 r f ?_
  refine bk 212 115 r f rfl ((if0 _ _).trans (teq (by decide:(0:Int32)=(0:Int32))).1) ?_
  refine aR 214 135 r f ?_
  exact dU 136 r f hret H (by rw[W];exact ⟨k,u,rfl,Y,KP,w,v,Or.inr ⟨_,_,q,hw0,by omega,o⟩⟩)
 ·refine bw 119 79 h f rfl ((if0 _ _).trans (feq hcy).1) ?_
  have hc1:=Cz hsm hcy
  refine aB 120 80 1 h f ?_
  refine bL 124 81 h f ?_
  refine bh 126 83 #[_,_,_,_,_,_,_,_,_] h f ?_
  refine au 127 84 h f ?_
  refine bw 130 85 h f rfl ((if0 _ _).trans (tlt (by decide:(0:Int32)<(1:Int32))).2.2.2) ?_
  refine aq 132 86 h f ?_
  refine bw 135 87 h f rfl ((if0 _ _).trans (feq (by decide: ¬((1:Int32)=(0:Int32)))).1) ?_
  refine aR 137 88 h f ?_
  refine dG 140 89 #[_,_,iv 0,_,_,_,_,_,_] h f ?_
  refine au 141 90 h f ?_
  refine ak 142 91 h f ?_
  refine au 143 92 h f ?_
  refine eY 144 93 h f A n (x:=w0) ?_
  refine aB 145 94 1 h f ?_
  refine bJ 146 95 h f ?_
  refine HW 147 h hx (D 96 rfl) rfl rfl rfl rfl ?_
  refine iY 148 0 97 h f A q fun aC ae j af O ag=> ?_
  have ai:=Fr.snoc j M w
  have KP:=KP.wr O (Or.inr v)
  have o:=o.wr O
  have q:Arv Z ae k u .int (2:Int32) [(.int (w0+(1:Int32))),(.int (sm.toInt32))] (.int (0:Int32)):=ag
  refine bk 155 98 j f rfl ((if0 _ _).trans (feq (CB B)).2) ?_
  refine aB 156 101 0 j f ?_
  refine bh 158 102 #[_,_,_,_,_,_,_,_,_] j f ?_
  refine bL 126 103 j f ?_
  refine au 127 84 j f ?_
  refine bk 161 85 j f rfl ((if0 _ _).trans (flt (by decide: ¬((0:Int32)<(0:Int32)))).2.2.2) ?_
  refine au 162 104 j f ?_
  refine bk 178 105 j f rfl ((if0 _ _).trans (flt (by decide: ¬((0:Int32)<(0:Int32)))).2.2.2) ?_
  refine aq 180 114 j f ?_
  refine bk 212 115 j f rfl ((if0 _ _).trans (teq (by decide:(0:Int32)=(0:Int32))).1) ?_
  refine aR 214 135 j f ?_
  exact dU 136 j f hret H (by rw[af];exact ⟨k,u,rfl,ai,KP,w,v,Or.inr ⟨_,_,q,CB B,J5 B hc1,o⟩⟩)
theorem Yb (l:Launch)(Z:State)(a0:Array Value)(hw: ∀d∈tables_1,d.before a0 Z=true)(ws:List Jvm.Cond)(xq b:Addr)(PP:Heap→Addr→Addr→ClassId→Prop)(h0:Heap)(n0:Nat)(Z0:n0≤h0.size)(t:Old Z n0 h0)(oa:Addr)(ko:ClassId)(h:Fld Z h0 xq "java/math/BigInteger" "signum" "I" (.int (0:Int32)))(i:Fld Z h0 b "java/math/BigInteger" "signum" "I" (.int (1:Int32)))(hPP:PP h0 b oa ko):
  bp l (⟨"java/math/BigInteger","add","(Ljava/math/BigInteger;)Ljava/math/BigInteger;"⟩:MethodName) (Jvm.Cond.code (⟨"java/math/BigInteger","add","(Ljava/math/BigInteger;)Ljava/math/BigInteger;"⟩:MethodName) jdk_2097_method_32_code 4 (some (.object "java/math/BigInteger"))::ws) ({frames:=3,cells:=3,slots:=10,locals:=74}:Room) #[(.ref xq),(.ref b)] Z h0 (lY Z PP h0 n0):=by
 refine bI (plainFor_of_name gF) (fun m=>Um m xq b) fun p e s m u v c s₁ hx j k n (o:s.vm.findClass "java/math/BigInteger"=some m.cls) hnm hret X0 hZ e0=> ?_
 have a:=bG hx j uh o hZ n hw
 have N0:=Fr.nil n0
 have KP:Keep h0 h0 []:=Keep.refl _ _
 refine ak 1 0 X0 a ?_
 refine aE 4 1 38 X0 a e0 i fun w f q=> ?_
 refine bk 9 2 f a rfl ((if0 _ _).trans (feq (by decide: ¬((1:Int32)=(0:Int32)))).2) ?_
 refine ak 10 5 f a ?_
 refine aE 13 6 38 f a q h fun x g r=> ?_
 refine bw 16 7 g a rfl ((if0 _ _).trans (teq (by decide:(0:Int32)=(0:Int32))).2) ?_
 refine ak 17 8 g a ?_
 exact dU 9 g a hret k (by rw[r];exact ⟨b,oa,ko,rfl,N0,KP,hPP⟩)
theorem Yc (l:Launch)(Z:State)(a0:Array Value)(hw: ∀d∈tables_1,d.before a0 Z=true)(ws:List Jvm.Cond)(xq t ma oa:Addr)(ka ko:ClassId)(w0:Int32)(h0:Heap)(n0:Nat)(Z0:n0≤h0.size)(n:Old Z n0 h0)(BQ:fY Z h0 xq ma ka [w0])(BO:fY Z h0 t oa ko [(1:Int32)]):
  bp l (⟨"java/math/BigInteger","add","(Ljava/math/BigInteger;)Ljava/math/BigInteger;"⟩:MethodName) (Jvm.Cond.code (⟨"java/math/BigInteger","add","(Ljava/math/BigInteger;)Ljava/math/BigInteger;"⟩:MethodName) jdk_2097_method_32_code 4 (some (.object "java/math/BigInteger"))::ws) ({frames:=3,cells:=3,slots:=10,locals:=74}:Room) #[(.ref xq),(.ref t)] Z h0 (lY Z (fun h x a k=>rg Z h x a k (ah w0+1)∨oj Z h x a k (ah w0+1)) h0 n0):=by
 refine bI (plainFor_of_name gF) (fun m=>Un m xq t) fun p e s m bd be c s₁ hx P Q am (R:s.vm.findClass "java/math/BigInteger"=some m.cls) hnm hret X0 hZ e0=> ?_
 have D:=fj P uh
 have b:=bG hx P uh R hZ am hw
 have N0:=Fr.nil n0
 have KP:Keep h0 h0 []:=Keep.refl _ _
 obtain ⟨bf,j,G,u,bg⟩:=id BQ
 have u:Arv Z h0 ma ka .int (1:Int32) [(.int w0)] (.int (0:Int32)):=u
 obtain ⟨bj,S,H,v,bl⟩:=id BO
 have v:Arv Z h0 oa ko .int (1:Int32) [(.int (1:Int32))] (.int (0:Int32)):=v
 refine ak 1 0 X0 b ?_
 refine aE 4 1 38 X0 b e0 S fun bm I ao=> ?_
 refine bk 9 2 I b rfl ((if0 _ _).trans (feq (by decide: ¬((1:Int32)=(0:Int32)))).2) ?_
 refine ak 10 5 I b ?_
 refine aE 13 6 38 I b ao j fun bn J av=> ?_
 refine bk 18 7 J b rfl ((if0 _ _).trans (feq (by decide: ¬((1:Int32)=(0:Int32)))).2) ?_
 refine ak 19 10 J b ?_
 refine aE 22 11 38 J b av S fun bo T aw=> ?_
 refine ak 23 12 T b ?_
 refine aE 26 13 38 T b aw j fun bq U ax=> ?_
 refine bY 29 14 U b rfl (teq (by decide:(1:Int32)=(1:Int32))).2 ?_
 obtain ⟨br,A,K,aA,o,V,L,-,W⟩:=newO U hx hZ R (aj hw 71 rfl) (aj hw 72 rfl) (aj hw 24 rfl) ax (g:=(mkF m 29 #[rv xq,rv t,.unset,.unset] [])) rfl (D 15 rfl) (by decide) (by decide)
 obtain ⟨f,X⟩: ∃z,z=h0.size:=⟨_,rfl⟩
 rw[←X] at V L W
 have M:h0.size≤f:=Nat.le_trans KP.1 (Nat.le_of_eq X.symm)
 have Y:n0≤f:=Nat.le_trans Z0 M
 have n:=n.ext o
 have KP:=KP.ext o
 have j:=j.ext o
 have G:=G.ext o
 have u:=u.ext o
 have H:=H.ext o
 have v:=v.ext o
 have w:Exa Z A f "java/math/BigInteger":=V
 have B:Fld Z A f "java/math/BigInteger" "signum" "I" (.int (0:Int32)):=L (Or.inr (aj hw 39 rfl)) (ty:= .int) (by decide)
 have C:Fld Z A f "java/math/BigInteger" "mag" "[I" .null:=L (Or.inr (aj hw 41 rfl)) (ty:=(.array .int)) (by decide)
 refine aG (mkF m 32 #[rv xq,rv t,.unset,.unset] [(.ref f)]) W ?_
 refine jh 33 16 K b ?_
 refine ak 34 17 K b ?_
 refine aE 37 18 40 K b aA G fun bt ad aC=> ?_
 refine ak 38 19 ad b ?_
 refine aE 41 20 40 ad b aC H fun bu aD aF=> ?_
 have ae:=w.lt
 refine bZ 44 2 2 3 10 21 227 228 24 229 aD b (X_ l Z a0 hw [] ma oa w0 A n0 (Nat.le_trans Z0 KP.1) n ka ko u v) Ef aF fun _ af bv E aH=> ?_
 obtain ⟨bb,F,rfl,aK,r,bx,ag,aL⟩:=aH
 have ai:=Fr.app N0 aK
 have n:=n.keep r all0
 have KP:=KP.trans r all0
 have j:=j.keep r nin0
 have w:=w.keep r
 have B:=B.keep r nin0
 have C:=C.keep r nin0
 rcases aL with ⟨v0,i,hv0,hv,q⟩|⟨v0,v1,i,hv0,hv,q⟩
 ·refine aJ [_,_,_] ?_
  have y:f≠bb:=Nat.ne_of_lt (Nat.lt_of_lt_of_le ae ag)
  refine ak 45 22 E b ?_
  refine aE 48 23 38 E b rfl j fun bz aM aN=> ?_
  refine iJ 51 2 1 3 10 24 73 74 24 76 aM b (mq l Z a0 hw [] f bb af.heap n0 (Nat.le_trans Z0 KP.1) n Y w B C F (1:Int32) _ (Ne.symm y) i (by decide) (by decide)) ke aN rfl fun _ bA bB aO aP=> ?_
  obtain ⟨rfl,aQ,N,aS,aT,aU⟩:=aP
  have aV:=Fr.app ai aQ
  have KP:=KP.trans N (allS (Or.inr M) all0)
  have i:=i.keep N (ninS (Ne.symm y) nin0)
  have q:=q.keep N
  refine aJ [_] ?_
  exact dU 25 aO b hret Q (by exact ⟨f,bb,F,rfl,aV,KP,Or.inl ⟨v0,⟨aS,aT,aU,i,q⟩,hv0,hv⟩⟩)
 ·refine aJ [_,_,_] ?_
  have y:f≠bb:=Nat.ne_of_lt (Nat.lt_of_lt_of_le ae ag)
  refine ak 45 22 E b ?_
  refine aE 48 23 38 E b rfl j fun bC aX aZ=> ?_
  refine iJ 51 2 1 3 10 24 73 74 24 76 aX b (mq l Z a0 hw [] f bb af.heap n0 (Nat.le_trans Z0 KP.1) n Y w B C F (2:Int32) _ (Ne.symm y) i (by decide) (by decide)) ke aZ rfl fun _ bE bF a5 a6=> ?_
  obtain ⟨rfl,a7,O,a8,a9,a_⟩:=a6
  have a':=Fr.app ai a7
  have KP:=KP.trans O (allS (Or.inr M) all0)
  have i:=i.keep O (ninS (Ne.symm y) nin0)
  have q:=q.keep O
  refine aJ [_] ?_
  exact dU 25 a5 b hret Q (by exact ⟨f,bb,F,rfl,a',KP,Or.inr ⟨v0,v1,⟨a8,a9,a_,i,q⟩,hv0,hv⟩⟩)
theorem Yd (l:Launch)(Z:State)(a0:Array Value)(hw: ∀d∈tables_1,d.before a0 Z=true)(ws:List Jvm.Cond)(xq t ma oa:Addr)(ka ko:ClassId)(w0 w1:Int32)(h0:Heap)(n0:Nat)(Z0:n0≤h0.size)(n:Old Z n0 h0)(BQ:fY Z h0 xq ma ka [w0,w1])(BO:fY Z h0 t oa ko [(1:Int32)])(hw0: ¬w0=0)(am:ah w0*4294967296+ah w1<9007199254740992):
  bp l (⟨"java/math/BigInteger","add","(Ljava/math/BigInteger;)Ljava/math/BigInteger;"⟩:MethodName) (Jvm.Cond.code (⟨"java/math/BigInteger","add","(Ljava/math/BigInteger;)Ljava/math/BigInteger;"⟩:MethodName) jdk_2097_method_32_code 4 (some (.object "java/math/BigInteger"))::ws) ({frames:=3,cells:=3,slots:=10,locals:=74}:Room) #[(.ref xq),(.ref t)] Z h0 (lY Z (fun h x a k=>rg Z h x a k ((ah w0*4294967296+ah w1)+1)∨oj Z h x a k ((ah w0*4294967296+ah w1)+1)) h0 n0):=by
 refine bI (plainFor_of_name gF) (fun m=>Uo m xq t) fun p e s m be bf c s₁ hx P Q ao (R:s.vm.findClass "java/math/BigInteger"=some m.cls) hnm hret X0 hZ e0=> ?_
 have D:=fj P uh
 have b:=bG hx P uh R hZ ao hw
 have N0:=Fr.nil n0
 have KP:Keep h0 h0 []:=Keep.refl _ _
 obtain ⟨bg,j,G,u,bj⟩:=id BQ
 have u:Arv Z h0 ma ka .int (2:Int32) [(.int w0),(.int w1)] (.int (0:Int32)):=u
 obtain ⟨bl,S,H,v,bm⟩:=id BO
 have v:Arv Z h0 oa ko .int (1:Int32) [(.int (1:Int32))] (.int (0:Int32)):=v
 refine ak 1 0 X0 b ?_
 refine aE 4 1 38 X0 b e0 S fun bn I av=> ?_
 refine bk 9 2 I b rfl ((if0 _ _).trans (feq (by decide: ¬((1:Int32)=(0:Int32)))).2) ?_
 refine ak 10 5 I b ?_
 refine aE 13 6 38 I b av j fun bo J aw=> ?_
 refine bk 18 7 J b rfl ((if0 _ _).trans (feq (by decide: ¬((1:Int32)=(0:Int32)))).2) ?_
 refine ak 19 10 J b ?_
 refine aE 22 11 38 J b aw S fun bq T ax=> ?_
 refine ak 23 12 T b ?_
 refine aE 26 13 38 T b ax j fun br U aA=> ?_
 refine bY 29 14 U b rfl (teq (by decide:(1:Int32)=(1:Int32))).2 ?_
 obtain ⟨bt,A,K,aC,o,V,L,-,W⟩:=newO U hx hZ R (aj hw 71 rfl) (aj hw 72 rfl) (aj hw 24 rfl) aA (g:=(mkF m 29 #[rv xq,rv t,.unset,.unset] [])) rfl (D 15 rfl) (by decide) (by decide)
 obtain ⟨f,X⟩: ∃z,z=h0.size:=⟨_,rfl⟩
 rw[←X] at V L W
 have M:h0.size≤f:=Nat.le_trans KP.1 (Nat.le_of_eq X.symm)
 have Y:n0≤f:=Nat.le_trans Z0 M
 have n:=n.ext o
 have KP:=KP.ext o
 have j:=j.ext o
 have G:=G.ext o
 have u:=u.ext o
 have H:=H.ext o
 have v:=v.ext o
 have w:Exa Z A f "java/math/BigInteger":=V
 have B:Fld Z A f "java/math/BigInteger" "signum" "I" (.int (0:Int32)):=L (Or.inr (aj hw 39 rfl)) (ty:= .int) (by decide)
 have C:Fld Z A f "java/math/BigInteger" "mag" "[I" .null:=L (Or.inr (aj hw 41 rfl)) (ty:=(.array .int)) (by decide)
 refine aG (mkF m 32 #[rv xq,rv t,.unset,.unset] [(.ref f)]) W ?_
 refine jh 33 16 K b ?_
 refine ak 34 17 K b ?_
 refine aE 37 18 40 K b aC G fun bu ad aD=> ?_
 refine ak 38 19 ad b ?_
 refine aE 41 20 40 ad b aD H fun bv aF aH=> ?_
 have ae:=w.lt
 refine bZ 44 2 2 3 10 21 227 228 24 229 aF b (Ya l Z a0 hw [] ma oa w0 w1 A n0 (Nat.le_trans Z0 KP.1) n ka ko u v hw0 am) Ef aH fun _ af bx E aK=> ?_
 obtain ⟨bb,F,rfl,aL,r,bz,ag,aM⟩:=aK
 have ai:=Fr.app N0 aL
 have n:=n.keep r all0
 have KP:=KP.trans r all0
 have j:=j.keep r nin0
 have w:=w.keep r
 have B:=B.keep r nin0
 have C:=C.keep r nin0
 rcases aM with ⟨v0,i,hv0,hv,q⟩|⟨v0,v1,i,hv0,hv,q⟩
 ·refine aJ [_,_,_] ?_
  have y:f≠bb:=Nat.ne_of_lt (Nat.lt_of_lt_of_le ae ag)
  refine ak 45 22 E b ?_
  refine aE 48 23 38 E b rfl j fun bA aN aO=> ?_
  refine iJ 51 2 1 3 10 24 73 74 24 76 aN b (mq l Z a0 hw [] f bb af.heap n0 (Nat.le_trans Z0 KP.1) n Y w B C F (1:Int32) _ (Ne.symm y) i (by decide) (by decide)) ke aO rfl fun _ bB bC aP aQ=> ?_
  obtain ⟨rfl,aS,N,aT,aU,aV⟩:=aQ
  have aX:=Fr.app ai aS
  have KP:=KP.trans N (allS (Or.inr M) all0)
  have i:=i.keep N (ninS (Ne.symm y) nin0)
  have q:=q.keep N
  refine aJ [_] ?_
  exact dU 25 aP b hret Q (by exact ⟨f,bb,F,rfl,aX,KP,Or.inl ⟨v0,⟨aT,aU,aV,i,q⟩,hv0,hv⟩⟩)
 ·refine aJ [_,_,_] ?_
  have y:f≠bb:=Nat.ne_of_lt (Nat.lt_of_lt_of_le ae ag)
  refine ak 45 22 E b ?_
  refine aE 48 23 38 E b rfl j fun bE aZ a5=> ?_
  refine iJ 51 2 1 3 10 24 73 74 24 76 aZ b (mq l Z a0 hw [] f bb af.heap n0 (Nat.le_trans Z0 KP.1) n Y w B C F (2:Int32) _ (Ne.symm y) i (by decide) (by decide)) ke a5 rfl fun _ bF bH a6 a7=> ?_
  obtain ⟨rfl,a8,O,a9,a_,a'⟩:=a7
  have bd:=Fr.app ai a8
  have KP:=KP.trans O (allS (Or.inr M) all0)
  have i:=i.keep O (ninS (Ne.symm y) nin0)
  have q:=q.keep O
  refine aJ [_] ?_
  exact dU 25 a6 b hret Q (by exact ⟨f,bb,F,rfl,bd,KP,Or.inr ⟨v0,v1,⟨a9,a_,a',i,q⟩,hv0,hv⟩⟩)
def uD (Z:State)(A B:Int)(h0:Heap)(n0:Nat)(v:Option Value)(h:Heap)(L:List Loc):Prop:= ∃r:Int32,v=some (.int r)∧Fr n0 L∧h=h0∧qt A B r
theorem Ye (l:Launch)(Z:State)(a0:Array Value)(hw: ∀d∈tables_1,d.before a0 Z=true)(ws:List Jvm.Cond)(xr xa:Addr)(ka:ClassId)(w0:Int32)(g ya:Addr)(ky:ClassId)(y0 y1:Int32)(h0:Heap)(n0:Nat)(Z0:n0≤h0.size)(w:Old Z n0 h0)(n:fY Z h0 xr xa ka [w0])(BY:fY Z h0 g ya ky [y0,y1])(hy0: ¬y0=0):
  bp l (⟨"java/math/BigInteger","compareMagnitude","(Ljava/math/BigInteger;)I"⟩:MethodName) (Jvm.Cond.code (⟨"java/math/BigInteger","compareMagnitude","(Ljava/math/BigInteger;)I"⟩:MethodName) jdk_2097_method_122_code 9 (some .int)::ws) ({frames:=0,cells:=0,slots:=0,locals:=0}:Room) #[(.ref xr),(.ref g)] Z h0 (uD Z (ah w0) (ah y0*4294967296+ah y1) h0 n0):=by
 refine bI (plainFor_of_name gF) (fun m=>Uq m xr g) fun p e s m x y c s₁ hx o q r (t:s.vm.findClass "java/math/BigInteger"=some m.cls) hnm hret X0 hZ e0=> ?_
 have a:=bG hx o DH t hZ r hw
 have N0:=Fr.nil n0
 obtain ⟨z,A,u,h,B⟩:=id n
 have h:Arv Z h0 xa ka .int (1:Int32) [(.int w0)] (.int (0:Int32)):=h
 obtain ⟨C,D,v,i,E⟩:=id BY
 have i:Arv Z h0 ya ky .int (2:Int32) [(.int y0),(.int y1)] (.int (0:Int32)):=i
 refine ak 1 0 X0 a ?_
 refine aE 4 1 40 X0 a e0 u fun F f j=> ?_
 refine qu 5 2 #[_,_,_,_,_,_,_,_,_] f a ?_
 refine ak 6 3 f a ?_
 refine bU 7 4 f a j h ?_
 refine eO 8 5 #[_,_,_,_,_,_,_,_,_] f a ?_
 refine ak 9 6 f a ?_
 refine aE 12 7 40 f a j v fun G b k=> ?_
 refine gY 14 8 #[_,_,_,_,_,_,_,_,_] b a ?_
 refine aR 16 9 b a ?_
 refine bU 17 10 b a k i ?_
 refine bh 19 11 #[_,_,_,_,_,_,_,_,_] b a ?_
 refine au 20 12 b a ?_
 refine aq 22 13 b a ?_
 refine bY 25 14 b a rfl (tlt (by decide:(1:Int32)<(2:Int32))).2.1 ?_
 refine aB 26 15 (-1) b a ?_
 exact gg 16 b a hret q (by rw[k];exact ⟨_,rfl,N0,rfl,Or.inl ⟨rfl,J7 hy0⟩⟩)
theorem Yf (l:Launch)(Z:State)(a0:Array Value)(hw: ∀d∈tables_1,d.before a0 Z=true)(ws:List Jvm.Cond)(xr xa:Addr)(ka:ClassId)(w0 w1:Int32)(k ya:Addr)(ky:ClassId)(y0 y1:Int32)(h0:Heap)(n0:Nat)(Z0:n0≤h0.size)(w:Old Z n0 h0)(o:fY Z h0 xr xa ka [w0,w1])(BY:fY Z h0 k ya ky [y0,y1])(hy0: ¬y0=0):
  bp l (⟨"java/math/BigInteger","compareMagnitude","(Ljava/math/BigInteger;)I"⟩:MethodName) (Jvm.Cond.code (⟨"java/math/BigInteger","compareMagnitude","(Ljava/math/BigInteger;)I"⟩:MethodName) jdk_2097_method_122_code 9 (some .int)::ws) ({frames:=0,cells:=0,slots:=0,locals:=0}:Room) #[(.ref xr),(.ref k)] Z h0 (uD Z (ah w0*4294967296+ah w1) (ah y0*4294967296+ah y1) h0 n0):=by
 refine bI (plainFor_of_name gF) (fun m=>Ur m xr k) fun p e s m y z c s₁ hx q h r (t:s.vm.findClass "java/math/BigInteger"=some m.cls) hnm hret X0 hZ e0=> ?_
 have a:=bG hx q DH t hZ r hw
 have N0:=Fr.nil n0
 obtain ⟨A,B,u,i,C⟩:=id o
 have i:Arv Z h0 xa ka .int (2:Int32) [(.int w0),(.int w1)] (.int (0:Int32)):=i
 obtain ⟨D,E,v,j,F⟩:=id BY
 have j:Arv Z h0 ya ky .int (2:Int32) [(.int y0),(.int y1)] (.int (0:Int32)):=j
 refine ak 1 0 X0 a ?_
 refine aE 4 1 40 X0 a e0 u fun G g n=> ?_
 refine qu 5 2 #[_,_,_,_,_,_,_,_,_] g a ?_
 refine ak 6 3 g a ?_
 refine bU 7 4 g a n i ?_
 refine eO 8 5 #[_,_,_,_,_,_,_,_,_] g a ?_
 refine ak 9 6 g a ?_
 refine aE 12 7 40 g a n v fun H b f=> ?_
 refine gY 14 8 #[_,_,_,_,_,_,_,_,_] b a ?_
 refine aR 16 9 b a ?_
 refine bU 17 10 b a f j ?_
 refine bh 19 11 #[_,_,_,_,_,_,_,_,_] b a ?_
 refine au 20 12 b a ?_
 refine aq 22 13 b a ?_
 refine bQ 27 14 b a rfl (flt (by decide: ¬((2:Int32)<(2:Int32)))).2.1 ?_
 refine au 28 17 b a ?_
 refine aq 30 18 b a ?_
 refine bQ 35 19 b a rfl (flt (by decide: ¬((2:Int32)<(2:Int32)))).2.2.2 ?_
 refine aB 36 22 0 b a ?_
 refine bh 38 23 #[_,_,_,_,_,_,_,_,_] b a ?_
 refine aq 40 24 b a ?_
 refine au 41 25 b a ?_
 refine bY 44 26 b a rfl (tlt (by decide:(0:Int32)<(2:Int32))).2.1 ?_
 refine ak 45 27 b a ?_
 refine aq 47 28 b a ?_
 refine eY 48 29 b a f i (x:=w0) ?_
 refine bh 50 30 #[_,_,_,_,_,_,_,_,_] b a ?_
 refine aR 52 31 b a ?_
 refine aq 54 32 b a ?_
 refine eY 55 33 b a f j (x:=y0) ?_
 refine bh 57 34 #[_,_,_,_,_,_,_,_,_] b a ?_
 refine aq 59 35 b a ?_
 refine aq 61 36 b a ?_
 by_cases he0:w0=y0
 ·refine bQ 88 37 b a rfl (teq he0).1 ?_
  refine dG 91 52 #[_,_,_,_,_,_,iv 1,_,_] b a ?_
  refine bL 38 53 b a ?_
  refine aq 40 24 b a ?_
  refine au 41 25 b a ?_
  refine bY 44 26 b a rfl (tlt (by decide:(1:Int32)<(2:Int32))).2.1 ?_
  refine ak 45 27 b a ?_
  refine aq 47 28 b a ?_
  refine eY 48 29 b a f i (x:=w1) ?_
  refine bh 50 30 #[_,_,_,_,_,_,_,_,_] b a ?_
  refine aR 52 31 b a ?_
  refine aq 54 32 b a ?_
  refine eY 55 33 b a f j (x:=y1) ?_
  refine bh 57 34 #[_,_,_,_,_,_,_,_,_] b a ?_
  refine aq 59 35 b a ?_
  refine aq 61 36 b a ?_
  by_cases he1:w1=y1
  ·refine bQ 88 37 b a rfl (teq he1).1 ?_
   refine dG 91 52 #[_,_,_,_,_,_,iv 2,_,_] b a ?_
   refine bL 38 53 b a ?_
   refine aq 40 24 b a ?_
   refine au 41 25 b a ?_
   refine bQ 94 26 b a rfl (flt (by decide: ¬((2:Int32)<(2:Int32)))).2.1 ?_
   refine aB 95 54 0 b a ?_
   exact gg 55 b a hret h (by rw[f];exact ⟨_,rfl,N0,rfl,Or.inr (Or.inl ⟨rfl,by rw[he0,he1]⟩)⟩)
  ·refine bY 64 37 b a rfl (feq he1).1 ?_
   refine aq 66 38 b a ?_
   refine bW 67 39 b a ?_
   refine bO 70 53 40 b a ?_
   refine bR 71 41 b a ?_
   refine aq 73 42 b a ?_
   refine bW 74 43 b a ?_
   refine bO 77 53 44 b a ?_
   refine bR 78 45 b a ?_
   refine iq 79 46 b a ?_
   by_cases hl1:(lcmpW ((w1.toInt64)&&&(4294967295:Int64)) ((y1.toInt64)&&&(4294967295:Int64)))<(0:Int32)
   ·refine bw 82 47 b a rfl ((if0 _ _).trans (tlt hl1).2.1) ?_
    refine aB 83 48 (-1) b a ?_
    refine bL 87 49 b a ?_
    exact gg 51 b a hret h (by rw[f];exact ⟨_,rfl,N0,rfl,Or.inl ⟨rfl,J_ he0 hl1⟩⟩)
   ·refine bk 86 47 b a rfl ((if0 _ _).trans (flt hl1).2.1) ?_
    refine aB 87 50 1 b a ?_
    exact gg 51 b a hret h (by rw[f];exact ⟨_,rfl,N0,rfl,Or.inr (Or.inr ⟨rfl,Kc he0 he1 hl1⟩)⟩)
 ·refine bY 64 37 b a rfl (feq he0).1 ?_
  refine aq 66 38 b a ?_
  refine bW 67 39 b a ?_
  refine bO 70 53 40 b a ?_
  refine bR 71 41 b a ?_
  refine aq 73 42 b a ?_
  refine bW 74 43 b a ?_
  refine bO 77 53 44 b a ?_
  refine bR 78 45 b a ?_
  refine iq 79 46 b a ?_
  by_cases hl0:(lcmpW ((w0.toInt64)&&&(4294967295:Int64)) ((y0.toInt64)&&&(4294967295:Int64)))<(0:Int32)
  ·refine bw 82 47 b a rfl ((if0 _ _).trans (tlt hl0).2.1) ?_
   refine aB 83 48 (-1) b a ?_
   refine bL 87 49 b a ?_
   exact gg 51 b a hret h (by rw[f];exact ⟨_,rfl,N0,rfl,Or.inl ⟨rfl,J8 hl0⟩⟩)
  ·refine bk 86 47 b a rfl ((if0 _ _).trans (flt hl0).2.1) ?_
   refine aB 87 50 1 b a ?_
   exact gg 51 b a hret h (by rw[f];exact ⟨_,rfl,N0,rfl,Or.inr (Or.inr ⟨rfl,J9 he0 hl0⟩)⟩)
theorem Yg (l:Launch)(Z:State)(a0:Array Value)(hw: ∀d∈tables_1,d.before a0 Z=true)(ws:List Jvm.Cond)(xr f:Addr)(A B:Int)(h0:Heap)(n0:Nat)(Z0:n0≤h0.size)(K:Old Z n0 h0)(r:Exa Z h0 xr "java/math/BigInteger")(j:Fld Z h0 xr "java/math/BigInteger" "signum" "I" (.int (1:Int32)))(u:Fld Z h0 f "java/math/BigInteger" "signum" "I" (.int (1:Int32)))(v:bp l (⟨"java/math/BigInteger","compareMagnitude","(Ljava/math/BigInteger;)I"⟩:MethodName) [Jvm.Cond.code (⟨"java/math/BigInteger","compareMagnitude","(Ljava/math/BigInteger;)I"⟩:MethodName) jdk_2097_method_122_code 9 (some .int)] ({frames:=0,cells:=0,slots:=0,locals:=0}:Room) #[(.ref xr),(.ref f)] Z h0 (uD Z A B h0 n0)):
  bp l (⟨"java/math/BigInteger","compareTo","(Ljava/math/BigInteger;)I"⟩:MethodName) (Jvm.Cond.code (⟨"java/math/BigInteger","compareTo","(Ljava/math/BigInteger;)I"⟩:MethodName) jdk_2097_method_121_code 2 (some .int)::ws) ({frames:=1,cells:=0,slots:=0,locals:=24}:Room) #[(.ref xr),(.ref f)] Z h0 (uD Z A B h0 n0):=by
 refine bI (plainFor_of_name gF) (fun m=>Us m xr f) fun p e s m L M c s₁ hx n w x (y:s.vm.findClass "java/math/BigInteger"=some m.cls) hnm hret X0 hZ e0=> ?_
 have D:=fj n DJ
 have b:=bG hx n DJ y hZ x hw
 have N0:=Fr.nil n0
 refine ak 1 0 X0 b ?_
 refine aE 4 1 38 X0 b e0 j fun N o z=> ?_
 refine ak 5 2 o b ?_
 refine aE 8 3 38 o b z u fun O i C=> ?_
 refine bY 11 4 i b rfl (teq (by decide:(1:Int32)=(1:Int32))).2 ?_
 refine ak 12 5 i b ?_
 refine aE 15 6 38 i b C j fun E h F=> ?_
 refine aG (T':=E) (mkF m 40 #[rv xr,rv f] []) (fun t k=>h.lookupswitchHit hx (g:=(mkF m 15 #[rv xr,rv f] [(.int (1:Int32))])) rfl rfl (D 26 rfl) (by decide) (a:=1) (off:=25) (by rfl) (by show (0:Int)≤15+25;decide) t k) ?_
 refine ak 41 7 h b ?_
 refine ak 42 8 h b ?_
 refine jQ 45 1 0 0 0 9 177 178 180 179 24 181 h b v Eh F r fun _ P Q q G=> ?_
 obtain ⟨rc,rfl,H,I,hC⟩:=G
 have J:=Fr.app N0 H
 refine aJ [_] ?_
 refine bL 57 10 q b ?_
 exact gg 16 q b hret w (by rw[I];exact ⟨rc,rfl,J,rfl,hC⟩)
def Yh (Z:State)(V:Int)(h0:Heap)(n0:Nat)(v:Option Value)(h:Heap)(L:List Loc):Prop:= ∃r:Int64,v=some (.long r)∧Fr n0 L∧h=h0∧r.toInt=V
def Fh (Z:State)(cc tt pp:Int64)(h0:Heap)(n0:Nat)(v:Option Value)(h:Heap)(L:List Loc):Prop:= ∃r:Int64,v=some (.long r)∧Fr n0 L∧Keep h0 h []∧rO (cc.toInt*pp.toInt) tt.toInt r.toInt
theorem Yi (l:Launch)(Z:State)(a0:Array Value)(hw: ∀d∈tables_1,d.before a0 Z=true)(ws:List Jvm.Cond)(cc tt pp:Int64)(h0:Heap)(n0:Nat)(Z0:n0≤h0.size)(b:Old Z n0 h0)(bf:0≤cc.toInt∧cc.toInt<9007199254740992)(ax:0≤tt.toInt∧tt.toInt<9007199254740992)(bg:0≤pp.toInt∧pp.toInt<9007199254740992)(aA:0<cc.toInt)(U:0<tt.toInt)(aC:0<pp.toInt)(hle:(cc.toInt*pp.toInt)≤4503599627370496*tt.toInt)(pc:Addr)(kp:ClassId)(C:List Value)(E:Value)(SP:Sta Z Z.heap "java/math/BigInteger" "posConst" "[Ljava/math/BigInteger;" (.ref pc))(HP:uO Z pc kp C E)(zx w oa:Addr)(ko:ClassId)(SZ:Sta Z Z.heap "java/math/BigInteger" "ZERO" "Ljava/math/BigInteger;" (.ref zx))(EZ:Exa Z Z.heap zx "java/math/BigInteger")(FZ:Fld Z Z.heap zx "java/math/BigInteger" "signum" "I" (.int (0:Int32)))(hzx:zx<n0)(SO:Sta Z Z.heap "java/math/BigInteger" "ONE" "Ljava/math/BigInteger;" (.ref w))(bm:fY Z Z.heap w oa ko [(1:Int32)]):
  bp l (⟨"com/example/nuthatch/nuthatch/Arguments","requireFillMillis","(JJJ)J"⟩:MethodName) (Jvm.Cond.code (⟨"com/example/nuthatch/nuthatch/Arguments","requireFillMillis","(JJJ)J"⟩:MethodName) prog_1_method_4_code 8 (some .long)::ws) ({frames:=8,cells:=40,slots:=220,locals:=200}:Room) #[(.long cc),(.long tt),(.long pp)] Z h0 (Fh Z cc tt pp h0 n0):=by
 refine bI (plainFor_of_name Qj) (fun m=>Uu m cc tt pp) fun p e s m aD bn c s₁ hx aF bo br (aH:s.vm.findClass "com/example/nuthatch/nuthatch/Arguments"=some m.cls) hnm hret X0 hZ e0=> ?_
 have D:=fj aF DL
 have f:=bG hx aF DL aH hZ br hw
 have N0:=Fr.nil n0
 have KP:Keep h0 h0 []:=Keep.refl _ _
 refine eW 1 0 X0 f ?_
 refine bZ 4 1 0 2 8 1 22 23 24 25 X0 f (xK l Z a0 hw [] cc pc kp C E h0 n0 (Nat.le_trans Z0 KP.1) b bf aA SP HP) xI e0 fun _ bt cQ aK bu=> ?_
 obtain ⟨cx,I,K,rfl,bv,aL,M⟩:=bu
 have bx:=Fr.app N0 bv
 have b:=b.keep aL all0
 have KP:=KP.trans aL all0
 refine aJ [_] ?_
 refine aI 6 2 aK f ?_
 refine bZ 9 1 1 4 16 3 22 23 24 25 aK f (xK l Z a0 hw [] pp pc kp C E bt.heap n0 (Nat.le_trans Z0 KP.1) b bg aC SP HP) xI rfl fun _ y cR bz bA=> ?_
 obtain ⟨px,N,O,rfl,bB,V,aM⟩:=bA
 have bC:=Fr.app bx bB
 have b:=b.keep V all0
 have KP:=KP.trans V all0
 have M:=M.keep V nin0 nin0
 refine aJ [_,_] ?_
 have aN:=M.exa
 have hM:bp l (⟨"java/math/BigInteger","multiply","(Ljava/math/BigInteger;ZZI)Ljava/math/BigInteger;"⟩:MethodName) [Jvm.Cond.code (⟨"java/math/BigInteger","multiply","(Ljava/math/BigInteger;ZZI)Ljava/math/BigInteger;"⟩:MethodName) jdk_2097_method_42_code 9 (some (.object "java/math/BigInteger"))] ({frames:=4,cells:=3,slots:=22,locals:=110}:Room) #[(.ref cx),(.ref px),(.int (0:Int32)),(.int (0:Int32)),(.int (0:Int32))] Z y.heap (lY Z (fun h x a k=>jC Z h x a k (cc.toInt*pp.toInt) 4) y.heap n0):=by
  rcases M with ⟨c0,BC,F,ec⟩|⟨c0,c1,BC,F,ec⟩
  ·rcases aM with ⟨d0,BP,z,ed⟩|⟨d0,d1,BP,z,ed⟩
   ·exact oQ (VY l Z a0 hw [] cx I K c0 px N O d0 y.heap n0 (Nat.le_trans Z0 KP.1) b BC BP F z) (fun v h L ⟨x,a,k,e1,e2,e3,e4⟩=>⟨x,a,k,e1,e2,e3,by rw[ec,ed];exact e4.elim (fun q=>tW q (by omega)) (fun q=>rJ q (by omega))⟩)
   ·exact oQ (VZ l Z a0 hw [] cx I K c0 px N O d0 d1 y.heap n0 (Nat.le_trans Z0 KP.1) b BC BP F z) (fun v h L ⟨x,a,k,e1,e2,e3,e4⟩=>⟨x,a,k,e1,e2,e3,by rw[ec,ed];exact e4.elim (fun q=>rJ q (by omega)) (fun q=>yX q (by omega))⟩)
  ·rcases aM with ⟨d0,BP,z,ed⟩|⟨d0,d1,BP,z,ed⟩
   ·exact oQ (V2 l Z a0 hw [] cx I K c0 c1 px N O d0 y.heap n0 (Nat.le_trans Z0 KP.1) b BC BP F z) (fun v h L ⟨x,a,k,e1,e2,e3,e4⟩=>⟨x,a,k,e1,e2,e3,by rw[ec,ed];exact e4.elim (fun q=>rJ q (by omega)) (fun q=>yX q (by omega))⟩)
   ·exact oQ (V3 l Z a0 hw [] cx I K c0 c1 px N O d0 d1 y.heap n0 (Nat.le_trans Z0 KP.1) b BC BP F z) (fun v h L ⟨x,a,k,e1,e2,e3,e4⟩=>⟨x,a,k,e1,e2,e3,by rw[ec,ed];exact e4.elim (fun q=>yX q (by omega)) (fun q=>Kd q (by omega))⟩)
 refine jQ 12 1 0 7 38 4 28 29 31 30 24 32 bz f (V4 l Z a0 hw [] cx px (fun h x a k=>jC Z h x a k (cc.toInt*pp.toInt) 4) y.heap n0 (Nat.le_trans Z0 KP.1) b aN hM) Ei rfl aN fun _ aO cS aP bE=> ?_
 obtain ⟨mx,aQ,aS,rfl,bF,aT,G⟩:=bE
 have bH:=Fr.app bC bF
 have b:=b.keep aT all0
 have KP:=KP.trans aT all0
 refine aJ [_] ?_
 have G:jC Z aO.heap mx aQ aS (cc.toInt*pp.toInt) 4:=G
 refine eW 13 5 aP f ?_
 refine bZ 16 1 1 9 46 6 22 23 24 25 aP f (xK l Z a0 hw [] tt pc kp C E aO.heap n0 (Nat.le_trans Z0 KP.1) b ax U SP HP) xI rfl fun _ aU cT bK bN=> ?_
 obtain ⟨tx,aV,aX,rfl,bP,W,bS⟩:=bN
 have bV:=Fr.app bH bP
 have b:=b.keep W all0
 have KP:=KP.trans W all0
 have G:=G.keep W nin0 nin0
 refine aJ [_,_] ?_
 obtain ⟨cn,fa,n,X,bX,b0,b5,b6,hcn,h1n,hn4,ha0,hva⟩:=id G
 obtain ⟨dn,ft,nd,b7,b8,aZ,a5,b9,hdn,b_,hd2,ht0,hvt⟩:=Ke bS
 refine jQ 19 1 0 23 126 7 90 91 93 92 24 94 bK f (XZ l Z a0 hw [] mx tx (aY fa n) (aY ft nd) aU.heap n0 (Nat.le_trans Z0 KP.1) b aV aX dn ft nd X aZ a5 hdn hd2 (XY l Z a0 hw [] mx tx fa ft n nd aU.heap n0 (Nat.le_trans Z0 KP.1) b zx cn dn aQ aV aS aX X bX b0 b5 b6 b7 b8 aZ a5 b9 hcn hdn h1n hn4 b_ hd2 ha0 ht0 (Kf hvt ax.2) (by rw[hva,hvt];exact hle) SZ EZ FZ hzx)) Ed rfl X fun _ B cU H b'=> ?_
 obtain ⟨ar,cV,xq,Y,xr,sg,rfl,ca,a6,ad,A,cb,cd,hsg⟩:=b'
 have ce:=Fr.app bV ca
 have b:=b.keep a6 all0
 have KP:=KP.trans a6 all0
 refine aJ [_] ?_
 rw[hva,hvt] at A hsg
 have hA0:0<(cc.toInt*pp.toInt):=Int.mul_pos aA aC
 refine gY 21 8 #[_,_,_,_,_,_,_,_] H f ?_
 refine aR 23 9 H f ?_
 refine aB 24 10 1 H f ?_
 obtain ⟨cW,ae,-,a7,-,cg,-⟩:=id ad
 refine aG (mkF m 25 #[.val (.long cc),.second,.val (.long tt),.second,.val (.long pp),.second,rv ar,.unset] [(.ref xr)]) (H.aaload hx (j:=(1:Int32)) (v:=(.ref xr)) ae.1 (State.isArrayOf_alike hZ.alike ae.2.1) rfl ae.2.2 (inb_of a7 ⟨by decide,by decide⟩) (cg.at (inb_of a7 ⟨by decide,by decide⟩) rfl) (g:=(mkF m 24 #[.val (.long cc),.second,.val (.long tt),.second,.val (.long pp),.second,rv ar,.unset] [(.int (1:Int32)),(.ref ar)])) rfl rfl (D 11 rfl)) ?_
 refine jQ 28 0 0 23 126 12 160 161 163 162 24 164 H f (WI l Z a0 hw [] xr sg B.heap n0 (Nat.le_trans Z0 KP.1) b cd) DY rfl cb fun _ cX cY o ci=> ?_
 obtain ⟨rfl,cj,P⟩:=ci
 have a8:=Fr.app ce cj
 refine aJ [_] ?_
 have J: ∀(T_:State) (Q:Heap) (L_:List Loc) (fx fb:Addr) (fk:ClassId) (rr:Int),Stand p l e ({frames:=8,cells:=40,slots:=220,locals:=200}:Room) s m #[(.long cc),(.long tt),(.long pp)] aD bn c T_ L_ 26 136→T_.heap=Q→Fr n0 L_→Old Z n0 Q→Keep h0 Q []→jC Z Q fx fb fk rr 2→rO (cc.toInt*pp.toInt) tt.toInt rr→ay p e aD (gb s (Fh Z cc tt pp h0 n0) ({frames:=8,cells:=40,slots:=220,locals:=200}:Room).cells ({frames:=8,cells:=40,slots:=220,locals:=200}:Room).slots) T_ (mkF m 48 #[.val (.long cc),.second,.val (.long tt),.second,.val (.long pp),.second,rv ar,.unset] [(.ref fx)]):=by
  intro cZ ck c2 fx fb fk rr R cl cm b KP FB i
  refine gY 50 23 #[_,_,_,_,_,_,_,_] R f ?_
  refine aR 52 24 R f ?_
  refine bO 55 171 25 R f ?_
  refine bZ 58 1 1 28 144 26 22 23 24 25 R f (xK l Z a0 hw [] (4503599627370496:Int64) pc kp C E ck n0 (Nat.le_trans Z0 KP.1) b ⟨by decide,by decide⟩ (by decide) SP HP) xI cl fun _ u c3 co cp=> ?_
  obtain ⟨S,a_,a',rfl,cq,ag,bb⟩:=cp
  have cr:=Fr.app cm cq
  have b:=b.keep ag all0
  have KP:=KP.trans ag all0
  have FB:=FB.keep ag nin0 nin0
  refine aJ [_,_] ?_
  have T:=CJ FB
  have ai:=T.exa
  have al:(4503599627370496:Int64).toInt=4503599627370496:=rfl
  have ct:bp l (⟨"java/math/BigInteger","compareMagnitude","(Ljava/math/BigInteger;)I"⟩:MethodName) [Jvm.Cond.code (⟨"java/math/BigInteger","compareMagnitude","(Ljava/math/BigInteger;)I"⟩:MethodName) jdk_2097_method_122_code 9 (some .int)] ({frames:=0,cells:=0,slots:=0,locals:=0}:Room) #[(.ref fx),(.ref S)] Z u.heap (uD Z rr 4503599627370496 u.heap n0):=by
   rcases bb with ⟨y0,BY,hy0,ey⟩|⟨y0,y1,BY,hy0,ey⟩
   ·rw[al] at ey;have:=aW y0;omega
   ·rcases T with ⟨w0,t,hw0,ex⟩|⟨w0,w1,t,hw0,ex⟩
    ·exact oQ (Ye l Z a0 hw [] fx fb fk w0 S a_ a' y0 y1 u.heap n0 (Nat.le_trans Z0 KP.1) b t BY hy0) (fun v h L ⟨r,e1,e2,e3,e4⟩=>⟨r,e1,e2,e3,by rw[ex,←al,ey];exact e4⟩)
    ·exact oQ (Yf l Z a0 hw [] fx fb fk w0 w1 S a_ a' y0 y1 u.heap n0 (Nat.le_trans Z0 KP.1) b t BY hy0) (fun v h L ⟨r,e1,e2,e3,e4⟩=>⟨r,e1,e2,e3,by rw[ex,←al,ey];exact e4⟩)
  refine jQ 61 1 0 28 144 27 172 173 175 174 24 176 co f (Yg l Z a0 hw [] fx S rr 4503599627370496 u.heap n0 (Nat.le_trans Z0 KP.1) b ai T.fs bb.fs ct) Eh rfl ai fun _ c4 c5 am cu=> ?_
  obtain ⟨rc,rfl,cv,cw,hC⟩:=cu
  have cy:=Fr.app cr cv
  refine aJ [_] ?_
  refine bk 81 28 am f rfl ((if0 _ _).trans (flt (Kj hC i.2.2.2)).2.2.2) ?_
  refine aR 83 36 am f ?_
  have hLV:bp l (⟨"java/math/BigInteger","longValue","()J"⟩:MethodName) [Jvm.Cond.code (⟨"java/math/BigInteger","longValue","()J"⟩:MethodName) jdk_2097_method_136_code 4 (some .long)] ({frames:=2,cells:=0,slots:=0,locals:=34}:Room) #[(.ref fx)] Z u.heap (Yh Z rr u.heap n0):=by
   rcases T with ⟨w0,t,hw0,ex⟩|⟨w0,w1,t,hw0,ex⟩
   ·exact oQ (WU l Z a0 hw [] fx fb fk w0 u.heap n0 (Nat.le_trans Z0 KP.1) b t) (fun v h L ⟨r,e1,e2,e3,e4⟩=>⟨r,e1,e2,e3,by rw[ex];exact e4⟩)
   ·exact oQ (Xf l Z a0 hw [] fx fb fk w0 w1 u.heap n0 (Nat.le_trans Z0 KP.1) b t (by have:=i.2.2.2;rw[ex] at this;omega)) (fun v h L ⟨r,e1,e2,e3,e4⟩=>⟨r,e1,e2,e3,by rw[ex];exact e4⟩)
  refine jQ 86 0 0 28 144 37 182 183 185 184 24 186 am f hLV Qf cw ai fun _ c6 c7 cz cA=> ?_
  obtain ⟨rl,rfl,cB,cC,hrl⟩:=cA
  have cD:=Fr.app cy cB
  refine aJ [_] ?_
  exact ou 38 cz f hret bo (by rw[cC];exact ⟨rl,rfl,cD,KP,by rw[hrl];exact i⟩)
 by_cases hs0:sg=(0:Int32)
 ·refine bw 31 13 o f rfl ((if0 _ _).trans (teq hs0).2) ?_
  refine aR 33 14 o f ?_
  refine aB 34 15 0 o f ?_
  obtain ⟨c8,ao,-,bd,-,cE,-⟩:=id ad
  refine aG (mkF m 35 #[.val (.long cc),.second,.val (.long tt),.second,.val (.long pp),.second,rv ar,.unset] [(.ref xq)]) (o.aaload hx (j:=(0:Int32)) (v:=(.ref xq)) (by rw[P];exact ao.1) (State.isArrayOf_alike hZ.alike ao.2.1) rfl ao.2.2 (inb_of bd ⟨by decide,by decide⟩) (cE.at (inb_of bd ⟨by decide,by decide⟩) rfl) (g:=(mkF m 34 #[.val (.long cc),.second,.val (.long tt),.second,.val (.long pp),.second,rv ar,.unset] [(.int (0:Int32)),(.ref ar)])) rfl rfl (D 16 rfl)) ?_
  refine bL 48 17 o f ?_
  have i:=Kg U hA0 hle (hsg.mp hs0)
  obtain ⟨fk,FB⟩:=CP A (by have:=i.2.2.1;omega) (by have:=i.2.2.2;omega)
  exact J _ _ _ xq Y fk _ (Kl o (by decide) (by decide)) P a8 b KP FB i
 ·refine bk 38 13 o f rfl ((if0 _ _).trans (feq hs0).2) ?_
  refine aR 40 18 o f ?_
  refine aB 41 19 0 o f ?_
  obtain ⟨c9,av,-,be,-,cF,-⟩:=id ad
  refine aG (mkF m 42 #[.val (.long cc),.second,.val (.long tt),.second,.val (.long pp),.second,rv ar,.unset] [(.ref xq)]) (o.aaload hx (j:=(0:Int32)) (v:=(.ref xq)) (by rw[P];exact av.1) (State.isArrayOf_alike hZ.alike av.2.1) rfl av.2.2 (inb_of be ⟨by decide,by decide⟩) (cF.at (inb_of be ⟨by decide,by decide⟩) rfl) (g:=(mkF m 41 #[.val (.long cc),.second,.val (.long tt),.second,.val (.long pp),.second,rv ar,.unset] [(.int (0:Int32)),(.ref ar)])) rfl rfl (D 20 rfl)) ?_
  obtain ⟨c_,cG,cH,cI⟩:=getS2 o hx hZ aH (host:="") (Or.inl (aj hw 165 rfl)) Via.refl P (SO.ext b.2) (g:=(mkF m 42 #[.val (.long cc),.second,.val (.long tt),.second,.val (.long pp),.second,rv ar,.unset] [(.ref xq)])) rfl (D 21 rfl)
  refine aG (mkF m 45 #[.val (.long cc),.second,.val (.long tt),.second,.val (.long pp),.second,rv ar,.unset] [(.ref w),(.ref xq)]) cI ?_
  have i:=Kh U hA0 hle (fun q=>hs0 (hsg.mpr q))
  have BO:=bm.ext b.2
  have cJ:=A.1
  have cK:bp l (⟨"java/math/BigInteger","add","(Ljava/math/BigInteger;)Ljava/math/BigInteger;"⟩:MethodName) [Jvm.Cond.code (⟨"java/math/BigInteger","add","(Ljava/math/BigInteger;)Ljava/math/BigInteger;"⟩:MethodName) jdk_2097_method_32_code 4 (some (.object "java/math/BigInteger"))] ({frames:=3,cells:=3,slots:=10,locals:=74}:Room) #[(.ref xq),(.ref w)] Z B.heap (lY Z (fun h x a k=>jC Z h x a k ((cc.toInt*pp.toInt)/tt.toInt+1) 2) B.heap n0):=by
   by_cases hV0:(cc.toInt*pp.toInt)/tt.toInt=0
   ·refine oQ (Yb l Z a0 hw [] xq w (fun h x a k=>jC Z h x a k ((cc.toInt*pp.toInt)/tt.toInt+1) 2) B.heap n0 (Nat.le_trans Z0 KP.1) b oa ko (Kk A hV0) BO.2.1 ?_) (fun v h L q=>q)
    rw[hV0];exact tW ⟨1,BO,by decide,rfl⟩ (by omega)
   ·obtain ⟨k,QN⟩:=CP A (by have:=i.2.2.1;omega) (by have:=i.2.2.2;omega)
    rcases CJ QN with ⟨w0,t,hw0,ex⟩|⟨w0,w1,t,hw0,ex⟩
    ·exact oQ (Yc l Z a0 hw [] xq w Y oa k ko w0 B.heap n0 (Nat.le_trans Z0 KP.1) b t BO) (fun v h L ⟨x,a,k,e1,e2,e3,e4⟩=>⟨x,a,k,e1,e2,e3,by rw[ex];exact e4.elim (fun q=>tW q (by omega)) (fun q=>rJ q (by omega))⟩)
    ·exact oQ (Yd l Z a0 hw [] xq w Y oa k ko w0 w1 B.heap n0 (Nat.le_trans Z0 KP.1) b t BO hw0 (by have:=i.2.2.2;rw[ex] at this;omega)) (fun v h L ⟨x,a,k,e1,e2,e3,e4⟩=>⟨x,a,k,e1,e2,e3,by rw[ex];exact e4.elim (fun q=>tW q (by omega)) (fun q=>rJ q (by omega))⟩)
  refine jQ 48 1 0 26 136 22 166 167 169 168 24 170 cG f cK Ei cH cJ fun _ cL c' cM cN=> ?_
  obtain ⟨fx,fb,fk,rfl,cO,aw,FB⟩:=cN
  have cP:=Fr.app a8 cO
  have b:=b.keep aw all0
  have KP:=KP.trans aw all0
  have A:=A.keep aw nin0 nin0
  refine aJ [_] ?_
  have FB:jC Z cL.heap fx fb fk ((cc.toInt*pp.toInt)/tt.toInt+1) 2:=FB
  exact J _ _ _ fx fb fk _ cM rfl cP b KP FB i
def Fk (Z:State)(ca ta pa:Int64)(sw:Int32)(pc:Addr)(kp:ClassId)(a:List Value)(b:Value)(zx c oa:Addr)(ko:ClassId)(h0:Heap)(n0:Nat)(v:Option Value)(h:Heap)(L:List Loc):Prop:=v=some (.int 1)∧Fr n0 L
theorem Yj (l:Launch)(Z:State)(a0:Array Value)(hw: ∀d∈tables_1,d.before a0 Z=true)(ws:List Jvm.Cond)(ca ta pa:Int64)(sw:Int32)(pc:Addr)(kp:ClassId)(u:List Value)(v:Value)(zx r oa:Addr)(ko:ClassId)(h0:Heap)(n0:Nat)(Z0:n0≤h0.size)(j:Old Z n0 h0)(SP:Sta Z Z.heap "java/math/BigInteger" "posConst" "[Ljava/math/BigInteger;" (.ref pc))(HP:uO Z pc kp u v)(SZ:Sta Z Z.heap "java/math/BigInteger" "ZERO" "Ljava/math/BigInteger;" (.ref zx))(I:Exa Z Z.heap zx "java/math/BigInteger")(J:Fld Z Z.heap zx "java/math/BigInteger" "signum" "I" (.int (0:Int32)))(hzx:zx<n0)(SO:Sta Z Z.heap "java/math/BigInteger" "ONE" "Ljava/math/BigInteger;" (.ref r))(K:fY Z Z.heap r oa ko [(1:Int32)]):
  bp l x (Jvm.Cond.code x code maxLocals ret::ws) room_1 #[(.long ca),(.long ta),(.long pa),(.int sw)] Z h0 (Fk Z ca ta pa sw pc kp u v zx r oa ko h0 n0):=by
 refine MetFree.of_bodySF (plainFor_of_name xJ) hisR ?_
 intro p e s m args L B c s₁ Bd hml0 hP hK
 obtain ⟨rfl,hZ,hh⟩:=hP
 have C:=Bd.returns
 have hx:=Bd.exec
 have a:=Bd.bytes
 have D:B.locks=false:=BodyLoose.notSynchronized Bd
 have n:c.maxLocals=15:=hml0
 have f:s.vm.findClass "com/example/nuthatch/nuthatch/ArgumentsRequireFillMillisPinLaw"=some m.cls:=findClass_of_methodNamed Bd.named
 have aX:=(name_of_methodNamed Bd.named Bd.method).1
 have X0:Stand p l e room_1 s m #[(.long ca),(.long ta),(.long pa),(.int sw)] L B c s₁ [] 0 0:=Stand.of_body Bd
 have e0:s₁.heap=h0:=by rw[←hh,Bd.state];rfl
 have N0:=Fr.nil n0
 have KP:Keep h0 h0 []:=Keep.refl _ _
 refine zI (Fin:=(gb s (Fk Z ca ta pa sw pc kp u v zx r oa ko h0 n0) room_1.cells room_1.slots)) (zJ (mkF m 0 #[.val (.long ca),.second,.val (.long ta),.second,.val (.long pa),.second,iv sw,.unset,.unset,.unset,.unset,.unset,.unset,.unset,.unset] []) (castTop (Uv m ca ta pa sw)) ?_)
 refine r_ 1 1 X0 hx (hb a at_0) rfl rfl ?_
 refine zQ 2 X0 hx (hb a at_1) rfl rfl ?_
 refine sj 5 X0 hx f (mvT hZ (aj hw 0 rfl)) (hb a at_2) rfl ?_
 refine xY 6 X0 hx (hb a at_5) rfl rfl ?_
 refine xV 8 X0 hx (hb a at_6) rfl rfl ?_
 refine rY 10 63 X0 hx (hb a at_8) rfl rfl ?_
 refine xW 11 X0 hx (hb a at_10) rfl rfl ?_
 refine xZ 12 X0 hx (hb a at_11) rfl rfl ?_
 obtain ⟨_,aZ,a5,h,M,N⟩:=qg X0 hx f (mvT hZ (aj hw 1 rfl)) (mvT hZ (aj hw 2 rfl)) (mvT hZ (aj hw 3 rfl)) (mvT hZ (aj hw 4 rfl)) (by decide) (backOf (W:=0) (zn l Z a0 hw [] (1:Int64) (((ca&&&(9007199254740991:Int64)).toUInt64>>>((sw&&&(63:Int32))&&&0x3f).toInt64.toUInt64).toInt64) h0 n0 (Nat.le_trans Z0 KP.1) j) hZ (aj hw 4 rfl) (aj hw 3 rfl) (by decide) (by decide)) (g:=(mkF m 12 #[.val (.long ca),.second,.val (.long ta),.second,.val (.long pa),.second,iv sw,.unset,.unset,.unset,.unset,.unset,.unset,.unset,.unset] [(.long (((ca&&&(9007199254740991:Int64)).toUInt64>>>((sw&&&(63:Int32))&&&0x3f).toInt64.toUInt64).toInt64)),(.long (1:Int64))])) rfl (by rw[n];rfl) (argsL:= [(.long (1:Int64)),(.long (((ca&&&(9007199254740991:Int64)).toUInt64>>>((sw&&&(63:Int32))&&&0x3f).toInt64.toUInt64).toInt64))]) (rest:= []) (lenOf qY rfl) rfl (by show 2*0+_≤_;exact Nat.le_of_eq rfl) (hb a at_12) rfl e0 (kc:=0) (ks:=0) rfl rfl (by decide) (by decide)
 obtain ⟨cc,rfl,O,P,Q⟩:=M
 have R:=Fr.app N0 O
 refine aG (mkF m 15 #[.val (.long ca),.second,.val (.long ta),.second,.val (.long pa),.second,iv sw,.unset,.unset,.unset,.unset,.unset,.unset,.unset,.unset] [(.long cc)]) N ?_
 obtain ⟨w,S⟩:=zf Q (yY (zd _))
 refine mY 17 #[.val (.long ca),.second,.val (.long ta),.second,.val (.long pa),.second,iv sw,.val (.long cc),.second,.unset,.unset,.unset,.unset,.unset,.unset] h hx (hb a at_15) rfl rfl ?_
 refine r_ 18 1 h hx (hb a at_17) rfl rfl ?_
 refine zQ 19 h hx (hb a at_18) rfl rfl ?_
 refine sj 22 h hx f (mvT hZ (aj hw 0 rfl)) (hb a at_19) rfl ?_
 refine xY 23 h hx (hb a at_22) rfl rfl ?_
 refine xV 25 h hx (hb a at_23) rfl rfl ?_
 refine rY 27 6 h hx (hb a at_25) rfl rfl ?_
 refine zP 28 h hx (hb a at_27) rfl rfl ?_
 refine rY 30 63 h hx (hb a at_28) rfl rfl ?_
 refine xW 31 h hx (hb a at_30) rfl rfl ?_
 refine xZ 32 h hx (hb a at_31) rfl rfl ?_
 obtain ⟨_,a6,a7,i,T,U⟩:=qg h hx f (mvT hZ (aj hw 1 rfl)) (mvT hZ (aj hw 2 rfl)) (mvT hZ (aj hw 3 rfl)) (mvT hZ (aj hw 4 rfl)) (by decide) (backOf (W:=0) (zn l Z a0 hw [] (1:Int64) (((ta&&&(9007199254740991:Int64)).toUInt64>>>((((sw.toUInt32>>>((6:Int32)&&&31).toUInt32).toInt32)&&&(63:Int32))&&&0x3f).toInt64.toUInt64).toInt64) h0 n0 (Nat.le_trans Z0 KP.1) j) hZ (aj hw 4 rfl) (aj hw 3 rfl) (by decide) (by decide)) (g:=(mkF m 32 #[.val (.long ca),.second,.val (.long ta),.second,.val (.long pa),.second,iv sw,.val (.long cc),.second,.unset,.unset,.unset,.unset,.unset,.unset] [(.long (((ta&&&(9007199254740991:Int64)).toUInt64>>>((((sw.toUInt32>>>((6:Int32)&&&31).toUInt32).toInt32)&&&(63:Int32))&&&0x3f).toInt64.toUInt64).toInt64)),(.long (1:Int64))])) rfl (by rw[n];rfl) (argsL:= [(.long (1:Int64)),(.long (((ta&&&(9007199254740991:Int64)).toUInt64>>>((((sw.toUInt32>>>((6:Int32)&&&31).toUInt32).toInt32)&&&(63:Int32))&&&0x3f).toInt64.toUInt64).toInt64))]) (rest:= []) (lenOf qY rfl) rfl (by show 2*0+_≤_;exact Nat.le_of_eq rfl) (hb a at_32) rfl P (kc:=0) (ks:=0) rfl rfl (by decide) (by decide)
 obtain ⟨tt,rfl,V,X,Y⟩:=T
 have ad:=Fr.app R V
 refine aG (mkF m 35 #[.val (.long ca),.second,.val (.long ta),.second,.val (.long pa),.second,iv sw,.val (.long cc),.second,.unset,.unset,.unset,.unset,.unset,.unset] [(.long tt)]) U ?_
 obtain ⟨y,ae⟩:=zf Y (yY (zd _))
 refine mY 37 #[.val (.long ca),.second,.val (.long ta),.second,.val (.long pa),.second,iv sw,.val (.long cc),.second,.val (.long tt),.second,.unset,.unset,.unset,.unset] i hx (hb a at_35) rfl rfl ?_
 refine r_ 38 1 i hx (hb a at_37) rfl rfl ?_
 refine kg 40 i hx (hb a at_38) rfl rfl ?_
 refine sj 43 i hx f (mvT hZ (aj hw 0 rfl)) (hb a at_40) rfl ?_
 refine xY 44 i hx (hb a at_43) rfl rfl ?_
 refine xV 46 i hx (hb a at_44) rfl rfl ?_
 refine rY 48 12 i hx (hb a at_46) rfl rfl ?_
 refine zP 49 i hx (hb a at_48) rfl rfl ?_
 refine rY 51 63 i hx (hb a at_49) rfl rfl ?_
 refine xW 52 i hx (hb a at_51) rfl rfl ?_
 refine xZ 53 i hx (hb a at_52) rfl rfl ?_
 obtain ⟨_,a8,a9,o,af,ag⟩:=qg i hx f (mvT hZ (aj hw 1 rfl)) (mvT hZ (aj hw 2 rfl)) (mvT hZ (aj hw 3 rfl)) (mvT hZ (aj hw 4 rfl)) (by decide) (backOf (W:=0) (zn l Z a0 hw [] (1:Int64) (((pa&&&(9007199254740991:Int64)).toUInt64>>>((((sw.toUInt32>>>((12:Int32)&&&31).toUInt32).toInt32)&&&(63:Int32))&&&0x3f).toInt64.toUInt64).toInt64) h0 n0 (Nat.le_trans Z0 KP.1) j) hZ (aj hw 4 rfl) (aj hw 3 rfl) (by decide) (by decide)) (g:=(mkF m 53 #[.val (.long ca),.second,.val (.long ta),.second,.val (.long pa),.second,iv sw,.val (.long cc),.second,.val (.long tt),.second,.unset,.unset,.unset,.unset] [(.long (((pa&&&(9007199254740991:Int64)).toUInt64>>>((((sw.toUInt32>>>((12:Int32)&&&31).toUInt32).toInt32)&&&(63:Int32))&&&0x3f).toInt64.toUInt64).toInt64)),(.long (1:Int64))])) rfl (by rw[n];rfl) (argsL:= [(.long (1:Int64)),(.long (((pa&&&(9007199254740991:Int64)).toUInt64>>>((((sw.toUInt32>>>((12:Int32)&&&31).toUInt32).toInt32)&&&(63:Int32))&&&0x3f).toInt64.toUInt64).toInt64))]) (rest:= []) (lenOf qY rfl) rfl (by show 2*0+_≤_;exact Nat.le_of_eq rfl) (hb a at_53) rfl X (kc:=0) (ks:=0) rfl rfl (by decide) (by decide)
 obtain ⟨pp,rfl,ai,al,am⟩:=af
 have ao:=Fr.app ad ai
 refine aG (mkF m 56 #[.val (.long ca),.second,.val (.long ta),.second,.val (.long pa),.second,iv sw,.val (.long cc),.second,.val (.long tt),.second,.unset,.unset,.unset,.unset] [(.long pp)]) ag ?_
 obtain ⟨z,av⟩:=zf am (yY (zd _))
 refine mY 58 #[.val (.long ca),.second,.val (.long ta),.second,.val (.long pa),.second,iv sw,.val (.long cc),.second,.val (.long tt),.second,.val (.long pp),.second,.unset,.unset] o hx (hb a at_56) rfl rfl ?_
 refine kg 60 o hx (hb a at_58) rfl rfl ?_
 refine kg 62 o hx (hb a at_60) rfl rfl ?_
 refine sj 65 o hx f (mvT hZ (aj hw 5 rfl)) (hb a at_62) rfl ?_
 refine kg 67 o hx (hb a at_65) rfl rfl ?_
 obtain ⟨_,a_,a',k,aw,ax⟩:=qg o hx f (mvT hZ (aj hw 6 rfl)) (mvT hZ (aj hw 7 rfl)) (mvT hZ (aj hw 8 rfl)) (mvT hZ (aj hw 9 rfl)) (by decide) (backOf (W:=0) (zo l Z a0 hw [] cc pp (4503599627370496:Int64) tt h0 n0 (Nat.le_trans Z0 KP.1) j w z ⟨by decide,by decide⟩ y) hZ (aj hw 9 rfl) (aj hw 8 rfl) (by decide) (by decide)) (g:=(mkF m 67 #[.val (.long ca),.second,.val (.long ta),.second,.val (.long pa),.second,iv sw,.val (.long cc),.second,.val (.long tt),.second,.val (.long pp),.second,.unset,.unset] [(.long tt),(.long (4503599627370496:Int64)),(.long pp),(.long cc)])) rfl (by rw[n];rfl) (argsL:= [(.long cc),(.long pp),(.long (4503599627370496:Int64)),(.long tt)]) (rest:= []) (lenOf zk rfl) rfl (by show 2*0+_≤_;exact Nat.le_of_eq rfl) (hb a at_67) rfl al (kc:=0) (ks:=0) rfl rfl (by decide) (by decide)
 obtain ⟨k1,rfl,aA,E,C1⟩:=aw
 have F:=Fr.app ao aA
 refine aG (mkF m 70 #[.val (.long ca),.second,.val (.long ta),.second,.val (.long pa),.second,iv sw,.val (.long cc),.second,.val (.long tt),.second,.val (.long pp),.second,.unset,.unset] [(.int k1)]) ax ?_
 by_cases hg:(0:Int32)<k1
 ·refine uF 73 k hx (hb a at_70) ((if0 _ _).trans (tlt hg).2.2.2) rfl ?_
  refine zO 74 1 k hx (hb a at_73) rfl rfl ?_
  exact uE k hx (t:= .boolean) C (by simp) D (hb a at_74) (by decide) (by decide) (by rw[E];exact ⟨rfl,F⟩)
 ·refine zS 75 k hx (hb a at_70) ((if0 _ _).trans (flt hg).2.2.2) (by decide) (by decide) ?_
  have hle:=Km C1 hg
  refine kg 77 k hx (hb a at_75) rfl rfl ?_
  refine kg 79 k hx (hb a at_77) rfl rfl ?_
  refine kg 81 k hx (hb a at_79) rfl rfl ?_
  obtain ⟨_,G,bb,b,aC,aD⟩:=qg k hx f (mvT hZ (aj hw 18 rfl)) (mvT hZ (aj hw 19 rfl)) (mvT hZ (aj hw 20 rfl)) (mvT hZ (aj hw 21 rfl)) (by decide) (backOf (W:=0) (Yi l Z a0 hw [] cc tt pp h0 n0 (Nat.le_trans Z0 KP.1) j w y z S ae av hle pc kp u v SP HP zx r oa ko SZ I J hzx SO K) hZ (aj hw 21 rfl) (aj hw 20 rfl) (by decide) (by decide)) (g:=(mkF m 81 #[.val (.long ca),.second,.val (.long ta),.second,.val (.long pa),.second,iv sw,.val (.long cc),.second,.val (.long tt),.second,.val (.long pp),.second,.unset,.unset] [(.long pp),(.long tt),(.long cc)])) rfl (by rw[n];rfl) (argsL:= [(.long cc),(.long tt),(.long pp)]) (rest:= []) (lenOf Qg rfl) rfl (by show 2*0+_≤_;exact Nat.le_of_eq rfl) (hb a at_81) rfl E (kc:=40) (ks:=220) rfl rfl (by decide) (by decide)
  obtain ⟨rr,rfl,aF,H,aH⟩:=aC
  have aK:=Fr.app F aF
  have j:=j.keep H all0
  have KP:=KP.trans H all0
  refine aG (mkF m 84 #[.val (.long ca),.second,.val (.long ta),.second,.val (.long pa),.second,iv sw,.val (.long cc),.second,.val (.long tt),.second,.val (.long pp),.second,.unset,.unset] [(.long rr)]) aD ?_
  obtain ⟨v1,v2,v3,v4⟩:=aH
  refine mY 86 #[.val (.long ca),.second,.val (.long ta),.second,.val (.long pa),.second,iv sw,.val (.long cc),.second,.val (.long tt),.second,.val (.long pp),.second,.val (.long rr),.second] b hx (hb a at_84) rfl rfl ?_
  refine kg 88 b hx (hb a at_86) rfl rfl ?_
  refine r_ 89 1 b hx (hb a at_88) rfl rfl ?_
  refine zR 90 b hx (hb a at_89) rfl ?_
  refine uF 93 b hx (hb a at_90) ((if0 _ _).trans (flt (Kq v3)).1) rfl ?_
  refine kg 95 b hx (hb a at_93) rfl rfl ?_
  refine sj 98 b hx f (mvT hZ (aj hw 5 rfl)) (hb a at_95) rfl ?_
  refine zR 99 b hx (hb a at_98) rfl ?_
  refine zS 104 b hx (hb a at_99) ((if0 _ _).trans (flt (Kr v4)).2.2.2) (by decide) (by decide) ?_
  refine kg 106 b hx (hb a at_104) rfl rfl ?_
  refine r_ 107 1 b hx (hb a at_106) rfl rfl ?_
  refine Fv 108 b hx (hb a at_107) rfl rfl ?_
  refine kg 110 b hx (hb a at_108) rfl rfl ?_
  refine kg 112 b hx (hb a at_110) rfl rfl ?_
  refine kg 114 b hx (hb a at_112) rfl rfl ?_
  have e1:=Kt v3 v4
  obtain ⟨_,bd,be,q,aL,aM⟩:=qg b hx f (mvT hZ (aj hw 6 rfl)) (mvT hZ (aj hw 7 rfl)) (mvT hZ (aj hw 8 rfl)) (mvT hZ (aj hw 9 rfl)) (by decide) (backOf (W:=0) (zo l Z a0 hw [] (rr-(1:Int64)) tt cc pp G.heap n0 (Nat.le_trans Z0 KP.1) j (by omega) y w z) hZ (aj hw 9 rfl) (aj hw 8 rfl) (by decide) (by decide)) (g:=(mkF m 114 #[.val (.long ca),.second,.val (.long ta),.second,.val (.long pa),.second,iv sw,.val (.long cc),.second,.val (.long tt),.second,.val (.long pp),.second,.val (.long rr),.second] [(.long pp),(.long cc),(.long tt),(.long (rr-(1:Int64)))])) rfl (by rw[n];rfl) (argsL:= [(.long (rr-(1:Int64))),(.long tt),(.long cc),(.long pp)]) (rest:= []) (lenOf zk rfl) rfl (by show 2*0+_≤_;exact Nat.le_of_eq rfl) (hb a at_114) rfl rfl (kc:=40) (ks:=220) rfl rfl (by decide) (by decide)
  obtain ⟨k2,rfl,aN,aO,C2⟩:=aL
  have aP:=Fr.app aK aN
  refine aG (mkF m 117 #[.val (.long ca),.second,.val (.long ta),.second,.val (.long pa),.second,iv sw,.val (.long cc),.second,.val (.long tt),.second,.val (.long pp),.second,.val (.long rr),.second] [(.int k2)]) aM ?_
  refine uF 120 q hx (hb a at_117) ((if0 _ _).trans (tlt (Kn C2 (by rw[e1];exact v1))).2.1) rfl ?_
  refine kg 122 q hx (hb a at_120) rfl rfl ?_
  refine kg 124 q hx (hb a at_122) rfl rfl ?_
  refine kg 126 q hx (hb a at_124) rfl rfl ?_
  refine kg 128 q hx (hb a at_126) rfl rfl ?_
  obtain ⟨_,bf,bg,A,aQ,aS⟩:=qg q hx f (mvT hZ (aj hw 6 rfl)) (mvT hZ (aj hw 7 rfl)) (mvT hZ (aj hw 8 rfl)) (mvT hZ (aj hw 9 rfl)) (by decide) (backOf (W:=0) (zo l Z a0 hw [] cc pp rr tt G.heap n0 (Nat.le_trans Z0 KP.1) j w z (by omega) y) hZ (aj hw 9 rfl) (aj hw 8 rfl) (by decide) (by decide)) (g:=(mkF m 128 #[.val (.long ca),.second,.val (.long ta),.second,.val (.long pa),.second,iv sw,.val (.long cc),.second,.val (.long tt),.second,.val (.long pp),.second,.val (.long rr),.second] [(.long tt),(.long rr),(.long pp),(.long cc)])) rfl (by rw[n];rfl) (argsL:= [(.long cc),(.long pp),(.long rr),(.long tt)]) (rest:= []) (lenOf zk rfl) rfl (by show 2*0+_≤_;exact Nat.le_of_eq rfl) (hb a at_128) rfl aO (kc:=40) (ks:=220) rfl rfl (by decide) (by decide)
  obtain ⟨k3,rfl,aT,aU,C3⟩:=aQ
  have aV:=Fr.app aP aT
  refine aG (mkF m 131 #[.val (.long ca),.second,.val (.long ta),.second,.val (.long pa),.second,iv sw,.val (.long cc),.second,.val (.long tt),.second,.val (.long pp),.second,.val (.long rr),.second] [(.int k3)]) aS ?_
  refine uF 134 A hx (hb a at_131) ((if0 _ _).trans (flt (Ko C3 v2)).2.2.1) rfl ?_
  refine zO 135 1 A hx (hb a at_134) rfl rfl ?_
  refine Fx 139 A hx (hb a at_135) (by decide) (by decide) ?_
  exact uE A hx (t:= .boolean) C (by simp) D (hb a at_139) (by decide) (by decide) (by rw[aU];exact ⟨rfl,aV⟩)
theorem Fm {Post:Tables→Env→Array Value→State→Outcome→State→Prop}(hpost: ∀tb e args s v u,(limb_1_1.after args s (.returned v) u=true∧limb_1_2.after args s (.returned v) u=true∧True)→FrameEnd s (.returned v) u (Jvm.fieldLocs frame_1_writes args s++Jvm.arrayLocs frame_1_arrays args s++Jvm.staticLocs frame_1_statics s) 64 256→Post tb e args s (.returned v) u):
  ArmFor flags0 classFile x code maxLocals ret World_1 tables_1 room_1 Calls_1 rest_1 Pre_1 Post:=by
 intro l hfl _ _ p e ha hc hk s m args M hf hA hF happ hP
 obtain ⟨hcalls,hrest,hpre⟩:=hP
 obtain ⟨-,-,-,hnamed,-,-,-,hat⟩:=(Spec.applies_iff hf).mp happ
 obtain ⟨hg,hn⟩:=and_e (Cond.before_iff.mp (show (Jvm.Cond.and given_1 narrow_1).before args s=true from hpre))
 obtain ⟨hg0,O⟩:=and_e hg
 obtain ⟨hg1,hgr1⟩:=and_e O
 obtain ⟨hg2,hgr2⟩:=and_e hgr1
 obtain ⟨hg3,P⟩:=and_e hgr2
 obtain ⟨w0,w1,w2,w3,rfl⟩: ∃w0 w1 w2 w3:Value,args= #[w0,w1,w2,w3]:=by
  have hs:args.size=4:=by simpa [Cond.value,given_1] using hg0
  obtain ⟨L⟩:=args
  match L,hs with
  | [w0,w1,w2,w3],_=>exact ⟨w0,w1,w2,w3,rfl⟩
 have hw:=fun d (hd:d∈tables_1)=>atoms_spec (ws:=Jvm.Cond.code x code maxLocals ret::tables_1) hat d (List.mem_cons_of_mem _ hd)
 have b:Fit s:=fun {y c} hc i hi=>by
  obtain ⟨ha,rfl⟩:=Array.getElem?_eq_some_iff.mp hc
  have q:=List.all_eq_true.mp ((Array.all_eq_true_iff_forall_mem.mp hF) _ (Array.getElem_mem ha)) i (List.mem_range.mpr hi)
  simpa [Array.getElem?_eq_getElem hi] using q
 obtain ⟨i0,Q⟩:=isL_v hg1
 obtain rfl:w0=(.long i0):=Option.some.inj Q
 obtain ⟨i1,R⟩:=isL_v hg2
 obtain rfl:w1=(.long i1):=Option.some.inj R
 obtain ⟨i2,S⟩:=isL_v hg3
 obtain rfl:w2=(.long i2):=Option.some.inj S
 obtain ⟨i3,T⟩:=is_v P
 obtain rfl:w3=(.int i3):=Option.some.inj T
 obtain ⟨a,bu⟩:=atoms_of _ (rest_1_c_eq▸(show rest_1_c.before _ s=true from hrest))
 obtain ⟨pa,f⟩:=exa_v (Cond.before_iff.mp (a _ (List.mem_of_getElem? (i:=9) rfl)))
 have SP:=Sta.start f (Or.inl (a _ (List.mem_of_getElem? (i:=1) rfl)))
 obtain ⟨U,V⟩:=Arr.start f (Cond.before_iff.mp (a _ (List.mem_of_getElem? (i:=8) rfl)))
 obtain ⟨y1,h⟩:=exa_v (Cond.before_iff.mp (a _ (List.mem_of_getElem? (i:=12) rfl)))
 obtain ⟨W,X,Y⟩:=lu b h (Cond.before_iff.mp (a _ (List.mem_of_getElem? (i:=12) rfl))) (Cond.before_iff.mp (a _ (List.mem_of_getElem? (i:=13) rfl))) (Cond.before_iff.mp (a _ (List.mem_of_getElem? (i:=14) rfl))) (Cond.before_iff.mp (a _ (List.mem_of_getElem? (i:=15) rfl))) (Cond.before_iff.mp (a _ (List.mem_of_getElem? (i:=16) rfl))) (Cond.before_iff.mp (a _ (List.mem_of_getElem? (i:=17) rfl)))
 obtain ⟨y2,j⟩:=exa_v (Cond.before_iff.mp (a _ (List.mem_of_getElem? (i:=19) rfl)))
 obtain ⟨Z,ad,ae⟩:=lu b j (Cond.before_iff.mp (a _ (List.mem_of_getElem? (i:=19) rfl))) (Cond.before_iff.mp (a _ (List.mem_of_getElem? (i:=20) rfl))) (Cond.before_iff.mp (a _ (List.mem_of_getElem? (i:=21) rfl))) (Cond.before_iff.mp (a _ (List.mem_of_getElem? (i:=22) rfl))) (Cond.before_iff.mp (a _ (List.mem_of_getElem? (i:=23) rfl))) (Cond.before_iff.mp (a _ (List.mem_of_getElem? (i:=24) rfl)))
 obtain ⟨y3,k⟩:=exa_v (Cond.before_iff.mp (a _ (List.mem_of_getElem? (i:=25) rfl)))
 obtain ⟨af,ag,ai⟩:=lu b k (Cond.before_iff.mp (a _ (List.mem_of_getElem? (i:=25) rfl))) (Cond.before_iff.mp (a _ (List.mem_of_getElem? (i:=26) rfl))) (Cond.before_iff.mp (a _ (List.mem_of_getElem? (i:=27) rfl))) (Cond.before_iff.mp (a _ (List.mem_of_getElem? (i:=28) rfl))) (Cond.before_iff.mp (a _ (List.mem_of_getElem? (i:=29) rfl))) (Cond.before_iff.mp (a _ (List.mem_of_getElem? (i:=30) rfl)))
 obtain ⟨y4,r⟩:=exa_v (Cond.before_iff.mp (a _ (List.mem_of_getElem? (i:=31) rfl)))
 obtain ⟨al,am,ao⟩:=lu b r (Cond.before_iff.mp (a _ (List.mem_of_getElem? (i:=31) rfl))) (Cond.before_iff.mp (a _ (List.mem_of_getElem? (i:=32) rfl))) (Cond.before_iff.mp (a _ (List.mem_of_getElem? (i:=33) rfl))) (Cond.before_iff.mp (a _ (List.mem_of_getElem? (i:=34) rfl))) (Cond.before_iff.mp (a _ (List.mem_of_getElem? (i:=35) rfl))) (Cond.before_iff.mp (a _ (List.mem_of_getElem? (i:=36) rfl)))
 obtain ⟨y5,t⟩:=exa_v (Cond.before_iff.mp (a _ (List.mem_of_getElem? (i:=37) rfl)))
 obtain ⟨av,aw,ax⟩:=lu b t (Cond.before_iff.mp (a _ (List.mem_of_getElem? (i:=37) rfl))) (Cond.before_iff.mp (a _ (List.mem_of_getElem? (i:=38) rfl))) (Cond.before_iff.mp (a _ (List.mem_of_getElem? (i:=39) rfl))) (Cond.before_iff.mp (a _ (List.mem_of_getElem? (i:=40) rfl))) (Cond.before_iff.mp (a _ (List.mem_of_getElem? (i:=41) rfl))) (Cond.before_iff.mp (a _ (List.mem_of_getElem? (i:=42) rfl)))
 obtain ⟨y6,w⟩:=exa_v (Cond.before_iff.mp (a _ (List.mem_of_getElem? (i:=43) rfl)))
 obtain ⟨aA,aC,aD⟩:=lu b w (Cond.before_iff.mp (a _ (List.mem_of_getElem? (i:=43) rfl))) (Cond.before_iff.mp (a _ (List.mem_of_getElem? (i:=44) rfl))) (Cond.before_iff.mp (a _ (List.mem_of_getElem? (i:=45) rfl))) (Cond.before_iff.mp (a _ (List.mem_of_getElem? (i:=46) rfl))) (Cond.before_iff.mp (a _ (List.mem_of_getElem? (i:=47) rfl))) (Cond.before_iff.mp (a _ (List.mem_of_getElem? (i:=48) rfl)))
 obtain ⟨y7,z⟩:=exa_v (Cond.before_iff.mp (a _ (List.mem_of_getElem? (i:=49) rfl)))
 obtain ⟨aF,aH,aK⟩:=lu b z (Cond.before_iff.mp (a _ (List.mem_of_getElem? (i:=49) rfl))) (Cond.before_iff.mp (a _ (List.mem_of_getElem? (i:=50) rfl))) (Cond.before_iff.mp (a _ (List.mem_of_getElem? (i:=51) rfl))) (Cond.before_iff.mp (a _ (List.mem_of_getElem? (i:=52) rfl))) (Cond.before_iff.mp (a _ (List.mem_of_getElem? (i:=53) rfl))) (Cond.before_iff.mp (a _ (List.mem_of_getElem? (i:=54) rfl)))
 obtain ⟨y8,A⟩:=exa_v (Cond.before_iff.mp (a _ (List.mem_of_getElem? (i:=55) rfl)))
 obtain ⟨aL,aM,aN⟩:=lu b A (Cond.before_iff.mp (a _ (List.mem_of_getElem? (i:=55) rfl))) (Cond.before_iff.mp (a _ (List.mem_of_getElem? (i:=56) rfl))) (Cond.before_iff.mp (a _ (List.mem_of_getElem? (i:=57) rfl))) (Cond.before_iff.mp (a _ (List.mem_of_getElem? (i:=58) rfl))) (Cond.before_iff.mp (a _ (List.mem_of_getElem? (i:=59) rfl))) (Cond.before_iff.mp (a _ (List.mem_of_getElem? (i:=60) rfl)))
 obtain ⟨y9,B⟩:=exa_v (Cond.before_iff.mp (a _ (List.mem_of_getElem? (i:=61) rfl)))
 obtain ⟨aO,aP,aQ⟩:=lu b B (Cond.before_iff.mp (a _ (List.mem_of_getElem? (i:=61) rfl))) (Cond.before_iff.mp (a _ (List.mem_of_getElem? (i:=62) rfl))) (Cond.before_iff.mp (a _ (List.mem_of_getElem? (i:=63) rfl))) (Cond.before_iff.mp (a _ (List.mem_of_getElem? (i:=64) rfl))) (Cond.before_iff.mp (a _ (List.mem_of_getElem? (i:=65) rfl))) (Cond.before_iff.mp (a _ (List.mem_of_getElem? (i:=66) rfl)))
 obtain ⟨y10,C⟩:=exa_v (Cond.before_iff.mp (a _ (List.mem_of_getElem? (i:=68) rfl)))
 obtain ⟨aS,aT,aU⟩:=lu b C (Cond.before_iff.mp (a _ (List.mem_of_getElem? (i:=68) rfl))) (Cond.before_iff.mp (a _ (List.mem_of_getElem? (i:=69) rfl))) (Cond.before_iff.mp (a _ (List.mem_of_getElem? (i:=70) rfl))) (Cond.before_iff.mp (a _ (List.mem_of_getElem? (i:=71) rfl))) (Cond.before_iff.mp (a _ (List.mem_of_getElem? (i:=72) rfl))) (Cond.before_iff.mp (a _ (List.mem_of_getElem? (i:=73) rfl)))
 obtain ⟨y11,D⟩:=exa_v (Cond.before_iff.mp (a _ (List.mem_of_getElem? (i:=74) rfl)))
 obtain ⟨aV,aX,aZ⟩:=lu b D (Cond.before_iff.mp (a _ (List.mem_of_getElem? (i:=74) rfl))) (Cond.before_iff.mp (a _ (List.mem_of_getElem? (i:=75) rfl))) (Cond.before_iff.mp (a _ (List.mem_of_getElem? (i:=76) rfl))) (Cond.before_iff.mp (a _ (List.mem_of_getElem? (i:=77) rfl))) (Cond.before_iff.mp (a _ (List.mem_of_getElem? (i:=78) rfl))) (Cond.before_iff.mp (a _ (List.mem_of_getElem? (i:=79) rfl)))
 obtain ⟨y12,E⟩:=exa_v (Cond.before_iff.mp (a _ (List.mem_of_getElem? (i:=80) rfl)))
 obtain ⟨a0,a5,a6⟩:=lu b E (Cond.before_iff.mp (a _ (List.mem_of_getElem? (i:=80) rfl))) (Cond.before_iff.mp (a _ (List.mem_of_getElem? (i:=81) rfl))) (Cond.before_iff.mp (a _ (List.mem_of_getElem? (i:=82) rfl))) (Cond.before_iff.mp (a _ (List.mem_of_getElem? (i:=83) rfl))) (Cond.before_iff.mp (a _ (List.mem_of_getElem? (i:=84) rfl))) (Cond.before_iff.mp (a _ (List.mem_of_getElem? (i:=85) rfl)))
 obtain ⟨y13,F⟩:=exa_v (Cond.before_iff.mp (a _ (List.mem_of_getElem? (i:=86) rfl)))
 obtain ⟨a7,a8,a9⟩:=lu b F (Cond.before_iff.mp (a _ (List.mem_of_getElem? (i:=86) rfl))) (Cond.before_iff.mp (a _ (List.mem_of_getElem? (i:=87) rfl))) (Cond.before_iff.mp (a _ (List.mem_of_getElem? (i:=88) rfl))) (Cond.before_iff.mp (a _ (List.mem_of_getElem? (i:=89) rfl))) (Cond.before_iff.mp (a _ (List.mem_of_getElem? (i:=90) rfl))) (Cond.before_iff.mp (a _ (List.mem_of_getElem? (i:=91) rfl)))
 obtain ⟨a_,G⟩:=exa_v (Cond.before_iff.mp (a _ (List.mem_of_getElem? (i:=92) rfl)))
 obtain ⟨a',bb,bd⟩:=lu b G (Cond.before_iff.mp (a _ (List.mem_of_getElem? (i:=92) rfl))) (Cond.before_iff.mp (a _ (List.mem_of_getElem? (i:=93) rfl))) (Cond.before_iff.mp (a _ (List.mem_of_getElem? (i:=94) rfl))) (Cond.before_iff.mp (a _ (List.mem_of_getElem? (i:=95) rfl))) (Cond.before_iff.mp (a _ (List.mem_of_getElem? (i:=96) rfl))) (Cond.before_iff.mp (a _ (List.mem_of_getElem? (i:=97) rfl)))
 obtain ⟨be,H⟩:=exa_v (Cond.before_iff.mp (a _ (List.mem_of_getElem? (i:=98) rfl)))
 obtain ⟨bf,bg,bj⟩:=lu b H (Cond.before_iff.mp (a _ (List.mem_of_getElem? (i:=98) rfl))) (Cond.before_iff.mp (a _ (List.mem_of_getElem? (i:=99) rfl))) (Cond.before_iff.mp (a _ (List.mem_of_getElem? (i:=100) rfl))) (Cond.before_iff.mp (a _ (List.mem_of_getElem? (i:=101) rfl))) (Cond.before_iff.mp (a _ (List.mem_of_getElem? (i:=102) rfl))) (Cond.before_iff.mp (a _ (List.mem_of_getElem? (i:=103) rfl)))
 obtain ⟨bl,I⟩:=exa_v (Cond.before_iff.mp (a _ (List.mem_of_getElem? (i:=104) rfl)))
 obtain ⟨bm,bn,bo⟩:=lu b I (Cond.before_iff.mp (a _ (List.mem_of_getElem? (i:=104) rfl))) (Cond.before_iff.mp (a _ (List.mem_of_getElem? (i:=105) rfl))) (Cond.before_iff.mp (a _ (List.mem_of_getElem? (i:=106) rfl))) (Cond.before_iff.mp (a _ (List.mem_of_getElem? (i:=107) rfl))) (Cond.before_iff.mp (a _ (List.mem_of_getElem? (i:=108) rfl))) (Cond.before_iff.mp (a _ (List.mem_of_getElem? (i:=109) rfl)))
 have HP:=Kw b V f (Cond.before_iff.mp (a _ (List.mem_of_getElem? (i:=10) rfl))) (Kx ⟨⟨y1,W,X,h,Y⟩,⟨y2,Z,ad,j,ae⟩,⟨y3,af,ag,k,ai⟩,⟨y4,al,am,r,ao⟩,⟨y5,av,aw,t,ax⟩,⟨y6,aA,aC,w,aD⟩,⟨y7,aF,aH,z,aK⟩,⟨y8,aL,aM,A,aN⟩,⟨y9,aO,aP,B,aQ⟩,⟨y10,aS,aT,C,aU⟩,⟨y11,aV,aX,D,aZ⟩,⟨y12,a0,a5,E,a6⟩,⟨y13,a7,a8,F,a9⟩,⟨a_,a',bb,G,bd⟩,⟨be,bf,bg,H,bj⟩,⟨bl,bm,bn,I,bo⟩⟩)
 obtain ⟨zx,g⟩:=exa_v (Cond.before_iff.mp (a _ (List.mem_of_getElem? (i:=112) rfl)))
 have SZ:=Sta.start g (Or.inl (a _ (List.mem_of_getElem? (i:=111) rfl)))
 have J:=Exa.start g (Cond.before_iff.mp (a _ (List.mem_of_getElem? (i:=112) rfl)))
 have FZ:=zM g (Cond.before_iff.mp (a _ (List.mem_of_getElem? (i:=113) rfl)))
 obtain ⟨ox,K⟩:=exa_v (Cond.before_iff.mp (a _ (List.mem_of_getElem? (i:=119) rfl)))
 have SO:=Sta.start K (Or.inl (a _ (List.mem_of_getElem? (i:=3) rfl)))
 obtain ⟨oa,ko,bt⟩:=lu b K (Cond.before_iff.mp (a _ (List.mem_of_getElem? (i:=119) rfl))) (Cond.before_iff.mp (a _ (List.mem_of_getElem? (i:=120) rfl))) (Cond.before_iff.mp (a _ (List.mem_of_getElem? (i:=121) rfl))) (Cond.before_iff.mp (a _ (List.mem_of_getElem? (i:=122) rfl))) (Cond.before_iff.mp (a _ (List.mem_of_getElem? (i:=123) rfl))) (Cond.before_iff.mp (a _ (List.mem_of_getElem? (i:=124) rfl)))
 obtain ⟨n,o,h1,h2,h3,_,L,rfl,⟨rfl,N⟩,hq⟩:=Yj l s _ hw tables_1 i0 i1 i2 i3 pa U.cls _ _ zx ox oa ko s.heap s.heap.size (Nat.le_refl _) (Old.start s) SP HP SZ J FZ J.lt SO bt p e ha hc hk s m _ M hf ((Spec.applies_iff_loose hf).mp happ).1 ⟨rfl,State.Warmed39.refl s,rfl⟩ trivial
 refine ⟨n,_,h1,h2,h3,hpost _ _ _ _ _ _ ⟨Cond.after_iff.mpr rfl,Cond.after_iff.mpr (eq_i res_at (Term.int_eval (1)) rfl),trivial⟩ ⟨hq.1,hq.2.1,(hq.2.2.sift fun y hy=>Or.inr (N y hy)).mono (by decide) (by decide)⟩⟩
theorem main_1_1:Claimed_1_1:=Fm fun _ _ _ _ _ _ h hF=>⟨h.1,hF⟩
theorem main_1_2:Claimed_1_2:=Fm fun _ _ _ _ _ _ h hF=>⟨h.2.1,hF⟩
end Jvm.Pilot.@@N@@
namespace Jvm.Pilot.@@N@@
open Jvm Jvm.ClassFile Sem Op Lib Jvm.Free Jvm.Stand Jvm.Pilot.@@N@@.Jvm.D
namespace start1
open Jvm.ClassFile
def u (s:String):CpInfo:= .utf8 (stringToUtf16 s)
def gap:Nat→List CpInfo→List CpInfo
 |0,r=>r
 |n+1,r=> .unusable::gap n r
def poolList (es:List (Nat×CpInfo))(last:Nat):List CpInfo:=es.foldr (fun e r=>gap e.1 (e.2::r)) (gap last [])
def pool (es:List (Nat×CpInfo))(last:Nat):Array CpInfo:=⟨poolList es last⟩
def fileOf (pool:Array CpInfo)(this:Nat)(attrs:Array Attribute:= #[])(ms:Array MethodInfo:= #[])(fl:Nat:=33)(sup:Nat:=0)(ifs:Array Nat:= #[])(fds:Array FieldInfo:= #[]):ClassFile where
 minorVersion:=0
 majorVersion:=65
 constantPool:=pool
 accessFlags:=fl
 thisClass:=this
 superClass:=sup
 interfaces:=ifs
 fields:=fds
 methods:=ms
 attributes:=attrs
def plain (name:String)(sup:Option ClassId):Class where
 name:=name
 kind:= .ordinary
 loader:=none
 accessFlags:=33
 super:=sup
 interfaces:= #[]
 cf:=none
 fields:= #[]
 methods:= #[]
 instanceTypes:= #[]
 staticTypes:= #[]
 resolved:= #[]
 callSites:= []
 init:= .initialized
 statics:=none
 mirror:=none
def pool0:Array CpInfo:=pool [(5,u "<init>"),(0,u "()V"),(1,.class_ 10),(1,u "java/lang/Object"),(85,u "clone"),(0,u "()Ljava/lang/Object;")] 26
def k0c0:Code:={maxStack:=0,maxLocals:=1,code:=object_method_1_code,exceptionTable:= #[],attributes:= #[]}
def k0m0:Method:={name:="<init>",desc:="()V",sig:={parameters:= [],returnType:=none},accessFlags:=1,code:=some k0c0}
def k0m1:Method:={name:="clone",desc:="()Ljava/lang/Object;",sig:={parameters:= [],returnType:=some (.object "java/lang/Object")},accessFlags:=260,code:=none}
def k0:Class:={plain "java/lang/Object" none with
 accessFlags:=33
 interfaces:= #[]
 cf:=some (fileOf pool0 8 #[] #[{accessFlags:=1,nameIndex:=5,descriptorIndex:=6,attributes:= #[]},{accessFlags:=260,nameIndex:=96,descriptorIndex:=97,attributes:= #[]}] 33 0 #[] #[])
 fields:= #[]
 methods:= #[k0m0,k0m1]
 instanceTypes:= #[]
 staticTypes:= #[]
 resolved:=Array.replicate 124 none
 statics:=none}
def pool1:Array CpInfo:=pool [(2,.class_ 4),(1,u "java/lang/Object"),(0,u "<init>"),(0,u "()V"),(0,.class_ 8),(0,u "com/example/nuthatch/nuthatch/ArgumentsRequireFillMillisPinLaw"),(0,.long 67108863),(1,.long 4503599627370495),(1,.methodref 7 14),(0,.nameAndType 15 16),(0,u "high"),(0,u "(JJ)J"),(0,.methodref 7 18),(0,.nameAndType 19 16),(0,u "low"),(0,.long 9007199254740991),(1,.methodref 23 24),(0,.class_ 25),(0,.nameAndType 26 16),(0,u "java/lang/Math"),(0,u "max"),(0,.long 4503599627370496),(1,.methodref 7 30),(0,.nameAndType 31 32),(0,u "cmp"),(0,u "(JJJJ)I"),(0,.methodref 34 35),(0,.class_ 36),(0,.nameAndType 37 38),(0,u "com/example/nuthatch/nuthatch/Arguments"),(0,u "requireFillMillis"),(0,u "(JJJ)J"),(0,u "LARGEST"),(0,u "J"),(1,u "LONGEST"),(0,u "M26"),(0,u "M52"),(3,u "law"),(0,u "(JJJI)Z")] 2
def k1m0:Method:={name:="<init>",desc:="()V",sig:={parameters:= [],returnType:=none},accessFlags:=2,code:=none}
def k1c1:Code:={maxStack:=6,maxLocals:=20,code:=method_2_code,exceptionTable:= #[],attributes:= #[]}
def k1m1:Method:={name:="high",desc:="(JJ)J",sig:={parameters:= [.long,.long],returnType:=some .long},accessFlags:=10,code:=some k1c1}
def k1c2:Code:={maxStack:=6,maxLocals:=18,code:=method_3_code,exceptionTable:= #[],attributes:= #[]}
def k1m2:Method:={name:="low",desc:="(JJ)J",sig:={parameters:= [.long,.long],returnType:=some .long},accessFlags:=10,code:=some k1c2}
def k1c3:Code:={maxStack:=4,maxLocals:=16,code:=method_4_code,exceptionTable:= #[],attributes:= #[]}
def k1m3:Method:={name:="cmp",desc:="(JJJJ)I",sig:={parameters:= [.long,.long,.long,.long],returnType:=some .int},accessFlags:=10,code:=some k1c3}
def k1c4:Code:={maxStack:=8,maxLocals:=15,code:=code,exceptionTable:= #[],attributes:= #[]}
def k1m4:Method:={name:="law",desc:="(JJJI)Z",sig:={parameters:= [.long,.long,.long,.int],returnType:=some .boolean},accessFlags:=9,code:=some k1c4}
def k1:Class:={plain "com/example/nuthatch/nuthatch/ArgumentsRequireFillMillisPinLaw" (some 0) with
 accessFlags:=49
 interfaces:= #[]
 cf:=some (fileOf pool1 7 #[] #[{accessFlags:=2,nameIndex:=5,descriptorIndex:=6,attributes:= #[]},{accessFlags:=10,nameIndex:=15,descriptorIndex:=16,attributes:= #[]},{accessFlags:=10,nameIndex:=19,descriptorIndex:=16,attributes:= #[]},{accessFlags:=10,nameIndex:=31,descriptorIndex:=32,attributes:= #[]},{accessFlags:=9,nameIndex:=48,descriptorIndex:=49,attributes:= #[]}] 49 2 #[] #[{accessFlags:=26,nameIndex:=39,descriptorIndex:=40,attributes:= #[]},{accessFlags:=26,nameIndex:=42,descriptorIndex:=40,attributes:= #[]},{accessFlags:=26,nameIndex:=43,descriptorIndex:=40,attributes:= #[]},{accessFlags:=26,nameIndex:=44,descriptorIndex:=40,attributes:= #[]}])
 fields:= #[{name:="LARGEST",type:= .long,accessFlags:=26,slot:=0,constantValue:=0},{name:="LONGEST",type:= .long,accessFlags:=26,slot:=1,constantValue:=0},{name:="M26",type:= .long,accessFlags:=26,slot:=2,constantValue:=0},{name:="M52",type:= .long,accessFlags:=26,slot:=3,constantValue:=0}]
 methods:= #[k1m0,k1m1,k1m2,k1m3,k1m4]
 instanceTypes:= #[]
 staticTypes:= #[.long,.long,.long,.long]
 resolved:=Array.replicate 52 none
 statics:=none}
def pool2:Array CpInfo:=pool [(1,.class_ 2),(0,u "java/lang/Math"),(1,.class_ 6),(1,u "java/lang/Object"),(0,u "<init>"),(0,u "()V"),(89,.class_ 100),(1,u "java/lang/Math$RandomNumberGeneratorHolder"),(20,u "(JJ)J"),(50,u "negativeZeroFloatBits"),(0,u "J"),(2,u "negativeZeroDoubleBits"),(21,u "max"),(2,u "min"),(43,u "$assertionsDisabled"),(0,u "Z"),(88,u "(II)I"),(2,u "twoToTheDoubleScaleDown"),(0,u "D"),(4,u "twoToTheDoubleScaleUp"),(9,u "E"),(3,u "PI"),(2,u "TAU"),(2,u "DEGREES_TO_RADIANS"),(0,u "RADIANS_TO_DEGREES")] 94
def k2m0:Method:={name:="<init>",desc:="()V",sig:={parameters:= [],returnType:=none},accessFlags:=2,code:=none}
def k2c1:Code:={maxStack:=4,maxLocals:=4,code:=jdk_29_method_66_code,exceptionTable:= #[],attributes:= #[]}
def k2m1:Method:={name:="max",desc:="(JJ)J",sig:={parameters:= [.long,.long],returnType:=some .long},accessFlags:=9,code:=some k2c1}
def k2c2:Code:={maxStack:=2,maxLocals:=2,code:=jdk_29_method_69_code,exceptionTable:= #[],attributes:= #[]}
def k2m2:Method:={name:="min",desc:="(II)I",sig:={parameters:= [.int,.int],returnType:=some .int},accessFlags:=9,code:=some k2c2}
def k2:Class:={plain "java/lang/Math" (some 0) with
 accessFlags:=49
 interfaces:= #[]
 cf:=some (fileOf pool2 1 #[.nestMembers #[98]] #[{accessFlags:=2,nameIndex:=7,descriptorIndex:=8,attributes:= #[]},{accessFlags:=9,nameIndex:=198,descriptorIndex:=121,attributes:= #[]},{accessFlags:=9,nameIndex:=201,descriptorIndex:=335,attributes:= #[]}] 49 4 #[] #[{accessFlags:=25,nameIndex:=354,descriptorIndex:=339,attributes:= #[]},{accessFlags:=25,nameIndex:=358,descriptorIndex:=339,attributes:= #[]},{accessFlags:=25,nameIndex:=361,descriptorIndex:=339,attributes:= #[]},{accessFlags:=26,nameIndex:=364,descriptorIndex:=339,attributes:= #[]},{accessFlags:=26,nameIndex:=365,descriptorIndex:=339,attributes:= #[]},{accessFlags:=26,nameIndex:=172,descriptorIndex:=173,attributes:= #[]},{accessFlags:=26,nameIndex:=176,descriptorIndex:=173,attributes:= #[]},{accessFlags:=8,nameIndex:=344,descriptorIndex:=339,attributes:= #[]},{accessFlags:=8,nameIndex:=338,descriptorIndex:=339,attributes:= #[]},{accessFlags:=4120,nameIndex:=245,descriptorIndex:=246,attributes:= #[]}])
 fields:= #[{name:="E",type:= .double,accessFlags:=25,slot:=0,constantValue:=0},{name:="PI",type:= .double,accessFlags:=25,slot:=1,constantValue:=0},{name:="TAU",type:= .double,accessFlags:=25,slot:=2,constantValue:=0},{name:="DEGREES_TO_RADIANS",type:= .double,accessFlags:=26,slot:=3,constantValue:=0},{name:="RADIANS_TO_DEGREES",type:= .double,accessFlags:=26,slot:=4,constantValue:=0},{name:="negativeZeroFloatBits",type:= .long,accessFlags:=26,slot:=5,constantValue:=0},{name:="negativeZeroDoubleBits",type:= .long,accessFlags:=26,slot:=6,constantValue:=0},{name:="twoToTheDoubleScaleUp",type:= .double,accessFlags:=8,slot:=7,constantValue:=0},{name:="twoToTheDoubleScaleDown",type:= .double,accessFlags:=8,slot:=8,constantValue:=0},{name:="$assertionsDisabled",type:= .boolean,accessFlags:=4120,slot:=9,constantValue:=0}]
 methods:= #[k2m0,k2m1,k2m2]
 instanceTypes:= #[]
 staticTypes:= #[.double,.double,.double,.double,.double,.long,.long,.double,.double,.boolean]
 resolved:=Array.replicate 460 none
 statics:=none}
def pool3:Array CpInfo:=pool [(2,.class_ 4),(1,u "java/lang/Object"),(0,u "<init>"),(0,u "()V"),(21,.class_ 29),(0,u "com/example/nuthatch/nuthatch/Arguments"),(5,.methodref 36 37),(0,.class_ 38),(0,.nameAndType 39 40),(0,u "java/math/BigInteger"),(0,u "valueOf"),(0,u "(J)Ljava/math/BigInteger;"),(0,.methodref 36 42),(0,.nameAndType 43 44),(0,u "multiply"),(0,u "(Ljava/math/BigInteger;)Ljava/math/BigInteger;"),(0,.methodref 36 46),(0,.nameAndType 47 48),(0,u "divideAndRemainder"),(0,u "(Ljava/math/BigInteger;)[Ljava/math/BigInteger;"),(0,.methodref 36 50),(0,.nameAndType 51 52),(0,u "signum"),(0,u "()I"),(0,.fieldref 36 54),(0,.nameAndType 55 56),(0,u "ONE"),(0,u "Ljava/math/BigInteger;"),(0,.methodref 36 58),(0,.nameAndType 59 44),(0,u "add"),(0,.long 4503599627370496),(1,.methodref 36 63),(0,.nameAndType 64 65),(0,u "compareTo"),(0,u "(Ljava/math/BigInteger;)I"),(3,.methodref 36 70),(0,.nameAndType 71 72),(0,u "longValue"),(0,u "()J"),(11,u "LARGEST_MILLIS"),(0,u "Ljava/time/Duration;"),(24,u "LARGEST"),(0,u "J"),(1,u "LONGEST_FILL"),(0,u "NANOS_PER_MILLI"),(0,u "I"),(6,u "requireFillMillis"),(0,u "(JJJ)J")] 30
def k3m0:Method:={name:="<init>",desc:="()V",sig:={parameters:= [],returnType:=none},accessFlags:=2,code:=none}
def k3c1:Code:={maxStack:=8,maxLocals:=8,code:=prog_1_method_4_code,exceptionTable:= #[],attributes:= #[]}
def k3m1:Method:={name:="requireFillMillis",desc:="(JJJ)J",sig:={parameters:= [.long,.long,.long],returnType:=some .long},accessFlags:=8,code:=some k3c1}
def k3:Class:={plain "com/example/nuthatch/nuthatch/Arguments" (some 0) with
 accessFlags:=32
 interfaces:= #[]
 cf:=some (fileOf pool3 28 #[] #[{accessFlags:=2,nameIndex:=5,descriptorIndex:=6,attributes:= #[]},{accessFlags:=8,nameIndex:=122,descriptorIndex:=123,attributes:= #[]}] 32 2 #[] #[{accessFlags:=24,nameIndex:=110,descriptorIndex:=111,attributes:= #[]},{accessFlags:=24,nameIndex:=113,descriptorIndex:=111,attributes:= #[]},{accessFlags:=26,nameIndex:=114,descriptorIndex:=115,attributes:= #[]},{accessFlags:=26,nameIndex:=84,descriptorIndex:=85,attributes:= #[]}])
 fields:= #[{name:="LARGEST",type:= .long,accessFlags:=24,slot:=0,constantValue:=0},{name:="LONGEST_FILL",type:= .long,accessFlags:=24,slot:=1,constantValue:=0},{name:="NANOS_PER_MILLI",type:= .int,accessFlags:=26,slot:=2,constantValue:=0},{name:="LARGEST_MILLIS",type:=(.object "java/time/Duration"),accessFlags:=26,slot:=3,constantValue:=0}]
 methods:= #[k3m0,k3m1]
 instanceTypes:= #[]
 staticTypes:= #[.long,.long,.int,(.object "java/time/Duration")]
 resolved:=Array.replicate 154 none
 statics:=none}
def pool4:Array CpInfo:=pool [(1,.class_ 2),(0,u "java/io/Serializable"),(0,.class_ 4),(0,u "java/lang/Object")] 2
def k4:Class:={plain "java/io/Serializable" (some 0) with
 accessFlags:=1537
 interfaces:= #[]
 cf:=some (fileOf pool4 1 #[] #[] 1537 3 #[] #[])
 fields:= #[]
 methods:= #[]
 instanceTypes:= #[]
 staticTypes:= #[]
 resolved:=Array.replicate 7 none
 statics:=none}
def pool5:Array CpInfo:=pool [(1,.methodref 2 3),(0,.class_ 4),(0,.nameAndType 5 6),(0,u "java/lang/Object"),(0,u "<init>"),(0,u "()V"),(1,.class_ 10),(1,u "java/lang/Number"),(2,.class_ 14),(0,u "java/io/Serializable"),(0,u "serialVersionUID"),(0,u "J")] 20
def k5c0:Code:={maxStack:=1,maxLocals:=1,code:=jdk_18_method_1_code,exceptionTable:= #[],attributes:= #[]}
def k5m0:Method:={name:="<init>",desc:="()V",sig:={parameters:= [],returnType:=none},accessFlags:=1,code:=some k5c0}
def k5:Class:={plain "java/lang/Number" (some 0) with
 accessFlags:=1057
 interfaces:= #[4]
 cf:=some (fileOf pool5 8 #[] #[{accessFlags:=1,nameIndex:=5,descriptorIndex:=6,attributes:= #[]}] 1057 2 #[13] #[{accessFlags:=26,nameIndex:=15,descriptorIndex:=16,attributes:= #[]}])
 fields:= #[{name:="serialVersionUID",type:= .long,accessFlags:=26,slot:=0,constantValue:=0}]
 methods:= #[k5m0]
 instanceTypes:= #[]
 staticTypes:= #[.long]
 resolved:=Array.replicate 37 none
 statics:=none}
def pool6:Array CpInfo:=pool [(1,.class_ 2),(0,u "java/lang/Comparable"),(0,.class_ 4),(0,u "java/lang/Object")] 7
def k6:Class:={plain "java/lang/Comparable" (some 0) with
 accessFlags:=1537
 interfaces:= #[]
 cf:=some (fileOf pool6 1 #[] #[] 1537 3 #[] #[])
 fields:= #[]
 methods:= #[]
 instanceTypes:= #[]
 staticTypes:= #[]
 resolved:=Array.replicate 12 none
 statics:=none}
def pool7:Array CpInfo:=pool [(1,.class_ 2),(0,u "java/lang/Integer"),(0,.methodref 4 5),(0,.class_ 6),(0,.nameAndType 7 8),(0,u "java/lang/Number"),(0,u "<init>"),(0,u "()V"),(8,.class_ 19),(1,u "java/util/Objects"),(1,u "(III)I"),(1,.class_ 25),(1,u "java/math/BigInteger"),(0,u "ZERO"),(0,u "Ljava/math/BigInteger;"),(0,.fieldref 23 29),(0,.nameAndType 30 31),(0,u "mag"),(0,u "[I"),(0,.fieldref 23 33),(0,.nameAndType 34 35),(0,u "signum"),(0,u "I"),(7,.integer 67108864),(8,u "([I)[I"),(0,.methodref 23 54),(0,.nameAndType 55 52),(0,u "trustedStripLeadingZeroInts"),(18,u "()I"),(7,u "(I)I"),(12,u "bitsPerDigit"),(0,u "[J"),(9,u "digitsPerInt"),(12,u "intRadix"),(10,.long 4294967295),(9,.class_ 142),(1,u "java/util/Arrays"),(32,.methodref 23 176),(0,.nameAndType 7 177),(0,u "([II)V"),(2,u "SMALL_PRIME_PRODUCT"),(3,u "(Ljava/math/BigInteger;)Ljava/math/BigInteger;"),(2,u "longValue"),(0,u "()J"),(30,u "(I)Ljava/math/BigInteger;"),(17,u "valueOf"),(0,u "(J)Ljava/math/BigInteger;"),(2,u "add"),(18,u "ONE"),(6,u "TWO"),(43,u "$assertionsDisabled"),(0,u "Z"),(5,u "multiply"),(18,u "compareTo"),(0,u "(Ljava/math/BigInteger;)I"),(6,.long 16),(1,.fieldref 23 348),(0,.nameAndType 349 350),(0,u "posConst"),(0,u "[Ljava/math/BigInteger;"),(4,u "negConst"),(0,.methodref 23 357),(0,.nameAndType 7 358),(0,u "(J)V"),(1,.nameAndType 7 361),(0,u "([I)V"),(0,.methodref 23 363),(0,.nameAndType 241 364),(0,u "([I[I)[I"),(0,.methodref 23 366),(0,.nameAndType 367 338),(0,u "compareMagnitude"),(20,.methodref 389 390),(0,.class_ 391),(0,.nameAndType 392 393),(0,u "java/lang/System"),(0,u "arraycopy"),(0,u "(Ljava/lang/Object;ILjava/lang/Object;II)V"),(3,.methodref 23 398),(0,.nameAndType 318 399),(0,u "(Ljava/math/BigInteger;ZZI)Ljava/math/BigInteger;"),(3,.methodref 23 404),(0,.nameAndType 405 406),(0,u "multiplyByInt"),(0,u "([III)Ljava/math/BigInteger;"),(0,.methodref 23 408),(0,.nameAndType 409 410),(0,u "multiplyToLen"),(0,u "([II[II[I)[I"),(12,.methodref 1 424),(0,.nameAndType 425 82),(0,u "bitCount"),(0,.methodref 1 427),(0,.nameAndType 428 82),(0,u "numberOfTrailingZeros"),(0,.methodref 23 430),(0,.nameAndType 431 432),(0,u "shiftLeft"),(0,u "([II)[I"),(0,.methodref 140 434),(0,.nameAndType 435 436),(0,u "copyOfRange"),(0,u "([III)[I"),(4,.methodref 23 442),(0,.nameAndType 443 177),(0,u "multiplyToLenCheck"),(0,.methodref 23 445),(0,.nameAndType 446 410),(0,u "implMultiplyToLen"),(0,.methodref 17 448),(0,.nameAndType 449 450),(0,u "requireNonNull"),(0,u "(Ljava/lang/Object;)Ljava/lang/Object;"),(21,.class_ 474),(1,u "java/math/BigInteger$RecursiveOp"),(62,u "divideKnuth"),(3,.class_ 542),(0,u "java/math/MutableBigInteger"),(0,.methodref 541 5),(0,.methodref 541 360),(3,.methodref 541 549),(0,.nameAndType 550 219),(0,u "toBigInteger"),(0,.methodref 23 552),(0,.nameAndType 553 554),(0,u "divideAndRemainderKnuth"),(0,u "(Ljava/math/BigInteger;)[Ljava/math/BigInteger;"),(3,.methodref 541 559),(0,.nameAndType 537 560),(0,u "(Ljava/math/MutableBigInteger;Ljava/math/MutableBigInteger;)Ljava/math/MutableBigInteger;"),(20,u "NEGATIVE_ONE"),(20,.methodref 1 603),(0,.nameAndType 604 82),(0,u "numberOfLeadingZeros"),(2,u "bitLengthForInt"),(3,.methodref 17 612),(0,.nameAndType 613 21),(0,u "checkFromToIndex"),(3,u "([I[IIII)V"),(0,.methodref 23 619),(0,.nameAndType 620 617),(0,u "shiftLeftImplWorker"),(52,u "bnExpModThreshTable"),(62,.methodref 23 737),(0,.nameAndType 738 82),(0,u "getInt"),(7,u "lowestSetBitPlusTwo"),(2,u "bitLengthPlusOne"),(2,u "bitCountPlusOne"),(6,u "LOG_TWO"),(0,u "D"),(2,u "logCache"),(0,u "[D"),(13,u "NUM_ZEROS"),(2,u "ZEROS"),(0,u "Ljava/lang/String;"),(9,u "longRadix"),(5,u "digitsPerLong"),(19,u "divideAndRemainder"),(2,u "powerCache"),(0,u "[[Ljava/math/BigInteger;"),(37,.methodref 23 861),(0,.nameAndType 862 74),(0,u "signInt"),(5,u "firstNonzeroIntNumPlusTwo"),(38,.class_ 909),(1,u "java/math/BigInteger$UnsafeHolder"),(141,u "TEN"),(106,u "serialPersistentFields"),(0,u "[Ljava/io/ObjectStreamField;"),(0,.class_ 1161),(0,u "java/lang/Comparable"),(0,u "LONG_MASK"),(0,u "J"),(1,u "MAX_MAG_LENGTH"),(0,u "PRIME_SEARCH_BIT_LENGTH_LIMIT"),(1,u "KARATSUBA_THRESHOLD"),(1,u "TOOM_COOK_THRESHOLD"),(1,u "KARATSUBA_SQUARE_THRESHOLD"),(1,u "TOOM_COOK_SQUARE_THRESHOLD"),(1,u "BURNIKEL_ZIEGLER_THRESHOLD"),(0,u "BURNIKEL_ZIEGLER_OFFSET"),(1,u "SCHOENHAGE_BASE_CONVERSION_THRESHOLD"),(1,u "MULTIPLY_SQUARE_THRESHOLD"),(0,u "MONTGOMERY_INTRINSIC_THRESHOLD"),(1,u "SMALL_PRIME_THRESHOLD"),(1,u "DEFAULT_PRIME_CERTAINTY"),(1,u "MAX_CONSTANT"),(3,u "serialVersionUID"),(338,.class_ 1532),(0,u "java/math/BigInteger$RecursiveOp$RecursiveSquare"),(0,.class_ 1534),(0,u "java/math/BigInteger$RecursiveOp$RecursiveMultiply")] 7
def k7c0:Code:={maxStack:=2,maxLocals:=3,code:=jdk_2097_method_25_code,exceptionTable:= #[],attributes:= #[]}
def k7m0:Method:={name:="<init>",desc:="([II)V",sig:={parameters:= [(.array .int),.int],returnType:=none},accessFlags:=0,code:=some k7c0}
def k7c1:Code:={maxStack:=4,maxLocals:=2,code:=jdk_2097_method_29_code,exceptionTable:= #[],attributes:= #[]}
def k7m1:Method:={name:="valueOf",desc:="(J)Ljava/math/BigInteger;",sig:={parameters:= [.long],returnType:=some (.object "java/math/BigInteger")},accessFlags:=9,code:=some k7c1}
def k7c2:Code:={maxStack:=4,maxLocals:=4,code:=jdk_2097_method_30_code,exceptionTable:= #[],attributes:= #[]}
def k7m2:Method:={name:="<init>",desc:="(J)V",sig:={parameters:= [.long],returnType:=none},accessFlags:=2,code:=some k7c2}
def k7c3:Code:={maxStack:=5,maxLocals:=4,code:=jdk_2097_method_32_code,exceptionTable:= #[],attributes:= #[]}
def k7m3:Method:={name:="add",desc:="(Ljava/math/BigInteger;)Ljava/math/BigInteger;",sig:={parameters:= [(.object "java/math/BigInteger")],returnType:=some (.object "java/math/BigInteger")},accessFlags:=1,code:=some k7c3}
def k7c4:Code:={maxStack:=6,maxLocals:=9,code:=jdk_2097_method_35_code,exceptionTable:= #[],attributes:= #[]}
def k7m4:Method:={name:="add",desc:="([I[I)[I",sig:={parameters:= [(.array .int),(.array .int)],returnType:=some (.array .int)},accessFlags:=10,code:=some k7c4}
def k7c5:Code:={maxStack:=5,maxLocals:=2,code:=jdk_2097_method_40_code,exceptionTable:= #[],attributes:= #[]}
def k7m5:Method:={name:="multiply",desc:="(Ljava/math/BigInteger;)Ljava/math/BigInteger;",sig:={parameters:= [(.object "java/math/BigInteger")],returnType:=some (.object "java/math/BigInteger")},accessFlags:=1,code:=some k7c5}
def k7c6:Code:={maxStack:=5,maxLocals:=9,code:=jdk_2097_method_42_code,exceptionTable:= #[],attributes:= #[]}
def k7m6:Method:={name:="multiply",desc:="(Ljava/math/BigInteger;ZZI)Ljava/math/BigInteger;",sig:={parameters:= [(.object "java/math/BigInteger"),.boolean,.boolean,.int],returnType:=some (.object "java/math/BigInteger")},accessFlags:=2,code:=some k7c6}
def k7c7:Code:={maxStack:=4,maxLocals:=13,code:=jdk_2097_method_43_code,exceptionTable:= #[],attributes:= #[]}
def k7m7:Method:={name:="multiplyByInt",desc:="([III)Ljava/math/BigInteger;",sig:={parameters:= [(.array .int),.int,.int],returnType:=some (.object "java/math/BigInteger")},accessFlags:=10,code:=some k7c7}
def k7c8:Code:={maxStack:=5,maxLocals:=5,code:=jdk_2097_method_45_code,exceptionTable:= #[],attributes:= #[]}
def k7m8:Method:={name:="multiplyToLen",desc:="([II[II[I)[I",sig:={parameters:= [(.array .int),.int,(.array .int),.int,(.array .int)],returnType:=some (.array .int)},accessFlags:=10,code:=some k7c8}
def k7c9:Code:={maxStack:=6,maxLocals:=14,code:=jdk_2097_method_46_code,exceptionTable:= #[],attributes:= #[]}
def k7m9:Method:={name:="implMultiplyToLen",desc:="([II[II[I)[I",sig:={parameters:= [(.array .int),.int,(.array .int),.int,(.array .int)],returnType:=some (.array .int)},accessFlags:=10,code:=some k7c9}
def k7c10:Code:={maxStack:=4,maxLocals:=2,code:=jdk_2097_method_47_code,exceptionTable:= #[],attributes:= #[]}
def k7m10:Method:={name:="multiplyToLenCheck",desc:="([II)V",sig:={parameters:= [(.array .int),.int],returnType:=none},accessFlags:=10,code:=some k7c10}
def k7c11:Code:={maxStack:=2,maxLocals:=2,code:=jdk_2097_method_63_code,exceptionTable:= #[],attributes:= #[]}
def k7m11:Method:={name:="divideAndRemainder",desc:="(Ljava/math/BigInteger;)[Ljava/math/BigInteger;",sig:={parameters:= [(.object "java/math/BigInteger")],returnType:=some (.array (.object "java/math/BigInteger"))},accessFlags:=1,code:=some k7c11}
def k7c12:Code:={maxStack:=5,maxLocals:=7,code:=jdk_2097_method_64_code,exceptionTable:= #[],attributes:= #[]}
def k7m12:Method:={name:="divideAndRemainderKnuth",desc:="(Ljava/math/BigInteger;)[Ljava/math/BigInteger;",sig:={parameters:= [(.object "java/math/BigInteger")],returnType:=some (.array (.object "java/math/BigInteger"))},accessFlags:=2,code:=some k7c12}
def k7c13:Code:={maxStack:=2,maxLocals:=1,code:=jdk_2097_method_74_code,exceptionTable:= #[],attributes:= #[]}
def k7m13:Method:={name:="bitLengthForInt",desc:="(I)I",sig:={parameters:= [.int],returnType:=some .int},accessFlags:=8,code:=some k7c13}
def k7c14:Code:={maxStack:=1,maxLocals:=1,code:=jdk_2097_method_81_code,exceptionTable:= #[],attributes:= #[]}
def k7m14:Method:={name:="signum",desc:="()I",sig:={parameters:= [],returnType:=some .int},accessFlags:=1,code:=some k7c14}
def k7c15:Code:={maxStack:=5,maxLocals:=10,code:=jdk_2097_method_102_code,exceptionTable:= #[],attributes:= #[]}
def k7m15:Method:={name:="shiftLeft",desc:="([II)[I",sig:={parameters:= [(.array .int),.int],returnType:=some (.array .int)},accessFlags:=10,code:=some k7c15}
def k7c16:Code:={maxStack:=5,maxLocals:=7,code:=jdk_2097_method_103_code,exceptionTable:= #[],attributes:= #[]}
def k7m16:Method:={name:="shiftLeftImplWorker",desc:="([I[IIII)V",sig:={parameters:= [(.array .int),(.array .int),.int,.int,.int],returnType:=none},accessFlags:=10,code:=some k7c16}
def k7c17:Code:={maxStack:=2,maxLocals:=2,code:=jdk_2097_method_121_code,exceptionTable:= #[],attributes:= #[]}
def k7m17:Method:={name:="compareTo",desc:="(Ljava/math/BigInteger;)I",sig:={parameters:= [(.object "java/math/BigInteger")],returnType:=some .int},accessFlags:=1,code:=some k7c17}
def k7c18:Code:={maxStack:=6,maxLocals:=9,code:=jdk_2097_method_122_code,exceptionTable:= #[],attributes:= #[]}
def k7m18:Method:={name:="compareMagnitude",desc:="(Ljava/math/BigInteger;)I",sig:={parameters:= [(.object "java/math/BigInteger")],returnType:=some .int},accessFlags:=16,code:=some k7c18}
def k7c19:Code:={maxStack:=6,maxLocals:=4,code:=jdk_2097_method_136_code,exceptionTable:= #[],attributes:= #[]}
def k7m19:Method:={name:="longValue",desc:="()J",sig:={parameters:= [],returnType:=some .long},accessFlags:=1,code:=some k7c19}
def k7c20:Code:={maxStack:=3,maxLocals:=3,code:=jdk_2097_method_140_code,exceptionTable:= #[],attributes:= #[]}
def k7m20:Method:={name:="trustedStripLeadingZeroInts",desc:="([I)[I",sig:={parameters:= [(.array .int)],returnType:=some (.array .int)},accessFlags:=10,code:=some k7c20}
def k7c21:Code:={maxStack:=1,maxLocals:=1,code:=jdk_2097_method_147_code,exceptionTable:= #[],attributes:= #[]}
def k7m21:Method:={name:="signInt",desc:="()I",sig:={parameters:= [],returnType:=some .int},accessFlags:=2,code:=some k7c21}
def k7c22:Code:={maxStack:=3,maxLocals:=3,code:=jdk_2097_method_148_code,exceptionTable:= #[],attributes:= #[]}
def k7m22:Method:={name:="getInt",desc:="(I)I",sig:={parameters:= [.int],returnType:=some .int},accessFlags:=2,code:=some k7c22}
def k7:Class:={plain "java/math/BigInteger" (some 5) with
 accessFlags:=33
 interfaces:= #[6]
 cf:=some (fileOf pool7 23 #[.nestMembers #[907,472,1531,1533]] #[{accessFlags:=0,nameIndex:=7,descriptorIndex:=177,attributes:= #[]},{accessFlags:=9,nameIndex:=237,descriptorIndex:=238,attributes:= #[]},{accessFlags:=2,nameIndex:=7,descriptorIndex:=358,attributes:= #[]},{accessFlags:=1,nameIndex:=241,descriptorIndex:=184,attributes:= #[]},{accessFlags:=10,nameIndex:=241,descriptorIndex:=364,attributes:= #[]},{accessFlags:=1,nameIndex:=318,descriptorIndex:=184,attributes:= #[]},{accessFlags:=2,nameIndex:=318,descriptorIndex:=399,attributes:= #[]},{accessFlags:=10,nameIndex:=405,descriptorIndex:=406,attributes:= #[]},{accessFlags:=10,nameIndex:=409,descriptorIndex:=410,attributes:= #[]},{accessFlags:=10,nameIndex:=446,descriptorIndex:=410,attributes:= #[]},{accessFlags:=10,nameIndex:=443,descriptorIndex:=177,attributes:= #[]},{accessFlags:=1,nameIndex:=818,descriptorIndex:=554,attributes:= #[]},{accessFlags:=2,nameIndex:=553,descriptorIndex:=554,attributes:= #[]},{accessFlags:=8,nameIndex:=607,descriptorIndex:=82,attributes:= #[]},{accessFlags:=1,nameIndex:=34,descriptorIndex:=74,attributes:= #[]},{accessFlags:=10,nameIndex:=431,descriptorIndex:=432,attributes:= #[]},{accessFlags:=10,nameIndex:=620,descriptorIndex:=617,attributes:= #[]},{accessFlags:=1,nameIndex:=337,descriptorIndex:=338,attributes:= #[]},{accessFlags:=16,nameIndex:=367,descriptorIndex:=338,attributes:= #[]},{accessFlags:=1,nameIndex:=187,descriptorIndex:=188,attributes:= #[]},{accessFlags:=10,nameIndex:=55,descriptorIndex:=52,attributes:= #[]},{accessFlags:=2,nameIndex:=862,descriptorIndex:=74,attributes:= #[]},{accessFlags:=2,nameIndex:=738,descriptorIndex:=82,attributes:= #[]}] 33 4 #[1160] #[{accessFlags:=16,nameIndex:=34,descriptorIndex:=35,attributes:= #[]},{accessFlags:=16,nameIndex:=30,descriptorIndex:=31,attributes:= #[]},{accessFlags:=2,nameIndex:=752,descriptorIndex:=35,attributes:= #[]},{accessFlags:=2,nameIndex:=749,descriptorIndex:=35,attributes:= #[]},{accessFlags:=2,nameIndex:=746,descriptorIndex:=35,attributes:= #[]},{accessFlags:=2,nameIndex:=868,descriptorIndex:=35,attributes:= #[]},{accessFlags:=24,nameIndex:=1162,descriptorIndex:=1163,attributes:= #[]},{accessFlags:=26,nameIndex:=1165,descriptorIndex:=35,attributes:= #[]},{accessFlags:=26,nameIndex:=1166,descriptorIndex:=35,attributes:= #[]},{accessFlags:=26,nameIndex:=1168,descriptorIndex:=35,attributes:= #[]},{accessFlags:=26,nameIndex:=1170,descriptorIndex:=35,attributes:= #[]},{accessFlags:=26,nameIndex:=1172,descriptorIndex:=35,attributes:= #[]},{accessFlags:=26,nameIndex:=1174,descriptorIndex:=35,attributes:= #[]},{accessFlags:=24,nameIndex:=1176,descriptorIndex:=35,attributes:= #[]},{accessFlags:=24,nameIndex:=1177,descriptorIndex:=35,attributes:= #[]},{accessFlags:=26,nameIndex:=1179,descriptorIndex:=35,attributes:= #[]},{accessFlags:=26,nameIndex:=1181,descriptorIndex:=35,attributes:= #[]},{accessFlags:=26,nameIndex:=1182,descriptorIndex:=35,attributes:= #[]},{accessFlags:=10,nameIndex:=95,descriptorIndex:=96,attributes:= #[]},{accessFlags:=26,nameIndex:=1184,descriptorIndex:=35,attributes:= #[]},{accessFlags:=26,nameIndex:=1186,descriptorIndex:=35,attributes:= #[]},{accessFlags:=26,nameIndex:=180,descriptorIndex:=27,attributes:= #[]},{accessFlags:=26,nameIndex:=1188,descriptorIndex:=35,attributes:= #[]},{accessFlags:=26,nameIndex:=349,descriptorIndex:=350,attributes:= #[]},{accessFlags:=26,nameIndex:=355,descriptorIndex:=350,attributes:= #[]},{accessFlags:=74,nameIndex:=821,descriptorIndex:=822,attributes:= #[]},{accessFlags:=26,nameIndex:=763,descriptorIndex:=764,attributes:= #[]},{accessFlags:=26,nameIndex:=759,descriptorIndex:=760,attributes:= #[]},{accessFlags:=25,nameIndex:=26,descriptorIndex:=27,attributes:= #[]},{accessFlags:=25,nameIndex:=260,descriptorIndex:=27,attributes:= #[]},{accessFlags:=25,nameIndex:=267,descriptorIndex:=27,attributes:= #[]},{accessFlags:=26,nameIndex:=581,descriptorIndex:=27,attributes:= #[]},{accessFlags:=25,nameIndex:=1051,descriptorIndex:=27,attributes:= #[]},{accessFlags:=8,nameIndex:=673,descriptorIndex:=31,attributes:= #[]},{accessFlags:=10,nameIndex:=778,descriptorIndex:=35,attributes:= #[]},{accessFlags:=26,nameIndex:=781,descriptorIndex:=782,attributes:= #[]},{accessFlags:=10,nameIndex:=798,descriptorIndex:=31,attributes:= #[]},{accessFlags:=10,nameIndex:=792,descriptorIndex:=350,attributes:= #[]},{accessFlags:=10,nameIndex:=106,descriptorIndex:=31,attributes:= #[]},{accessFlags:=10,nameIndex:=119,descriptorIndex:=31,attributes:= #[]},{accessFlags:=26,nameIndex:=1192,descriptorIndex:=1163,attributes:= #[]},{accessFlags:=26,nameIndex:=1158,descriptorIndex:=1159,attributes:= #[]},{accessFlags:=4120,nameIndex:=311,descriptorIndex:=312,attributes:= #[]}])
 fields:= #[{name:="signum",type:= .int,accessFlags:=16,slot:=0,constantValue:=0},{name:="mag",type:=(.array .int),accessFlags:=16,slot:=1,constantValue:=0},{name:="bitCountPlusOne",type:= .int,accessFlags:=2,slot:=2,constantValue:=0},{name:="bitLengthPlusOne",type:= .int,accessFlags:=2,slot:=3,constantValue:=0},{name:="lowestSetBitPlusTwo",type:= .int,accessFlags:=2,slot:=4,constantValue:=0},{name:="firstNonzeroIntNumPlusTwo",type:= .int,accessFlags:=2,slot:=5,constantValue:=0},{name:="LONG_MASK",type:= .long,accessFlags:=24,slot:=0,constantValue:=0},{name:="MAX_MAG_LENGTH",type:= .int,accessFlags:=26,slot:=1,constantValue:=0},{name:="PRIME_SEARCH_BIT_LENGTH_LIMIT",type:= .int,accessFlags:=26,slot:=2,constantValue:=0},{name:="KARATSUBA_THRESHOLD",type:= .int,accessFlags:=26,slot:=3,constantValue:=0},{name:="TOOM_COOK_THRESHOLD",type:= .int,accessFlags:=26,slot:=4,constantValue:=0},{name:="KARATSUBA_SQUARE_THRESHOLD",type:= .int,accessFlags:=26,slot:=5,constantValue:=0},{name:="TOOM_COOK_SQUARE_THRESHOLD",type:= .int,accessFlags:=26,slot:=6,constantValue:=0},{name:="BURNIKEL_ZIEGLER_THRESHOLD",type:= .int,accessFlags:=24,slot:=7,constantValue:=0},{name:="BURNIKEL_ZIEGLER_OFFSET",type:= .int,accessFlags:=24,slot:=8,constantValue:=0},{name:="SCHOENHAGE_BASE_CONVERSION_THRESHOLD",type:= .int,accessFlags:=26,slot:=9,constantValue:=0},{name:="MULTIPLY_SQUARE_THRESHOLD",type:= .int,accessFlags:=26,slot:=10,constantValue:=0},{name:="MONTGOMERY_INTRINSIC_THRESHOLD",type:= .int,accessFlags:=26,slot:=11,constantValue:=0},{name:="bitsPerDigit",type:=(.array .long),accessFlags:=10,slot:=12,constantValue:=0},{name:="SMALL_PRIME_THRESHOLD",type:= .int,accessFlags:=26,slot:=13,constantValue:=0},{name:="DEFAULT_PRIME_CERTAINTY",type:= .int,accessFlags:=26,slot:=14,constantValue:=0},{name:="SMALL_PRIME_PRODUCT",type:=(.object "java/math/BigInteger"),accessFlags:=26,slot:=15,constantValue:=0},{name:="MAX_CONSTANT",type:= .int,accessFlags:=26,slot:=16,constantValue:=0},{name:="posConst",type:=(.array (.object "java/math/BigInteger")),accessFlags:=26,slot:=17,constantValue:=0},{name:="negConst",type:=(.array (.object "java/math/BigInteger")),accessFlags:=26,slot:=18,constantValue:=0},{name:="powerCache",type:=(.array (.array (.object "java/math/BigInteger"))),accessFlags:=74,slot:=19,constantValue:=0},{name:="logCache",type:=(.array .double),accessFlags:=26,slot:=20,constantValue:=0},{name:="LOG_TWO",type:= .double,accessFlags:=26,slot:=21,constantValue:=0},{name:="ZERO",type:=(.object "java/math/BigInteger"),accessFlags:=25,slot:=22,constantValue:=0},{name:="ONE",type:=(.object "java/math/BigInteger"),accessFlags:=25,slot:=23,constantValue:=0},{name:="TWO",type:=(.object "java/math/BigInteger"),accessFlags:=25,slot:=24,constantValue:=0},{name:="NEGATIVE_ONE",type:=(.object "java/math/BigInteger"),accessFlags:=26,slot:=25,constantValue:=0},{name:="TEN",type:=(.object "java/math/BigInteger"),accessFlags:=25,slot:=26,constantValue:=0},{name:="bnExpModThreshTable",type:=(.array .int),accessFlags:=8,slot:=27,constantValue:=0},{name:="NUM_ZEROS",type:= .int,accessFlags:=10,slot:=28,constantValue:=0},{name:="ZEROS",type:=(.object "java/lang/String"),accessFlags:=26,slot:=29,constantValue:=0},{name:="digitsPerLong",type:=(.array .int),accessFlags:=10,slot:=30,constantValue:=0},{name:="longRadix",type:=(.array (.object "java/math/BigInteger")),accessFlags:=10,slot:=31,constantValue:=0},{name:="digitsPerInt",type:=(.array .int),accessFlags:=10,slot:=32,constantValue:=0},{name:="intRadix",type:=(.array .int),accessFlags:=10,slot:=33,constantValue:=0},{name:="serialVersionUID",type:= .long,accessFlags:=26,slot:=34,constantValue:=0},{name:="serialPersistentFields",type:=(.array (.object "java/io/ObjectStreamField")),accessFlags:=26,slot:=35,constantValue:=0},{name:="$assertionsDisabled",type:= .boolean,accessFlags:=4120,slot:=36,constantValue:=0}]
 methods:= #[k7m0,k7m1,k7m2,k7m3,k7m4,k7m5,k7m6,k7m7,k7m8,k7m9,k7m10,k7m11,k7m12,k7m13,k7m14,k7m15,k7m16,k7m17,k7m18,k7m19,k7m20,k7m21,k7m22]
 instanceTypes:= #[.int,(.array .int),.int,.int,.int,.int]
 staticTypes:= #[.long,.int,.int,.int,.int,.int,.int,.int,.int,.int,.int,.int,(.array .long),.int,.int,(.object "java/math/BigInteger"),.int,(.array (.object "java/math/BigInteger")),(.array (.object "java/math/BigInteger")),(.array (.array (.object "java/math/BigInteger"))),(.array .double),.double,(.object "java/math/BigInteger"),(.object "java/math/BigInteger"),(.object "java/math/BigInteger"),(.object "java/math/BigInteger"),(.object "java/math/BigInteger"),(.array .int),.int,(.object "java/lang/String"),(.array .int),(.array (.object "java/math/BigInteger")),(.array .int),(.array .int),.long,(.array (.object "java/io/ObjectStreamField")),.boolean]
 resolved:=Array.replicate 1542 none
 statics:=some 0}
def pool8:Array CpInfo:=pool [(1,.class_ 2),(0,u "java/lang/constant/Constable"),(0,.class_ 4),(0,u "java/lang/Object")] 6
def k8:Class:={plain "java/lang/constant/Constable" (some 0) with
 accessFlags:=1537
 interfaces:= #[]
 cf:=some (fileOf pool8 1 #[] #[] 1537 3 #[] #[])
 fields:= #[]
 methods:= #[]
 instanceTypes:= #[]
 staticTypes:= #[]
 resolved:=Array.replicate 11 none
 statics:=none}
def pool9:Array CpInfo:=pool [(1,.class_ 2),(0,u "java/lang/constant/ConstantDesc"),(0,.class_ 4),(0,u "java/lang/Object")] 32
def k9:Class:={plain "java/lang/constant/ConstantDesc" (some 0) with
 accessFlags:=1537
 interfaces:= #[]
 cf:=some (fileOf pool9 1 #[] #[] 1537 3 #[] #[])
 fields:= #[]
 methods:= #[]
 instanceTypes:= #[]
 staticTypes:= #[]
 resolved:=Array.replicate 37 none
 statics:=none}
def pool10:Array CpInfo:=pool [(1,.class_ 2),(0,u "java/lang/Integer"),(16,u "digits"),(0,u "[C"),(32,u "numberOfLeadingZeros"),(0,u "(I)I"),(30,u "DigitOnes"),(0,u "[B"),(2,u "DigitTens"),(99,.class_ 190),(0,u "java/lang/Integer$IntegerCache"),(3,u "I"),(8,.class_ 204),(0,u "java/lang/Number"),(2,u "value"),(56,.integer 65536),(0,.integer 1431655765),(0,.integer 858993459),(0,.integer 252645135),(34,u "TYPE"),(0,u "Ljava/lang/Class;"),(0,.class_ 305),(0,u "java/lang/Comparable"),(0,.class_ 307),(0,u "java/lang/constant/Constable"),(0,.class_ 309),(0,u "java/lang/constant/ConstantDesc"),(0,u "MIN_VALUE"),(1,u "MAX_VALUE"),(3,u "SIZE"),(1,u "BYTES"),(1,u "serialVersionUID"),(0,u "J"),(84,u "numberOfTrailingZeros"),(0,u "bitCount")] 45
def k10c0:Code:={maxStack:=3,maxLocals:=2,code:=jdk_33_method_47_code,exceptionTable:= #[],attributes:= #[]}
def k10m0:Method:={name:="numberOfLeadingZeros",desc:="(I)I",sig:={parameters:= [.int],returnType:=some .int},accessFlags:=9,code:=some k10c0}
def k10c1:Code:={maxStack:=3,maxLocals:=2,code:=jdk_33_method_48_code,exceptionTable:= #[],attributes:= #[]}
def k10m1:Method:={name:="numberOfTrailingZeros",desc:="(I)I",sig:={parameters:= [.int],returnType:=some .int},accessFlags:=9,code:=some k10c1}
def k10c2:Code:={maxStack:=3,maxLocals:=1,code:=jdk_33_method_49_code,exceptionTable:= #[],attributes:= #[]}
def k10m2:Method:={name:="bitCount",desc:="(I)I",sig:={parameters:= [.int],returnType:=some .int},accessFlags:=9,code:=some k10c2}
def k10:Class:={plain "java/lang/Integer" (some 5) with
 accessFlags:=49
 interfaces:= #[6,8,9]
 cf:=some (fileOf pool10 1 #[.nestMembers #[189]] #[{accessFlags:=9,nameIndex:=53,descriptorIndex:=54,attributes:= #[]},{accessFlags:=9,nameIndex:=406,descriptorIndex:=54,attributes:= #[]},{accessFlags:=9,nameIndex:=407,descriptorIndex:=54,attributes:= #[]}] 49 203 #[304,306,308] #[{accessFlags:=25,nameIndex:=310,descriptorIndex:=194,attributes:= #[]},{accessFlags:=25,nameIndex:=312,descriptorIndex:=194,attributes:= #[]},{accessFlags:=25,nameIndex:=302,descriptorIndex:=303,attributes:= #[]},{accessFlags:=24,nameIndex:=19,descriptorIndex:=20,attributes:= #[]},{accessFlags:=24,nameIndex:=89,descriptorIndex:=86,attributes:= #[]},{accessFlags:=24,nameIndex:=85,descriptorIndex:=86,attributes:= #[]},{accessFlags:=18,nameIndex:=207,descriptorIndex:=194,attributes:= #[]},{accessFlags:=25,nameIndex:=316,descriptorIndex:=194,attributes:= #[]},{accessFlags:=25,nameIndex:=318,descriptorIndex:=194,attributes:= #[]},{accessFlags:=26,nameIndex:=320,descriptorIndex:=321,attributes:= #[]}])
 fields:= #[{name:="MIN_VALUE",type:= .int,accessFlags:=25,slot:=0,constantValue:=0},{name:="MAX_VALUE",type:= .int,accessFlags:=25,slot:=1,constantValue:=0},{name:="TYPE",type:=(.object "java/lang/Class"),accessFlags:=25,slot:=2,constantValue:=0},{name:="digits",type:=(.array .char),accessFlags:=24,slot:=3,constantValue:=0},{name:="DigitTens",type:=(.array .byte),accessFlags:=24,slot:=4,constantValue:=0},{name:="DigitOnes",type:=(.array .byte),accessFlags:=24,slot:=5,constantValue:=0},{name:="value",type:= .int,accessFlags:=18,slot:=0,constantValue:=0},{name:="SIZE",type:= .int,accessFlags:=25,slot:=6,constantValue:=0},{name:="BYTES",type:= .int,accessFlags:=25,slot:=7,constantValue:=0},{name:="serialVersionUID",type:= .long,accessFlags:=26,slot:=8,constantValue:=0}]
 methods:= #[k10m0,k10m1,k10m2]
 instanceTypes:= #[.int]
 staticTypes:= #[.int,.int,(.object "java/lang/Class"),(.array .char),(.array .byte),(.array .byte),.int,.int,.long]
 resolved:=Array.replicate 453 none
 statics:=none}
def pool11:Array CpInfo:=pool [(2,.class_ 4),(1,u "java/lang/Object"),(0,u "<init>"),(0,u "()V"),(7,.class_ 16),(1,u "java/util/Arrays"),(57,.class_ 76),(1,u "java/util/Arrays$NaturalOrder"),(32,u "()Ljava/lang/Object;"),(3,.class_ 115),(1,u "java/util/Arrays$LegacyMergeSort"),(1,u "Z"),(10,.nameAndType 129 109),(0,u "clone"),(9,u "copyOfRange"),(10,.methodref 151 152),(0,.class_ 153),(0,.nameAndType 154 155),(0,u "java/lang/System"),(0,u "arraycopy"),(0,u "(Ljava/lang/Object;ILjava/lang/Object;II)V"),(148,.methodref 305 306),(0,.class_ 307),(0,.nameAndType 308 309),(0,u "java/lang/Math"),(0,u "min"),(0,u "(II)I"),(6,.methodref 317 128),(0,.class_ 318),(0,u "[I"),(24,.methodref 14 344),(0,.nameAndType 345 346),(0,u "checkLength"),(0,u "(II)V"),(4,.methodref 14 352),(0,.nameAndType 353 354),(0,u "copyOfRangeInt"),(0,u "([III)[I"),(20,.class_ 376),(0,u "java/util/Arrays$ArrayList"),(68,u "$assertionsDisabled"),(269,u "MIN_ARRAY_SORT_GRAN"),(0,u "I"),(2,u "INSERTIONSORT_THRESHOLD"),(120,u "fill"),(4,u "([II)V"),(129,.class_ 976),(0,u "java/util/Arrays$ArrayItr")] 52
def k11m0:Method:={name:="<init>",desc:="()V",sig:={parameters:= [],returnType:=none},accessFlags:=2,code:=none}
def k11c1:Code:={maxStack:=3,maxLocals:=4,code:=jdk_65_method_103_code,exceptionTable:= #[],attributes:= #[]}
def k11m1:Method:={name:="fill",desc:="([II)V",sig:={parameters:= [(.array .int),.int],returnType:=none},accessFlags:=9,code:=some k11c1}
def k11c2:Code:={maxStack:=4,maxLocals:=2,code:=jdk_65_method_131_code,exceptionTable:= #[],attributes:= #[]}
def k11m2:Method:={name:="checkLength",desc:="(II)V",sig:={parameters:= [.int,.int],returnType:=none},accessFlags:=10,code:=some k11c2}
def k11c3:Code:={maxStack:=3,maxLocals:=3,code:=jdk_65_method_136_code,exceptionTable:= #[],attributes:= #[]}
def k11m3:Method:={name:="copyOfRange",desc:="([III)[I",sig:={parameters:= [(.array .int),.int,.int],returnType:=some (.array .int)},accessFlags:=9,code:=some k11c3}
def k11c4:Code:={maxStack:=6,maxLocals:=5,code:=jdk_65_method_137_code,exceptionTable:= #[],attributes:= #[]}
def k11m4:Method:={name:="copyOfRangeInt",desc:="([III)[I",sig:={parameters:= [(.array .int),.int,.int],returnType:=some (.array .int)},accessFlags:=10,code:=some k11c4}
def k11:Class:={plain "java/util/Arrays" (some 0) with
 accessFlags:=49
 interfaces:= #[]
 cf:=some (fileOf pool11 14 #[.nestMembers #[975,375,113,74]] #[{accessFlags:=2,nameIndex:=5,descriptorIndex:=6,attributes:= #[]},{accessFlags:=9,nameIndex:=840,descriptorIndex:=845,attributes:= #[]},{accessFlags:=10,nameIndex:=345,descriptorIndex:=346,attributes:= #[]},{accessFlags:=9,nameIndex:=139,descriptorIndex:=354,attributes:= #[]},{accessFlags:=10,nameIndex:=353,descriptorIndex:=354,attributes:= #[]}] 49 2 #[] #[{accessFlags:=26,nameIndex:=715,descriptorIndex:=716,attributes:= #[]},{accessFlags:=26,nameIndex:=719,descriptorIndex:=716,attributes:= #[]},{accessFlags:=4120,nameIndex:=445,descriptorIndex:=117,attributes:= #[]}])
 fields:= #[{name:="MIN_ARRAY_SORT_GRAN",type:= .int,accessFlags:=26,slot:=0,constantValue:=0},{name:="INSERTIONSORT_THRESHOLD",type:= .int,accessFlags:=26,slot:=1,constantValue:=0},{name:="$assertionsDisabled",type:= .boolean,accessFlags:=4120,slot:=2,constantValue:=0}]
 methods:= #[k11m0,k11m1,k11m2,k11m3,k11m4]
 instanceTypes:= #[]
 staticTypes:= #[.int,.int,.boolean]
 resolved:=Array.replicate 1029 none
 statics:=none}
def pool12:Array CpInfo:=pool [(2,.class_ 4),(1,u "java/lang/Object"),(0,u "<init>"),(0,u "()V"),(1,.class_ 10),(1,u "java/lang/System"),(0,u "allowSecurityManager"),(0,u "I"),(16,u "cons"),(0,u "Ljava/io/Console;"),(77,.class_ 110),(1,u "java/lang/System$CallersHolder"),(43,u "initialErrStream"),(0,u "Ljava/io/PrintStream;"),(19,u "security"),(0,u "Ljava/lang/SecurityManager;"),(31,.class_ 209),(0,u "java/lang/System$1"),(7,u "props"),(0,u "Ljava/util/Properties;"),(2,u "lineSeparator"),(0,u "Ljava/lang/String;"),(96,.class_ 321),(1,u "java/lang/System$LoggerFinder"),(5,.class_ 328),(0,u "java/lang/System$Logger"),(67,u "err"),(2,u "out"),(91,u "notSupportedJnuEncoding"),(15,u "in"),(17,u "initialIn"),(0,u "Ljava/io/InputStream;"),(35,u "bootLayer"),(0,u "Ljava/lang/ModuleLayer;"),(99,.class_ 664),(0,u "java/lang/System$2"),(9,u "NEVER"),(2,u "MAYBE"),(49,u "arraycopy"),(0,u "(Ljava/lang/Object;ILjava/lang/Object;II)V"),(72,.class_ 802),(0,u "java/lang/System$Logger$Level")] 31
def k12m0:Method:={name:="<init>",desc:="()V",sig:={parameters:= [],returnType:=none},accessFlags:=2,code:=none}
def k12m1:Method:={name:="arraycopy",desc:="(Ljava/lang/Object;ILjava/lang/Object;II)V",sig:={parameters:= [(.object "java/lang/Object"),.int,(.object "java/lang/Object"),.int,.int],returnType:=none},accessFlags:=265,code:=none}
def k12:Class:={plain "java/lang/System" (some 0) with
 accessFlags:=49
 interfaces:= #[]
 cf:=some (fileOf pool12 8 #[.nestMembers #[319,327,801,108,663,208]] #[{accessFlags:=2,nameIndex:=5,descriptorIndex:=6,attributes:= #[]},{accessFlags:=265,nameIndex:=727,descriptorIndex:=728,attributes:= #[]}] 49 2 #[] #[{accessFlags:=25,nameIndex:=507,descriptorIndex:=526,attributes:= #[]},{accessFlags:=25,nameIndex:=399,descriptorIndex:=155,attributes:= #[]},{accessFlags:=25,nameIndex:=396,descriptorIndex:=155,attributes:= #[]},{accessFlags:=10,nameIndex:=525,descriptorIndex:=526,attributes:= #[]},{accessFlags:=26,nameIndex:=674,descriptorIndex:=12,attributes:= #[]},{accessFlags:=26,nameIndex:=677,descriptorIndex:=12,attributes:= #[]},{accessFlags:=10,nameIndex:=11,descriptorIndex:=12,attributes:= #[]},{accessFlags:=74,nameIndex:=175,descriptorIndex:=176,attributes:= #[]},{accessFlags:=10,nameIndex:=491,descriptorIndex:=222,attributes:= #[]},{accessFlags:=74,nameIndex:=29,descriptorIndex:=30,attributes:= #[]},{accessFlags:=74,nameIndex:=154,descriptorIndex:=155,attributes:= #[]},{accessFlags:=10,nameIndex:=217,descriptorIndex:=218,attributes:= #[]},{accessFlags:=10,nameIndex:=221,descriptorIndex:=222,attributes:= #[]},{accessFlags:=8,nameIndex:=562,descriptorIndex:=563,attributes:= #[]}])
 fields:= #[{name:="in",type:=(.object "java/io/InputStream"),accessFlags:=25,slot:=0,constantValue:=0},{name:="out",type:=(.object "java/io/PrintStream"),accessFlags:=25,slot:=1,constantValue:=0},{name:="err",type:=(.object "java/io/PrintStream"),accessFlags:=25,slot:=2,constantValue:=0},{name:="initialIn",type:=(.object "java/io/InputStream"),accessFlags:=10,slot:=3,constantValue:=0},{name:="NEVER",type:= .int,accessFlags:=26,slot:=4,constantValue:=0},{name:="MAYBE",type:= .int,accessFlags:=26,slot:=5,constantValue:=0},{name:="allowSecurityManager",type:= .int,accessFlags:=10,slot:=6,constantValue:=0},{name:="security",type:=(.object "java/lang/SecurityManager"),accessFlags:=74,slot:=7,constantValue:=0},{name:="notSupportedJnuEncoding",type:=(.object "java/lang/String"),accessFlags:=10,slot:=8,constantValue:=0},{name:="cons",type:=(.object "java/io/Console"),accessFlags:=74,slot:=9,constantValue:=0},{name:="initialErrStream",type:=(.object "java/io/PrintStream"),accessFlags:=74,slot:=10,constantValue:=0},{name:="props",type:=(.object "java/util/Properties"),accessFlags:=10,slot:=11,constantValue:=0},{name:="lineSeparator",type:=(.object "java/lang/String"),accessFlags:=10,slot:=12,constantValue:=0},{name:="bootLayer",type:=(.object "java/lang/ModuleLayer"),accessFlags:=8,slot:=13,constantValue:=0}]
 methods:= #[k12m0,k12m1]
 instanceTypes:= #[]
 staticTypes:= #[(.object "java/io/InputStream"),(.object "java/io/PrintStream"),(.object "java/io/PrintStream"),(.object "java/io/InputStream"),.int,.int,.int,(.object "java/lang/SecurityManager"),(.object "java/lang/String"),(.object "java/io/Console"),(.object "java/io/PrintStream"),(.object "java/util/Properties"),(.object "java/lang/String"),(.object "java/lang/ModuleLayer")]
 resolved:=Array.replicate 834 none
 statics:=none}
def pool13:Array CpInfo:=pool [(1,.class_ 2),(0,u "java/math/BigInteger"),(2,.methodref 6 7),(0,.class_ 8),(0,.nameAndType 9 10),(0,u "java/lang/Object"),(0,u "<init>"),(0,u "()V"),(0,.fieldref 12 13),(0,.class_ 14),(0,.nameAndType 15 16),(0,u "java/math/MutableBigInteger"),(0,u "offset"),(0,u "I"),(0,.fieldref 12 18),(0,.nameAndType 19 20),(0,u "value"),(0,u "[I"),(0,.fieldref 12 22),(0,.nameAndType 23 16),(0,u "intLen"),(4,.class_ 30),(1,u "java/util/Arrays"),(2,.methodref 28 34),(0,.nameAndType 35 36),(0,u "copyOfRange"),(0,u "([III)[I"),(0,.methodref 28 38),(0,.nameAndType 39 40),(0,u "fill"),(0,u "([II)V"),(2,u "$assertionsDisabled"),(0,u "Z"),(7,.long 4294967295),(1,.fieldref 1 55),(0,.nameAndType 56 57),(0,u "ZERO"),(0,u "Ljava/math/BigInteger;"),(0,.methodref 12 59),(0,.nameAndType 60 61),(0,u "getMagnitudeArray"),(0,u "()[I"),(0,.methodref 1 63),(0,.nameAndType 9 40),(0,.methodref 12 65),(0,.nameAndType 66 10),(0,u "normalize"),(6,u "toBigInteger"),(0,u "(I)Ljava/math/BigInteger;"),(4,.long 9223372036854775808),(8,.integer 2147483648),(1,.class_ 92),(1,u "java/lang/Integer"),(1,u "(I)I"),(13,.methodref 12 109),(0,.nameAndType 110 111),(0,u "rightShift"),(0,u "(I)V"),(0,.methodref 1 113),(0,.nameAndType 114 94),(0,u "bitLengthForInt"),(0,.methodref 12 116),(0,.nameAndType 117 111),(0,u "primitiveLeftShift"),(18,.methodref 12 137),(0,.nameAndType 9 138),(0,u "(Ljava/math/MutableBigInteger;)V"),(3,.methodref 12 143),(0,.nameAndType 144 145),(0,u "compare"),(0,u "(Ljava/math/MutableBigInteger;)I"),(3,.methodref 12 150),(0,.nameAndType 151 10),(0,u "clear"),(0,.methodref 90 153),(0,.nameAndType 154 94),(0,u "numberOfLeadingZeros"),(0,.methodref 12 156),(0,.nameAndType 157 158),(0,u "divWord"),(0,u "(JI)J"),(3,u "(Ljava/math/MutableBigInteger;Ljava/math/MutableBigInteger;Z)Ljava/math/MutableBigInteger;"),(0,.methodref 12 164),(0,.nameAndType 165 162),(0,u "divideKnuth"),(3,u "(Ljava/math/MutableBigInteger;Ljava/math/MutableBigInteger;)Ljava/math/MutableBigInteger;"),(7,.methodref 12 7),(0,.methodref 12 179),(0,.nameAndType 180 181),(0,u "divideOneWord"),(0,u "(ILjava/math/MutableBigInteger;)I"),(0,.methodref 12 183),(0,.nameAndType 9 111),(6,.methodref 12 191),(0,.nameAndType 192 162),(0,u "divideMagnitude"),(64,u "ONE"),(0,u "Ljava/math/MutableBigInteger;"),(0,.methodref 12 260),(0,.nameAndType 9 261),(0,u "([I)V"),(7,.methodref 12 270),(0,.nameAndType 271 272),(0,u "copyAndShift"),(0,u "([III[III)V"),(0,.methodref 12 274),(0,.nameAndType 275 276),(0,u "unsignedLongCompare"),(0,u "(JJ)Z"),(0,.methodref 12 278),(0,.nameAndType 279 280),(0,u "mulsub"),(0,u "([I[IIII)I"),(130,u "KNUTH_POW2_THRESH_LEN"),(2,u "KNUTH_POW2_THRESH_ZEROS")] 175
def k13c0:Code:={maxStack:=2,maxLocals:=1,code:=jdk_2101_method_1_code,exceptionTable:= #[],attributes:= #[]}
def k13m0:Method:={name:="<init>",desc:="()V",sig:={parameters:= [],returnType:=none},accessFlags:=0,code:=some k13c0}
def k13c1:Code:={maxStack:=3,maxLocals:=2,code:=jdk_2101_method_2_code,exceptionTable:= #[],attributes:= #[]}
def k13m1:Method:={name:="<init>",desc:="(I)V",sig:={parameters:= [.int],returnType:=none},accessFlags:=0,code:=some k13c1}
def k13c2:Code:={maxStack:=2,maxLocals:=2,code:=jdk_2101_method_3_code,exceptionTable:= #[],attributes:= #[]}
def k13m2:Method:={name:="<init>",desc:="([I)V",sig:={parameters:= [(.array .int)],returnType:=none},accessFlags:=0,code:=some k13c2}
def k13c3:Code:={maxStack:=5,maxLocals:=2,code:=jdk_2101_method_5_code,exceptionTable:= #[],attributes:= #[]}
def k13m3:Method:={name:="<init>",desc:="(Ljava/math/MutableBigInteger;)V",sig:={parameters:= [(.object "java/math/MutableBigInteger")],returnType:=none},accessFlags:=0,code:=some k13c3}
def k13c4:Code:={maxStack:=4,maxLocals:=2,code:=jdk_2101_method_7_code,exceptionTable:= #[],attributes:= #[]}
def k13m4:Method:={name:="getMagnitudeArray",desc:="()[I",sig:={parameters:= [],returnType:=some (.array .int)},accessFlags:=2,code:=some k13c4}
def k13c5:Code:={maxStack:=4,maxLocals:=2,code:=jdk_2101_method_9_code,exceptionTable:= #[],attributes:= #[]}
def k13m5:Method:={name:="toBigInteger",desc:="(I)Ljava/math/BigInteger;",sig:={parameters:= [.int],returnType:=some (.object "java/math/BigInteger")},accessFlags:=0,code:=some k13c5}
def k13c6:Code:={maxStack:=4,maxLocals:=3,code:=jdk_2101_method_13_code,exceptionTable:= #[],attributes:= #[]}
def k13m6:Method:={name:="clear",desc:="()V",sig:={parameters:= [],returnType:=none},accessFlags:=0,code:=some k13c6}
def k13c7:Code:={maxStack:=3,maxLocals:=8,code:=jdk_2101_method_15_code,exceptionTable:= #[],attributes:= #[]}
def k13m7:Method:={name:="compare",desc:="(Ljava/math/MutableBigInteger;)I",sig:={parameters:= [(.object "java/math/MutableBigInteger")],returnType:=some .int},accessFlags:=16,code:=some k13c7}
def k13c8:Code:={maxStack:=3,maxLocals:=4,code:=jdk_2101_method_21_code,exceptionTable:= #[],attributes:= #[]}
def k13m8:Method:={name:="normalize",desc:="()V",sig:={parameters:= [],returnType:=none},accessFlags:=16,code:=some k13c8}
def k13c9:Code:={maxStack:=3,maxLocals:=5,code:=jdk_2101_method_35_code,exceptionTable:= #[],attributes:= #[]}
def k13m9:Method:={name:="rightShift",desc:="(I)V",sig:={parameters:= [.int],returnType:=none},accessFlags:=0,code:=some k13c9}
def k13c10:Code:={maxStack:=8,maxLocals:=15,code:=jdk_2101_method_39_code,exceptionTable:= #[],attributes:= #[]}
def k13m10:Method:={name:="mulsub",desc:="([I[IIII)I",sig:={parameters:= [(.array .int),(.array .int),.int,.int,.int],returnType:=some .int},accessFlags:=2,code:=some k13c10}
def k13c11:Code:={maxStack:=5,maxLocals:=8,code:=jdk_2101_method_42_code,exceptionTable:= #[],attributes:= #[]}
def k13m11:Method:={name:="primitiveLeftShift",desc:="(I)V",sig:={parameters:= [.int],returnType:=none},accessFlags:=18,code:=some k13c11}
def k13c12:Code:={maxStack:=6,maxLocals:=15,code:=jdk_2101_method_53_code,exceptionTable:= #[],attributes:= #[]}
def k13m12:Method:={name:="divideOneWord",desc:="(ILjava/math/MutableBigInteger;)I",sig:={parameters:= [.int,(.object "java/math/MutableBigInteger")],returnType:=some .int},accessFlags:=0,code:=some k13c12}
def k13c13:Code:={maxStack:=4,maxLocals:=3,code:=jdk_2101_method_56_code,exceptionTable:= #[],attributes:= #[]}
def k13m13:Method:={name:="divideKnuth",desc:="(Ljava/math/MutableBigInteger;Ljava/math/MutableBigInteger;)Ljava/math/MutableBigInteger;",sig:={parameters:= [(.object "java/math/MutableBigInteger"),(.object "java/math/MutableBigInteger")],returnType:=some (.object "java/math/MutableBigInteger")},accessFlags:=0,code:=some k13c13}
def k13c14:Code:={maxStack:=5,maxLocals:=8,code:=jdk_2101_method_57_code,exceptionTable:= #[],attributes:= #[]}
def k13m14:Method:={name:="divideKnuth",desc:="(Ljava/math/MutableBigInteger;Ljava/math/MutableBigInteger;Z)Ljava/math/MutableBigInteger;",sig:={parameters:= [(.object "java/math/MutableBigInteger"),(.object "java/math/MutableBigInteger"),.boolean],returnType:=some (.object "java/math/MutableBigInteger")},accessFlags:=0,code:=some k13c14}
def k13c15:Code:={maxStack:=5,maxLocals:=10,code:=jdk_2101_method_64_code,exceptionTable:= #[],attributes:= #[]}
def k13m15:Method:={name:="copyAndShift",desc:="([III[III)V",sig:={parameters:= [(.array .int),.int,.int,(.array .int),.int,.int],returnType:=none},accessFlags:=10,code:=some k13c15}
def k13c16:Code:={maxStack:=7,maxLocals:=28,code:=jdk_2101_method_65_code,exceptionTable:= #[],attributes:= #[]}
def k13m16:Method:={name:="divideMagnitude",desc:="(Ljava/math/MutableBigInteger;Ljava/math/MutableBigInteger;Z)Ljava/math/MutableBigInteger;",sig:={parameters:= [(.object "java/math/MutableBigInteger"),(.object "java/math/MutableBigInteger"),.boolean],returnType:=some (.object "java/math/MutableBigInteger")},accessFlags:=2,code:=some k13c16}
def k13c17:Code:={maxStack:=6,maxLocals:=5,code:=jdk_2101_method_69_code,exceptionTable:= #[],attributes:= #[]}
def k13m17:Method:={name:="unsignedLongCompare",desc:="(JJ)Z",sig:={parameters:= [.long,.long],returnType:=some .boolean},accessFlags:=2,code:=some k13c17}
def k13c18:Code:={maxStack:=6,maxLocals:=9,code:=jdk_2101_method_70_code,exceptionTable:= #[],attributes:= #[]}
def k13m18:Method:={name:="divWord",desc:="(JI)J",sig:={parameters:= [.long,.int],returnType:=some .long},accessFlags:=8,code:=some k13c18}
def k13:Class:={plain "java/math/MutableBigInteger" (some 0) with
 accessFlags:=32
 interfaces:= #[]
 cf:=some (fileOf pool13 12 #[] #[{accessFlags:=0,nameIndex:=9,descriptorIndex:=10,attributes:= #[]},{accessFlags:=0,nameIndex:=9,descriptorIndex:=111,attributes:= #[]},{accessFlags:=0,nameIndex:=9,descriptorIndex:=261,attributes:= #[]},{accessFlags:=0,nameIndex:=9,descriptorIndex:=138,attributes:= #[]},{accessFlags:=2,nameIndex:=60,descriptorIndex:=61,attributes:= #[]},{accessFlags:=0,nameIndex:=73,descriptorIndex:=74,attributes:= #[]},{accessFlags:=0,nameIndex:=151,descriptorIndex:=10,attributes:= #[]},{accessFlags:=16,nameIndex:=144,descriptorIndex:=145,attributes:= #[]},{accessFlags:=16,nameIndex:=66,descriptorIndex:=10,attributes:= #[]},{accessFlags:=0,nameIndex:=110,descriptorIndex:=111,attributes:= #[]},{accessFlags:=2,nameIndex:=279,descriptorIndex:=280,attributes:= #[]},{accessFlags:=18,nameIndex:=117,descriptorIndex:=111,attributes:= #[]},{accessFlags:=0,nameIndex:=180,descriptorIndex:=181,attributes:= #[]},{accessFlags:=0,nameIndex:=165,descriptorIndex:=169,attributes:= #[]},{accessFlags:=0,nameIndex:=165,descriptorIndex:=162,attributes:= #[]},{accessFlags:=10,nameIndex:=271,descriptorIndex:=272,attributes:= #[]},{accessFlags:=2,nameIndex:=192,descriptorIndex:=162,attributes:= #[]},{accessFlags:=2,nameIndex:=275,descriptorIndex:=276,attributes:= #[]},{accessFlags:=8,nameIndex:=157,descriptorIndex:=158,attributes:= #[]}] 32 6 #[] #[{accessFlags:=0,nameIndex:=19,descriptorIndex:=20,attributes:= #[]},{accessFlags:=0,nameIndex:=23,descriptorIndex:=16,attributes:= #[]},{accessFlags:=0,nameIndex:=15,descriptorIndex:=16,attributes:= #[]},{accessFlags:=24,nameIndex:=257,descriptorIndex:=258,attributes:= #[]},{accessFlags:=24,nameIndex:=411,descriptorIndex:=16,attributes:= #[]},{accessFlags:=24,nameIndex:=414,descriptorIndex:=16,attributes:= #[]},{accessFlags:=4120,nameIndex:=43,descriptorIndex:=44,attributes:= #[]}])
 fields:= #[{name:="value",type:=(.array .int),accessFlags:=0,slot:=0,constantValue:=0},{name:="intLen",type:= .int,accessFlags:=0,slot:=1,constantValue:=0},{name:="offset",type:= .int,accessFlags:=0,slot:=2,constantValue:=0},{name:="ONE",type:=(.object "java/math/MutableBigInteger"),accessFlags:=24,slot:=0,constantValue:=0},{name:="KNUTH_POW2_THRESH_LEN",type:= .int,accessFlags:=24,slot:=1,constantValue:=0},{name:="KNUTH_POW2_THRESH_ZEROS",type:= .int,accessFlags:=24,slot:=2,constantValue:=0},{name:="$assertionsDisabled",type:= .boolean,accessFlags:=4120,slot:=3,constantValue:=0}]
 methods:= #[k13m0,k13m1,k13m2,k13m3,k13m4,k13m5,k13m6,k13m7,k13m8,k13m9,k13m10,k13m11,k13m12,k13m13,k13m14,k13m15,k13m16,k13m17,k13m18]
 instanceTypes:= #[(.array .int),.int,.int]
 staticTypes:= #[(.object "java/math/MutableBigInteger"),.int,.int,.boolean]
 resolved:=Array.replicate 590 none
 statics:=none}
def pool14:Array CpInfo:=pool [(1,.class_ 2),(0,u "java/lang/Cloneable"),(0,.class_ 4),(0,u "java/lang/Object")] 2
def k14:Class:={plain "java/lang/Cloneable" (some 0) with
 accessFlags:=1537
 interfaces:= #[]
 cf:=some (fileOf pool14 1 #[] #[] 1537 3 #[] #[])
 fields:= #[]
 methods:= #[]
 instanceTypes:= #[]
 staticTypes:= #[]
 resolved:=Array.replicate 7 none
 statics:=none}
def pool15:Array CpInfo:=pool [(2,.class_ 4),(1,u "java/lang/Object"),(0,u "<init>"),(0,u "()V"),(35,.class_ 44),(1,u "java/util/Objects"),(0,u "requireNonNull"),(0,u "(Ljava/lang/Object;)Ljava/lang/Object;"),(59,.class_ 108),(1,u "jdk/internal/util/Preconditions"),(2,.methodref 106 112),(0,.nameAndType 113 114),(0,u "checkFromToIndex"),(0,u "(IIILjava/util/function/BiFunction;)I"),(60,u "(III)I")] 8
def k15m0:Method:={name:="<init>",desc:="()V",sig:={parameters:= [],returnType:=none},accessFlags:=2,code:=none}
def k15c1:Code:={maxStack:=2,maxLocals:=1,code:=jdk_31_method_10_code,exceptionTable:= #[],attributes:= #[]}
def k15m1:Method:={name:="requireNonNull",desc:="(Ljava/lang/Object;)Ljava/lang/Object;",sig:={parameters:= [(.object "java/lang/Object")],returnType:=some (.object "java/lang/Object")},accessFlags:=9,code:=some k15c1}
def k15c2:Code:={maxStack:=4,maxLocals:=3,code:=jdk_31_method_18_code,exceptionTable:= #[],attributes:= #[]}
def k15m2:Method:={name:="checkFromToIndex",desc:="(III)I",sig:={parameters:= [.int,.int,.int],returnType:=some .int},accessFlags:=9,code:=some k15c2}
def k15:Class:={plain "java/util/Objects" (some 0) with
 accessFlags:=49
 interfaces:= #[]
 cf:=some (fileOf pool15 42 #[] #[{accessFlags:=2,nameIndex:=5,descriptorIndex:=6,attributes:= #[]},{accessFlags:=9,nameIndex:=45,descriptorIndex:=46,attributes:= #[]},{accessFlags:=9,nameIndex:=113,descriptorIndex:=175,attributes:= #[]}] 49 2 #[] #[])
 fields:= #[]
 methods:= #[k15m0,k15m1,k15m2]
 instanceTypes:= #[]
 staticTypes:= #[]
 resolved:=Array.replicate 184 none
 statics:=none}
def pool16:Array CpInfo:=pool [(2,.class_ 4),(1,u "java/lang/Object"),(0,u "<init>"),(0,u "()V"),(17,.class_ 26),(1,u "jdk/internal/util/Preconditions"),(20,u "checkFromToIndex"),(7,.class_ 56),(0,u "jdk/internal/util/Preconditions$4"),(57,.class_ 115),(0,u "jdk/internal/util/Preconditions$1"),(7,u "SIOOBE_FORMATTER"),(0,u "Ljava/util/function/BiFunction;"),(0,.class_ 126),(0,u "jdk/internal/util/Preconditions$2"),(3,u "AIOOBE_FORMATTER"),(0,.class_ 132),(0,u "jdk/internal/util/Preconditions$3"),(3,u "IOOBE_FORMATTER"),(46,u "(IIILjava/util/function/BiFunction;)I")] 10
def k16m0:Method:={name:="<init>",desc:="()V",sig:={parameters:= [],returnType:=none},accessFlags:=1,code:=none}
def k16c1:Code:={maxStack:=4,maxLocals:=4,code:=jdk_41_method_12_code,exceptionTable:= #[],attributes:= #[]}
def k16m1:Method:={name:="checkFromToIndex",desc:="(IIILjava/util/function/BiFunction;)I",sig:={parameters:= [.int,.int,.int,(.object "java/util/function/BiFunction")],returnType:=some .int},accessFlags:=9,code:=some k16c1}
def k16:Class:={plain "jdk/internal/util/Preconditions" (some 0) with
 accessFlags:=33
 interfaces:= #[]
 cf:=some (fileOf pool16 24 #[.nestMembers #[55,131,125,114]] #[{accessFlags:=1,nameIndex:=5,descriptorIndex:=6,attributes:= #[]},{accessFlags:=9,nameIndex:=47,descriptorIndex:=183,attributes:= #[]}] 33 2 #[] #[{accessFlags:=25,nameIndex:=123,descriptorIndex:=124,attributes:= #[]},{accessFlags:=25,nameIndex:=130,descriptorIndex:=124,attributes:= #[]},{accessFlags:=25,nameIndex:=136,descriptorIndex:=124,attributes:= #[]}])
 fields:= #[{name:="SIOOBE_FORMATTER",type:=(.object "java/util/function/BiFunction"),accessFlags:=25,slot:=0,constantValue:=0},{name:="AIOOBE_FORMATTER",type:=(.object "java/util/function/BiFunction"),accessFlags:=25,slot:=1,constantValue:=0},{name:="IOOBE_FORMATTER",type:=(.object "java/util/function/BiFunction"),accessFlags:=25,slot:=2,constantValue:=0}]
 methods:= #[k16m0,k16m1]
 instanceTypes:= #[]
 staticTypes:= #[(.object "java/util/function/BiFunction"),(.object "java/util/function/BiFunction"),(.object "java/util/function/BiFunction")]
 resolved:=Array.replicate 194 none
 statics:=none}
def k17:Class:={plain "byte" none with kind:= .primitive 'B',accessFlags:=0x411}
def k18:Class:={plain "[B" (some 0) with kind:= .array 17 .byte,interfaces:= #[14,4],accessFlags:=1041}
def k19:Class:={plain "int" none with kind:= .primitive 'I',accessFlags:=0x411}
def k20:Class:={plain "[I" (some 0) with kind:= .array 19 .int,interfaces:= #[14,4],accessFlags:=1041}
def k21:Class:={plain "[Ljava/math/BigInteger;" (some 0) with kind:= .array 7 (.object "java/math/BigInteger"),interfaces:= #[14,4],accessFlags:=1041}
def heap:Heap:= #[{cls:=7,slots:= #[.long 0,.int 0,.int 0,.int 0,.int 0,.int 0,.int 0,.int 0,.int 0,.int 0,.int 0,.int 0,.null,.int 0,.int 0,.null,.int 0,.ref 1,.null,.null,.null,.double 0,.ref 18,.ref 2,.ref 3,.null,.ref 11,.null,.int 0,.null,.null,.null,.null,.null,.long 0,.null,.int 0],vm:= .statics 7},
 {cls:=21,slots:= #[.null,.ref 2,.ref 3,.ref 4,.ref 5,.ref 6,.ref 7,.ref 8,.ref 9,.ref 10,.ref 11,.ref 12,.ref 13,.ref 14,.ref 15,.ref 16,.ref 17],vm:= .none},
 {cls:=7,slots:= #[.int 1,.ref 19,.int 0,.int 0,.int 0,.int 0],vm:= .none},
 {cls:=7,slots:= #[.int 1,.ref 20,.int 0,.int 0,.int 0,.int 0],vm:= .none},
 {cls:=7,slots:= #[.int 1,.ref 21,.int 0,.int 0,.int 0,.int 0],vm:= .none},
 {cls:=7,slots:= #[.int 1,.ref 22,.int 0,.int 0,.int 0,.int 0],vm:= .none},
 {cls:=7,slots:= #[.int 1,.ref 23,.int 0,.int 0,.int 0,.int 0],vm:= .none},
 {cls:=7,slots:= #[.int 1,.ref 24,.int 0,.int 0,.int 0,.int 0],vm:= .none},
 {cls:=7,slots:= #[.int 1,.ref 25,.int 0,.int 0,.int 0,.int 0],vm:= .none},
 {cls:=7,slots:= #[.int 1,.ref 26,.int 0,.int 0,.int 0,.int 0],vm:= .none},
 {cls:=7,slots:= #[.int 1,.ref 27,.int 0,.int 0,.int 0,.int 0],vm:= .none},
 {cls:=7,slots:= #[.int 1,.ref 28,.int 0,.int 0,.int 0,.int 0],vm:= .none},
 {cls:=7,slots:= #[.int 1,.ref 29,.int 0,.int 0,.int 0,.int 0],vm:= .none},
 {cls:=7,slots:= #[.int 1,.ref 30,.int 0,.int 0,.int 0,.int 0],vm:= .none},
 {cls:=7,slots:= #[.int 1,.ref 31,.int 0,.int 0,.int 0,.int 0],vm:= .none},
 {cls:=7,slots:= #[.int 1,.ref 32,.int 0,.int 0,.int 0,.int 0],vm:= .none},
 {cls:=7,slots:= #[.int 1,.ref 33,.int 0,.int 0,.int 0,.int 0],vm:= .none},
 {cls:=7,slots:= #[.int 1,.ref 34,.int 0,.int 0,.int 0,.int 0],vm:= .none},
 {cls:=7,slots:= #[.int 0,.ref 35,.int 0,.int 0,.int 0,.int 0],vm:= .none},
 {cls:=20,slots:= #[.int 1],vm:= .none},
 {cls:=20,slots:= #[.int 2],vm:= .none},
 {cls:=20,slots:= #[.int 3],vm:= .none},
 {cls:=20,slots:= #[.int 4],vm:= .none},
 {cls:=20,slots:= #[.int 5],vm:= .none},
 {cls:=20,slots:= #[.int 6],vm:= .none},
 {cls:=20,slots:= #[.int 7],vm:= .none},
 {cls:=20,slots:= #[.int 8],vm:= .none},
 {cls:=20,slots:= #[.int 9],vm:= .none},
 {cls:=20,slots:= #[.int 10],vm:= .none},
 {cls:=20,slots:= #[.int 11],vm:= .none},
 {cls:=20,slots:= #[.int 12],vm:= .none},
 {cls:=20,slots:= #[.int 13],vm:= .none},
 {cls:=20,slots:= #[.int 14],vm:= .none},
 {cls:=20,slots:= #[.int 15],vm:= .none},
 {cls:=20,slots:= #[.int 16],vm:= .none},
 {cls:=20,slots:= #[],vm:= .none}]
def classes:Array Class:= #[k0,k1,k2,k3,k4,k5,k6,k7,k8,k9,k10,k11,k12,k13,k14,k15,k16,k17,k18,k19,k20,k21]
def interned:List (Array UInt16×Addr):= []
def slotsUsed:Nat:=172
def theMethod:MethodId:=⟨1,4⟩
def args0:Array Value:= #[.long 5,.long 3,.long 7,.int 0]
def aboutOver (below:List Frame):State where
 vm:={classes:=classes,interned:=interned.toArray}
 heap:=heap
 slotsUsed:=slotsUsed
 threads:= #[{frames:= .invoking theMethod args0::below}]
def below0:List Frame:= [.native {method:=⟨0,0⟩,args:= #[]}]
def about1:State:=aboutOver below0
def p0:Program:= .bare "" "" ""
def e0:Env:=launch0.env 0 0 0
theorem w_frames:about1.frames=Frame.invoking theMethod args0::below0:=rfl
set_option maxRecDepth 65536 in
theorem w_args:argsFit about1.vm theMethod args0=true:=by decide+kernel
set_option maxRecDepth 65536 in
theorem w_heap:heapFits about1=true:=by decide+kernel
set_option maxRecDepth 65536 in
theorem w_runnable:about1.curStatus? =some .runnable:=by decide+kernel
set_option maxRecDepth 65536 in
theorem w_alone:about1.alone=true:=by decide+kernel
set_option maxRecDepth 65536 in
theorem w_named:about1.methodNamed? x=some theMethod:=by decide+kernel
set_option maxRecDepth 65536 in
theorem w_hears:about1.hears theMethod below0=true:=by decide+kernel
set_option maxRecDepth 65536 in
theorem w_ripe:about1.ripe theMethod args0 below0=true:=by decide+kernel
theorem w_running:about1.status= .running:=rfl
set_option maxRecDepth 65536 in
theorem w_room:about1.hasRoom e0.platform room_1=true:=
 launch0.hasRoom_least _ room_1 (by decide+kernel) (by decide+kernel) (by decide+kernel) (by decide+kernel) (by decide+kernel) (by decide+kernel)
theorem allAtoms_all (ts:List Jvm.Cond)(a:Array Jvm.Value)(st:Jvm.State):(allAtoms ts).before a st=ts.all (fun c=>c.before a st):=by
 induction ts with
 |nil=>rfl
 |cons c t ih=>
  show (Jvm.Cond.and c (allAtoms t)).before a st=_
  rw[Jvm.Cond.before_and,ih,List.all_cons]
def words1:List Jvm.Cond:=Jvm.Cond.code x code maxLocals ret::tables_1
theorem code_word {y:MethodName}{bytes:ByteArray}{mx:Nat}{rt:Option FieldType}{a:Array Value}{s:State}{m:MethodId}{meth:Method}{c:Code}(h1:s.methodNamed? y=some m)(h2:s.vm.method? m=some meth)(h3:meth.code=some c)(h4:c.code=bytes)
  (h5:(c.maxLocals==mx&&c.exceptionTable.isEmpty&&decide (c.maxStack≤mostOperands)&&decide (meth.sig.returnType=rt)&& !meth.locks&&decide (parseMethodDescriptor y.desc=some meth.sig))=true):(Jvm.Cond.code y bytes mx rt).before a s=true:=by
 simp only[Bool.and_eq_true,beq_iff_eq,Bool.not_eq_true',decide_eq_true_eq] at h5
 obtain ⟨⟨⟨⟨⟨g1,g2⟩,g3⟩,g4⟩,g5⟩,g6⟩:=h5
 simp[Cond.before,Cond.holds,Cond.value,h1,h2,h3,h4,g1,g2,g3,g4,g5,g6]
def isCode:Jvm.Cond→Bool
 | .code _ _ _ _=>true
 |_=>false
theorem all_split {L:List Jvm.Cond}{P:Jvm.Cond→Bool}(h1:L.all (fun c=>isCode c||P c)=true)(h2: ∀c∈L.filter isCode,P c=true):L.all P=true:=by
 refine List.all_eq_true.mpr fun c hc=> ?_
 have h:=List.all_eq_true.mp h1 c hc
 rcases Bool.eq_false_or_eq_true (isCode c) with hi|hi
 ·exact h2 c (List.mem_filter.mpr ⟨hc,hi⟩)
 ·simpa [hi] using h
set_option maxRecDepth 65536 in
theorem w_c0:(Jvm.Cond.code x code maxLocals ret).before args0 about1=true:=code_word (m:=⟨1,4⟩) (meth:=k1m4) (c:=k1c4) (by decide+kernel) rfl rfl rfl (by decide+kernel)
set_option maxRecDepth 65536 in
theorem w_c1:(Jvm.Cond.code ({cls:="java/lang/Math",name:="max",desc:="(JJ)J"}:Jvm.MethodName) jdk_29_method_66_code (4:Nat) (Option.some Jvm.ClassFile.FieldType.long)).before args0 about1=true:=code_word (m:=⟨2,1⟩) (meth:=k2m1) (c:=k2c1) (by decide+kernel) rfl rfl rfl (by decide+kernel)
set_option maxRecDepth 65536 in
theorem w_c2:(Jvm.Cond.code ({cls:="com/example/nuthatch/nuthatch/ArgumentsRequireFillMillisPinLaw",name:="cmp",desc:="(JJJJ)I"}:Jvm.MethodName) method_4_code (16:Nat) (Option.some Jvm.ClassFile.FieldType.int)).before args0 about1=true:=code_word (m:=⟨1,3⟩) (meth:=k1m3) (c:=k1c3) (by decide+kernel) rfl rfl rfl (by decide+kernel)
set_option maxRecDepth 65536 in
theorem w_c3:(Jvm.Cond.code ({cls:="com/example/nuthatch/nuthatch/ArgumentsRequireFillMillisPinLaw",name:="high",desc:="(JJ)J"}:Jvm.MethodName) method_2_code (20:Nat) (Option.some Jvm.ClassFile.FieldType.long)).before args0 about1=true:=code_word (m:=⟨1,1⟩) (meth:=k1m1) (c:=k1c1) (by decide+kernel) rfl rfl rfl (by decide+kernel)
set_option maxRecDepth 65536 in
theorem w_c4:(Jvm.Cond.code ({cls:="com/example/nuthatch/nuthatch/ArgumentsRequireFillMillisPinLaw",name:="low",desc:="(JJ)J"}:Jvm.MethodName) method_3_code (18:Nat) (Option.some Jvm.ClassFile.FieldType.long)).before args0 about1=true:=code_word (m:=⟨1,2⟩) (meth:=k1m2) (c:=k1c2) (by decide+kernel) rfl rfl rfl (by decide+kernel)
set_option maxRecDepth 65536 in
theorem w_c5:(Jvm.Cond.code ({cls:="com/example/nuthatch/nuthatch/Arguments",name:="requireFillMillis",desc:="(JJJ)J"}:Jvm.MethodName) prog_1_method_4_code (8:Nat) (Option.some Jvm.ClassFile.FieldType.long)).before args0 about1=true:=code_word (m:=⟨3,1⟩) (meth:=k3m1) (c:=k3c1) (by decide+kernel) rfl rfl rfl (by decide+kernel)
set_option maxRecDepth 65536 in
theorem w_c6:(Jvm.Cond.code ({cls:="java/math/BigInteger",name:="valueOf",desc:="(J)Ljava/math/BigInteger;"}:Jvm.MethodName) jdk_2097_method_29_code (2:Nat) (Option.some (Jvm.ClassFile.FieldType.object "java/math/BigInteger"))).before args0 about1=true:=code_word (m:=⟨7,1⟩) (meth:=k7m1) (c:=k7c1) (by decide+kernel) rfl rfl rfl (by decide+kernel)
set_option maxRecDepth 65536 in
theorem w_c7:(Jvm.Cond.code ({cls:="java/math/BigInteger",name:="multiply",desc:="(Ljava/math/BigInteger;)Ljava/math/BigInteger;"}:Jvm.MethodName) jdk_2097_method_40_code (2:Nat) (Option.some (Jvm.ClassFile.FieldType.object "java/math/BigInteger"))).before args0 about1=true:=code_word (m:=⟨7,5⟩) (meth:=k7m5) (c:=k7c5) (by decide+kernel) rfl rfl rfl (by decide+kernel)
set_option maxRecDepth 65536 in
theorem w_c8:(Jvm.Cond.code ({cls:="java/math/BigInteger",name:="multiply",desc:="(Ljava/math/BigInteger;ZZI)Ljava/math/BigInteger;"}:Jvm.MethodName) jdk_2097_method_42_code (9:Nat) (Option.some (Jvm.ClassFile.FieldType.object "java/math/BigInteger"))).before args0 about1=true:=code_word (m:=⟨7,6⟩) (meth:=k7m6) (c:=k7c6) (by decide+kernel) rfl rfl rfl (by decide+kernel)
set_option maxRecDepth 65536 in
theorem w_c9:(Jvm.Cond.code ({cls:="java/math/BigInteger",name:="multiplyByInt",desc:="([III)Ljava/math/BigInteger;"}:Jvm.MethodName) jdk_2097_method_43_code (13:Nat) (Option.some (Jvm.ClassFile.FieldType.object "java/math/BigInteger"))).before args0 about1=true:=code_word (m:=⟨7,7⟩) (meth:=k7m7) (c:=k7c7) (by decide+kernel) rfl rfl rfl (by decide+kernel)
set_option maxRecDepth 65536 in
theorem w_c10:(Jvm.Cond.code ({cls:="java/lang/Integer",name:="bitCount",desc:="(I)I"}:Jvm.MethodName) jdk_33_method_49_code (1:Nat) (Option.some Jvm.ClassFile.FieldType.int)).before args0 about1=true:=code_word (m:=⟨10,2⟩) (meth:=k10m2) (c:=k10c2) (by decide+kernel) rfl rfl rfl (by decide+kernel)
set_option maxRecDepth 65536 in
theorem w_c11:(Jvm.Cond.code ({cls:="java/util/Arrays",name:="copyOfRange",desc:="([III)[I"}:Jvm.MethodName) jdk_65_method_136_code (3:Nat) (Option.some (Jvm.ClassFile.FieldType.array Jvm.ClassFile.FieldType.int))).before args0 about1=true:=code_word (m:=⟨11,3⟩) (meth:=k11m3) (c:=k11c3) (by decide+kernel) rfl rfl rfl (by decide+kernel)
set_option maxRecDepth 65536 in
theorem w_c12:(Jvm.Cond.code ({cls:="java/util/Arrays",name:="copyOfRangeInt",desc:="([III)[I"}:Jvm.MethodName) jdk_65_method_137_code (5:Nat) (Option.some (Jvm.ClassFile.FieldType.array Jvm.ClassFile.FieldType.int))).before args0 about1=true:=code_word (m:=⟨11,4⟩) (meth:=k11m4) (c:=k11c4) (by decide+kernel) rfl rfl rfl (by decide+kernel)
set_option maxRecDepth 65536 in
theorem w_c13:(Jvm.Cond.code ({cls:="java/util/Arrays",name:="checkLength",desc:="(II)V"}:Jvm.MethodName) jdk_65_method_131_code (2:Nat) (Option.none:Option Jvm.ClassFile.FieldType)).before args0 about1=true:=code_word (m:=⟨11,2⟩) (meth:=k11m2) (c:=k11c2) (by decide+kernel) rfl rfl rfl (by decide+kernel)
set_option maxRecDepth 65536 in
theorem w_c14:(Jvm.Cond.code ({cls:="java/lang/Math",name:="min",desc:="(II)I"}:Jvm.MethodName) jdk_29_method_69_code (2:Nat) (Option.some Jvm.ClassFile.FieldType.int)).before args0 about1=true:=code_word (m:=⟨2,2⟩) (meth:=k2m2) (c:=k2c2) (by decide+kernel) rfl rfl rfl (by decide+kernel)
set_option maxRecDepth 65536 in
theorem w_c15:(Jvm.Cond.code ({cls:="java/math/BigInteger",name:="<init>",desc:="([II)V"}:Jvm.MethodName) jdk_2097_method_25_code (3:Nat) (Option.none:Option Jvm.ClassFile.FieldType)).before args0 about1=true:=code_word (m:=⟨7,0⟩) (meth:=k7m0) (c:=k7c0) (by decide+kernel) rfl rfl rfl (by decide+kernel)
set_option maxRecDepth 65536 in
theorem w_c16:(Jvm.Cond.code ({cls:="java/lang/Number",name:="<init>",desc:="()V"}:Jvm.MethodName) jdk_18_method_1_code (1:Nat) (Option.none:Option Jvm.ClassFile.FieldType)).before args0 about1=true:=code_word (m:=⟨5,0⟩) (meth:=k5m0) (c:=k5c0) (by decide+kernel) rfl rfl rfl (by decide+kernel)
set_option maxRecDepth 65536 in
theorem w_c17:(Jvm.Cond.code ({cls:="java/lang/Object",name:="<init>",desc:="()V"}:Jvm.MethodName) object_method_1_code (1:Nat) (Option.none:Option Jvm.ClassFile.FieldType)).before args0 about1=true:=code_word (m:=⟨0,0⟩) (meth:=k0m0) (c:=k0c0) (by decide+kernel) rfl rfl rfl (by decide+kernel)
set_option maxRecDepth 65536 in
theorem w_c18:(Jvm.Cond.code ({cls:="java/math/BigInteger",name:="<init>",desc:="(J)V"}:Jvm.MethodName) jdk_2097_method_30_code (4:Nat) (Option.none:Option Jvm.ClassFile.FieldType)).before args0 about1=true:=code_word (m:=⟨7,2⟩) (meth:=k7m2) (c:=k7c2) (by decide+kernel) rfl rfl rfl (by decide+kernel)
set_option maxRecDepth 65536 in
theorem w_c19:(Jvm.Cond.code ({cls:="java/math/BigInteger",name:="divideAndRemainder",desc:="(Ljava/math/BigInteger;)[Ljava/math/BigInteger;"}:Jvm.MethodName) jdk_2097_method_63_code (2:Nat) (Option.some (Jvm.ClassFile.FieldType.array (Jvm.ClassFile.FieldType.object "java/math/BigInteger")))).before args0 about1=true:=code_word (m:=⟨7,11⟩) (meth:=k7m11) (c:=k7c11) (by decide+kernel) rfl rfl rfl (by decide+kernel)
set_option maxRecDepth 65536 in
theorem w_c20:(Jvm.Cond.code ({cls:="java/math/BigInteger",name:="divideAndRemainderKnuth",desc:="(Ljava/math/BigInteger;)[Ljava/math/BigInteger;"}:Jvm.MethodName) jdk_2097_method_64_code (7:Nat) (Option.some (Jvm.ClassFile.FieldType.array (Jvm.ClassFile.FieldType.object "java/math/BigInteger")))).before args0 about1=true:=code_word (m:=⟨7,12⟩) (meth:=k7m12) (c:=k7c12) (by decide+kernel) rfl rfl rfl (by decide+kernel)
set_option maxRecDepth 65536 in
theorem w_c21:(Jvm.Cond.code ({cls:="java/math/MutableBigInteger",name:="<init>",desc:="()V"}:Jvm.MethodName) jdk_2101_method_1_code (1:Nat) (Option.none:Option Jvm.ClassFile.FieldType)).before args0 about1=true:=code_word (m:=⟨13,0⟩) (meth:=k13m0) (c:=k13c0) (by decide+kernel) rfl rfl rfl (by decide+kernel)
set_option maxRecDepth 65536 in
theorem w_c22:(Jvm.Cond.code ({cls:="java/math/MutableBigInteger",name:="<init>",desc:="([I)V"}:Jvm.MethodName) jdk_2101_method_3_code (2:Nat) (Option.none:Option Jvm.ClassFile.FieldType)).before args0 about1=true:=code_word (m:=⟨13,2⟩) (meth:=k13m2) (c:=k13c2) (by decide+kernel) rfl rfl rfl (by decide+kernel)
set_option maxRecDepth 65536 in
theorem w_c23:(Jvm.Cond.code ({cls:="java/math/MutableBigInteger",name:="divideKnuth",desc:="(Ljava/math/MutableBigInteger;Ljava/math/MutableBigInteger;)Ljava/math/MutableBigInteger;"}:Jvm.MethodName) jdk_2101_method_56_code (3:Nat) (Option.some (Jvm.ClassFile.FieldType.object "java/math/MutableBigInteger"))).before args0 about1=true:=code_word (m:=⟨13,13⟩) (meth:=k13m13) (c:=k13c13) (by decide+kernel) rfl rfl rfl (by decide+kernel)
set_option maxRecDepth 65536 in
theorem w_c24:(Jvm.Cond.code ({cls:="java/math/MutableBigInteger",name:="divideKnuth",desc:="(Ljava/math/MutableBigInteger;Ljava/math/MutableBigInteger;Z)Ljava/math/MutableBigInteger;"}:Jvm.MethodName) jdk_2101_method_57_code (8:Nat) (Option.some (Jvm.ClassFile.FieldType.object "java/math/MutableBigInteger"))).before args0 about1=true:=code_word (m:=⟨13,14⟩) (meth:=k13m14) (c:=k13c14) (by decide+kernel) rfl rfl rfl (by decide+kernel)
set_option maxRecDepth 65536 in
theorem w_c25:(Jvm.Cond.code ({cls:="java/math/MutableBigInteger",name:="compare",desc:="(Ljava/math/MutableBigInteger;)I"}:Jvm.MethodName) jdk_2101_method_15_code (8:Nat) (Option.some Jvm.ClassFile.FieldType.int)).before args0 about1=true:=code_word (m:=⟨13,7⟩) (meth:=k13m7) (c:=k13c7) (by decide+kernel) rfl rfl rfl (by decide+kernel)
set_option maxRecDepth 65536 in
theorem w_c26:(Jvm.Cond.code ({cls:="java/math/MutableBigInteger",name:="<init>",desc:="(Ljava/math/MutableBigInteger;)V"}:Jvm.MethodName) jdk_2101_method_5_code (2:Nat) (Option.none:Option Jvm.ClassFile.FieldType)).before args0 about1=true:=code_word (m:=⟨13,3⟩) (meth:=k13m3) (c:=k13c3) (by decide+kernel) rfl rfl rfl (by decide+kernel)
set_option maxRecDepth 65536 in
theorem w_c27:(Jvm.Cond.code ({cls:="java/math/MutableBigInteger",name:="toBigInteger",desc:="(I)Ljava/math/BigInteger;"}:Jvm.MethodName) jdk_2101_method_9_code (2:Nat) (Option.some (Jvm.ClassFile.FieldType.object "java/math/BigInteger"))).before args0 about1=true:=code_word (m:=⟨13,5⟩) (meth:=k13m5) (c:=k13c5) (by decide+kernel) rfl rfl rfl (by decide+kernel)
set_option maxRecDepth 65536 in
theorem w_c28:(Jvm.Cond.code ({cls:="java/math/MutableBigInteger",name:="getMagnitudeArray",desc:="()[I"}:Jvm.MethodName) jdk_2101_method_7_code (2:Nat) (Option.some (Jvm.ClassFile.FieldType.array Jvm.ClassFile.FieldType.int))).before args0 about1=true:=code_word (m:=⟨13,4⟩) (meth:=k13m4) (c:=k13c4) (by decide+kernel) rfl rfl rfl (by decide+kernel)
set_option maxRecDepth 65536 in
theorem w_c29:(Jvm.Cond.code ({cls:="java/math/BigInteger",name:="signum",desc:="()I"}:Jvm.MethodName) jdk_2097_method_81_code (1:Nat) (Option.some Jvm.ClassFile.FieldType.int)).before args0 about1=true:=code_word (m:=⟨7,14⟩) (meth:=k7m14) (c:=k7c14) (by decide+kernel) rfl rfl rfl (by decide+kernel)
set_option maxRecDepth 65536 in
theorem w_c30:(Jvm.Cond.code ({cls:="java/math/BigInteger",name:="add",desc:="(Ljava/math/BigInteger;)Ljava/math/BigInteger;"}:Jvm.MethodName) jdk_2097_method_32_code (4:Nat) (Option.some (Jvm.ClassFile.FieldType.object "java/math/BigInteger"))).before args0 about1=true:=code_word (m:=⟨7,3⟩) (meth:=k7m3) (c:=k7c3) (by decide+kernel) rfl rfl rfl (by decide+kernel)
set_option maxRecDepth 65536 in
theorem w_c31:(Jvm.Cond.code ({cls:="java/math/BigInteger",name:="compareTo",desc:="(Ljava/math/BigInteger;)I"}:Jvm.MethodName) jdk_2097_method_121_code (2:Nat) (Option.some Jvm.ClassFile.FieldType.int)).before args0 about1=true:=code_word (m:=⟨7,17⟩) (meth:=k7m17) (c:=k7c17) (by decide+kernel) rfl rfl rfl (by decide+kernel)
set_option maxRecDepth 65536 in
theorem w_c32:(Jvm.Cond.code ({cls:="java/math/BigInteger",name:="compareMagnitude",desc:="(Ljava/math/BigInteger;)I"}:Jvm.MethodName) jdk_2097_method_122_code (9:Nat) (Option.some Jvm.ClassFile.FieldType.int)).before args0 about1=true:=code_word (m:=⟨7,18⟩) (meth:=k7m18) (c:=k7c18) (by decide+kernel) rfl rfl rfl (by decide+kernel)
set_option maxRecDepth 65536 in
theorem w_c33:(Jvm.Cond.code ({cls:="java/math/BigInteger",name:="longValue",desc:="()J"}:Jvm.MethodName) jdk_2097_method_136_code (4:Nat) (Option.some Jvm.ClassFile.FieldType.long)).before args0 about1=true:=code_word (m:=⟨7,19⟩) (meth:=k7m19) (c:=k7c19) (by decide+kernel) rfl rfl rfl (by decide+kernel)
set_option maxRecDepth 65536 in
theorem w_c34:(Jvm.Cond.code ({cls:="java/math/BigInteger",name:="getInt",desc:="(I)I"}:Jvm.MethodName) jdk_2097_method_148_code (3:Nat) (Option.some Jvm.ClassFile.FieldType.int)).before args0 about1=true:=code_word (m:=⟨7,22⟩) (meth:=k7m22) (c:=k7c22) (by decide+kernel) rfl rfl rfl (by decide+kernel)
set_option maxRecDepth 65536 in
theorem w_c35:(Jvm.Cond.code ({cls:="java/math/BigInteger",name:="signInt",desc:="()I"}:Jvm.MethodName) jdk_2097_method_147_code (1:Nat) (Option.some Jvm.ClassFile.FieldType.int)).before args0 about1=true:=code_word (m:=⟨7,21⟩) (meth:=k7m21) (c:=k7c21) (by decide+kernel) rfl rfl rfl (by decide+kernel)
set_option maxRecDepth 65536 in
theorem w_c36:(Jvm.Cond.code ({cls:="java/lang/Integer",name:="numberOfTrailingZeros",desc:="(I)I"}:Jvm.MethodName) jdk_33_method_48_code (2:Nat) (Option.some Jvm.ClassFile.FieldType.int)).before args0 about1=true:=code_word (m:=⟨10,1⟩) (meth:=k10m1) (c:=k10c1) (by decide+kernel) rfl rfl rfl (by decide+kernel)
set_option maxRecDepth 65536 in
theorem w_c37:(Jvm.Cond.code ({cls:="java/math/BigInteger",name:="shiftLeft",desc:="([II)[I"}:Jvm.MethodName) jdk_2097_method_102_code (10:Nat) (Option.some (Jvm.ClassFile.FieldType.array Jvm.ClassFile.FieldType.int))).before args0 about1=true:=code_word (m:=⟨7,15⟩) (meth:=k7m15) (c:=k7c15) (by decide+kernel) rfl rfl rfl (by decide+kernel)
set_option maxRecDepth 65536 in
theorem w_c38:(Jvm.Cond.code ({cls:="java/math/MutableBigInteger",name:="clear",desc:="()V"}:Jvm.MethodName) jdk_2101_method_13_code (3:Nat) (Option.none:Option Jvm.ClassFile.FieldType)).before args0 about1=true:=code_word (m:=⟨13,6⟩) (meth:=k13m6) (c:=k13c6) (by decide+kernel) rfl rfl rfl (by decide+kernel)
set_option maxRecDepth 65536 in
theorem w_c39:(Jvm.Cond.code ({cls:="java/math/MutableBigInteger",name:="divideOneWord",desc:="(ILjava/math/MutableBigInteger;)I"}:Jvm.MethodName) jdk_2101_method_53_code (15:Nat) (Option.some Jvm.ClassFile.FieldType.int)).before args0 about1=true:=code_word (m:=⟨13,12⟩) (meth:=k13m12) (c:=k13c12) (by decide+kernel) rfl rfl rfl (by decide+kernel)
set_option maxRecDepth 65536 in
theorem w_c40:(Jvm.Cond.code ({cls:="java/lang/Integer",name:="numberOfLeadingZeros",desc:="(I)I"}:Jvm.MethodName) jdk_33_method_47_code (2:Nat) (Option.some Jvm.ClassFile.FieldType.int)).before args0 about1=true:=code_word (m:=⟨10,0⟩) (meth:=k10m0) (c:=k10c0) (by decide+kernel) rfl rfl rfl (by decide+kernel)
set_option maxRecDepth 65536 in
theorem w_c41:(Jvm.Cond.code ({cls:="java/math/MutableBigInteger",name:="normalize",desc:="()V"}:Jvm.MethodName) jdk_2101_method_21_code (4:Nat) (Option.none:Option Jvm.ClassFile.FieldType)).before args0 about1=true:=code_word (m:=⟨13,8⟩) (meth:=k13m8) (c:=k13c8) (by decide+kernel) rfl rfl rfl (by decide+kernel)
set_option maxRecDepth 65536 in
theorem w_c42:(Jvm.Cond.code ({cls:="java/math/MutableBigInteger",name:="<init>",desc:="(I)V"}:Jvm.MethodName) jdk_2101_method_2_code (2:Nat) (Option.none:Option Jvm.ClassFile.FieldType)).before args0 about1=true:=code_word (m:=⟨13,1⟩) (meth:=k13m1) (c:=k13c1) (by decide+kernel) rfl rfl rfl (by decide+kernel)
set_option maxRecDepth 65536 in
theorem w_c43:(Jvm.Cond.code ({cls:="java/math/BigInteger",name:="add",desc:="([I[I)[I"}:Jvm.MethodName) jdk_2097_method_35_code (9:Nat) (Option.some (Jvm.ClassFile.FieldType.array Jvm.ClassFile.FieldType.int))).before args0 about1=true:=code_word (m:=⟨7,4⟩) (meth:=k7m4) (c:=k7c4) (by decide+kernel) rfl rfl rfl (by decide+kernel)
set_option maxRecDepth 65536 in
theorem w_c44:(Jvm.Cond.code ({cls:="java/util/Objects",name:="checkFromToIndex",desc:="(III)I"}:Jvm.MethodName) jdk_31_method_18_code (3:Nat) (Option.some Jvm.ClassFile.FieldType.int)).before args0 about1=true:=code_word (m:=⟨15,2⟩) (meth:=k15m2) (c:=k15c2) (by decide+kernel) rfl rfl rfl (by decide+kernel)
set_option maxRecDepth 65536 in
theorem w_c45:(Jvm.Cond.code ({cls:="jdk/internal/util/Preconditions",name:="checkFromToIndex",desc:="(IIILjava/util/function/BiFunction;)I"}:Jvm.MethodName) jdk_41_method_12_code (4:Nat) (Option.some Jvm.ClassFile.FieldType.int)).before args0 about1=true:=code_word (m:=⟨16,1⟩) (meth:=k16m1) (c:=k16c1) (by decide+kernel) rfl rfl rfl (by decide+kernel)
set_option maxRecDepth 65536 in
theorem w_c46:(Jvm.Cond.code ({cls:="java/math/BigInteger",name:="shiftLeftImplWorker",desc:="([I[IIII)V"}:Jvm.MethodName) jdk_2097_method_103_code (7:Nat) (Option.none:Option Jvm.ClassFile.FieldType)).before args0 about1=true:=code_word (m:=⟨7,16⟩) (meth:=k7m16) (c:=k7c16) (by decide+kernel) rfl rfl rfl (by decide+kernel)
set_option maxRecDepth 65536 in
theorem w_c47:(Jvm.Cond.code ({cls:="java/util/Arrays",name:="fill",desc:="([II)V"}:Jvm.MethodName) jdk_65_method_103_code (4:Nat) (Option.none:Option Jvm.ClassFile.FieldType)).before args0 about1=true:=code_word (m:=⟨11,1⟩) (meth:=k11m1) (c:=k11c1) (by decide+kernel) rfl rfl rfl (by decide+kernel)
set_option maxRecDepth 65536 in
theorem w_c48:(Jvm.Cond.code ({cls:="java/math/BigInteger",name:="multiplyToLen",desc:="([II[II[I)[I"}:Jvm.MethodName) jdk_2097_method_45_code (5:Nat) (Option.some (Jvm.ClassFile.FieldType.array Jvm.ClassFile.FieldType.int))).before args0 about1=true:=code_word (m:=⟨7,8⟩) (meth:=k7m8) (c:=k7c8) (by decide+kernel) rfl rfl rfl (by decide+kernel)
set_option maxRecDepth 65536 in
theorem w_c49:(Jvm.Cond.code ({cls:="java/math/BigInteger",name:="multiplyToLenCheck",desc:="([II)V"}:Jvm.MethodName) jdk_2097_method_47_code (2:Nat) (Option.none:Option Jvm.ClassFile.FieldType)).before args0 about1=true:=code_word (m:=⟨7,10⟩) (meth:=k7m10) (c:=k7c10) (by decide+kernel) rfl rfl rfl (by decide+kernel)
set_option maxRecDepth 65536 in
theorem w_c50:(Jvm.Cond.code ({cls:="java/util/Objects",name:="requireNonNull",desc:="(Ljava/lang/Object;)Ljava/lang/Object;"}:Jvm.MethodName) jdk_31_method_10_code (1:Nat) (Option.some (Jvm.ClassFile.FieldType.object "java/lang/Object"))).before args0 about1=true:=code_word (m:=⟨15,1⟩) (meth:=k15m1) (c:=k15c1) (by decide+kernel) rfl rfl rfl (by decide+kernel)
set_option maxRecDepth 65536 in
theorem w_c51:(Jvm.Cond.code ({cls:="java/math/BigInteger",name:="implMultiplyToLen",desc:="([II[II[I)[I"}:Jvm.MethodName) jdk_2097_method_46_code (14:Nat) (Option.some (Jvm.ClassFile.FieldType.array Jvm.ClassFile.FieldType.int))).before args0 about1=true:=code_word (m:=⟨7,9⟩) (meth:=k7m9) (c:=k7c9) (by decide+kernel) rfl rfl rfl (by decide+kernel)
set_option maxRecDepth 65536 in
theorem w_c52:(Jvm.Cond.code ({cls:="java/math/BigInteger",name:="trustedStripLeadingZeroInts",desc:="([I)[I"}:Jvm.MethodName) jdk_2097_method_140_code (3:Nat) (Option.some (Jvm.ClassFile.FieldType.array Jvm.ClassFile.FieldType.int))).before args0 about1=true:=code_word (m:=⟨7,20⟩) (meth:=k7m20) (c:=k7c20) (by decide+kernel) rfl rfl rfl (by decide+kernel)
set_option maxRecDepth 65536 in
theorem w_c53:(Jvm.Cond.code ({cls:="java/math/MutableBigInteger",name:="divideMagnitude",desc:="(Ljava/math/MutableBigInteger;Ljava/math/MutableBigInteger;Z)Ljava/math/MutableBigInteger;"}:Jvm.MethodName) jdk_2101_method_65_code (28:Nat) (Option.some (Jvm.ClassFile.FieldType.object "java/math/MutableBigInteger"))).before args0 about1=true:=code_word (m:=⟨13,16⟩) (meth:=k13m16) (c:=k13c16) (by decide+kernel) rfl rfl rfl (by decide+kernel)
set_option maxRecDepth 65536 in
theorem w_c54:(Jvm.Cond.code ({cls:="java/math/MutableBigInteger",name:="copyAndShift",desc:="([III[III)V"}:Jvm.MethodName) jdk_2101_method_64_code (10:Nat) (Option.none:Option Jvm.ClassFile.FieldType)).before args0 about1=true:=code_word (m:=⟨13,15⟩) (meth:=k13m15) (c:=k13c15) (by decide+kernel) rfl rfl rfl (by decide+kernel)
set_option maxRecDepth 65536 in
theorem w_c55:(Jvm.Cond.code ({cls:="java/math/MutableBigInteger",name:="unsignedLongCompare",desc:="(JJ)Z"}:Jvm.MethodName) jdk_2101_method_69_code (5:Nat) (Option.some Jvm.ClassFile.FieldType.boolean)).before args0 about1=true:=code_word (m:=⟨13,17⟩) (meth:=k13m17) (c:=k13c17) (by decide+kernel) rfl rfl rfl (by decide+kernel)
set_option maxRecDepth 65536 in
theorem w_c56:(Jvm.Cond.code ({cls:="java/math/MutableBigInteger",name:="mulsub",desc:="([I[IIII)I"}:Jvm.MethodName) jdk_2101_method_39_code (15:Nat) (Option.some Jvm.ClassFile.FieldType.int)).before args0 about1=true:=code_word (m:=⟨13,10⟩) (meth:=k13m10) (c:=k13c10) (by decide+kernel) rfl rfl rfl (by decide+kernel)
set_option maxRecDepth 65536 in
theorem w_c57:(Jvm.Cond.code ({cls:="java/math/MutableBigInteger",name:="rightShift",desc:="(I)V"}:Jvm.MethodName) jdk_2101_method_35_code (5:Nat) (Option.none:Option Jvm.ClassFile.FieldType)).before args0 about1=true:=code_word (m:=⟨13,9⟩) (meth:=k13m9) (c:=k13c9) (by decide+kernel) rfl rfl rfl (by decide+kernel)
set_option maxRecDepth 65536 in
theorem w_c58:(Jvm.Cond.code ({cls:="java/math/BigInteger",name:="bitLengthForInt",desc:="(I)I"}:Jvm.MethodName) jdk_2097_method_74_code (1:Nat) (Option.some Jvm.ClassFile.FieldType.int)).before args0 about1=true:=code_word (m:=⟨7,13⟩) (meth:=k7m13) (c:=k7c13) (by decide+kernel) rfl rfl rfl (by decide+kernel)
set_option maxRecDepth 65536 in
theorem w_c59:(Jvm.Cond.code ({cls:="java/math/MutableBigInteger",name:="primitiveLeftShift",desc:="(I)V"}:Jvm.MethodName) jdk_2101_method_42_code (8:Nat) (Option.none:Option Jvm.ClassFile.FieldType)).before args0 about1=true:=code_word (m:=⟨13,11⟩) (meth:=k13m11) (c:=k13c11) (by decide+kernel) rfl rfl rfl (by decide+kernel)
set_option maxRecDepth 65536 in
theorem w_c60:(Jvm.Cond.code ({cls:="java/math/MutableBigInteger",name:="divWord",desc:="(JI)J"}:Jvm.MethodName) jdk_2101_method_70_code (9:Nat) (Option.some Jvm.ClassFile.FieldType.long)).before args0 about1=true:=code_word (m:=⟨13,18⟩) (meth:=k13m18) (c:=k13c18) (by decide+kernel) rfl rfl rfl (by decide+kernel)
def codes1:List Jvm.Cond:= [Jvm.Cond.code x code maxLocals ret,Jvm.Cond.code ({cls:="java/lang/Math",name:="max",desc:="(JJ)J"}:Jvm.MethodName) jdk_29_method_66_code (4:Nat) (Option.some Jvm.ClassFile.FieldType.long),Jvm.Cond.code ({cls:="com/example/nuthatch/nuthatch/ArgumentsRequireFillMillisPinLaw",name:="cmp",desc:="(JJJJ)I"}:Jvm.MethodName) method_4_code (16:Nat) (Option.some Jvm.ClassFile.FieldType.int),Jvm.Cond.code ({cls:="com/example/nuthatch/nuthatch/ArgumentsRequireFillMillisPinLaw",name:="high",desc:="(JJ)J"}:Jvm.MethodName) method_2_code (20:Nat) (Option.some Jvm.ClassFile.FieldType.long),Jvm.Cond.code ({cls:="com/example/nuthatch/nuthatch/ArgumentsRequireFillMillisPinLaw",name:="low",desc:="(JJ)J"}:Jvm.MethodName) method_3_code (18:Nat) (Option.some Jvm.ClassFile.FieldType.long),Jvm.Cond.code ({cls:="com/example/nuthatch/nuthatch/Arguments",name:="requireFillMillis",desc:="(JJJ)J"}:Jvm.MethodName) prog_1_method_4_code (8:Nat) (Option.some Jvm.ClassFile.FieldType.long),Jvm.Cond.code ({cls:="java/math/BigInteger",name:="valueOf",desc:="(J)Ljava/math/BigInteger;"}:Jvm.MethodName) jdk_2097_method_29_code (2:Nat) (Option.some (Jvm.ClassFile.FieldType.object "java/math/BigInteger")),Jvm.Cond.code ({cls:="java/math/BigInteger",name:="multiply",desc:="(Ljava/math/BigInteger;)Ljava/math/BigInteger;"}:Jvm.MethodName) jdk_2097_method_40_code (2:Nat) (Option.some (Jvm.ClassFile.FieldType.object "java/math/BigInteger")),Jvm.Cond.code ({cls:="java/math/BigInteger",name:="multiply",desc:="(Ljava/math/BigInteger;ZZI)Ljava/math/BigInteger;"}:Jvm.MethodName) jdk_2097_method_42_code (9:Nat) (Option.some (Jvm.ClassFile.FieldType.object "java/math/BigInteger")),Jvm.Cond.code ({cls:="java/math/BigInteger",name:="multiplyByInt",desc:="([III)Ljava/math/BigInteger;"}:Jvm.MethodName) jdk_2097_method_43_code (13:Nat) (Option.some (Jvm.ClassFile.FieldType.object "java/math/BigInteger")),Jvm.Cond.code ({cls:="java/lang/Integer",name:="bitCount",desc:="(I)I"}:Jvm.MethodName) jdk_33_method_49_code (1:Nat) (Option.some Jvm.ClassFile.FieldType.int),Jvm.Cond.code ({cls:="java/util/Arrays",name:="copyOfRange",desc:="([III)[I"}:Jvm.MethodName) jdk_65_method_136_code (3:Nat) (Option.some (Jvm.ClassFile.FieldType.array Jvm.ClassFile.FieldType.int)),Jvm.Cond.code ({cls:="java/util/Arrays",name:="copyOfRangeInt",desc:="([III)[I"}:Jvm.MethodName) jdk_65_method_137_code (5:Nat) (Option.some (Jvm.ClassFile.FieldType.array Jvm.ClassFile.FieldType.int)),Jvm.Cond.code ({cls:="java/util/Arrays",name:="checkLength",desc:="(II)V"}:Jvm.MethodName) jdk_65_method_131_code (2:Nat) (Option.none:Option Jvm.ClassFile.FieldType),Jvm.Cond.code ({cls:="java/lang/Math",name:="min",desc:="(II)I"}:Jvm.MethodName) jdk_29_method_69_code (2:Nat) (Option.some Jvm.ClassFile.FieldType.int),Jvm.Cond.code ({cls:="java/math/BigInteger",name:="<init>",desc:="([II)V"}:Jvm.MethodName) jdk_2097_method_25_code (3:Nat) (Option.none:Option Jvm.ClassFile.FieldType),Jvm.Cond.code ({cls:="java/lang/Number",name:="<init>",desc:="()V"}:Jvm.MethodName) jdk_18_method_1_code (1:Nat) (Option.none:Option Jvm.ClassFile.FieldType),Jvm.Cond.code ({cls:="java/lang/Object",name:="<init>",desc:="()V"}:Jvm.MethodName) object_method_1_code (1:Nat) (Option.none:Option Jvm.ClassFile.FieldType),Jvm.Cond.code ({cls:="java/math/BigInteger",name:="<init>",desc:="(J)V"}:Jvm.MethodName) jdk_2097_method_30_code (4:Nat) (Option.none:Option Jvm.ClassFile.FieldType),Jvm.Cond.code ({cls:="java/math/BigInteger",name:="divideAndRemainder",desc:="(Ljava/math/BigInteger;)[Ljava/math/BigInteger;"}:Jvm.MethodName) jdk_2097_method_63_code (2:Nat) (Option.some (Jvm.ClassFile.FieldType.array (Jvm.ClassFile.FieldType.object "java/math/BigInteger"))),Jvm.Cond.code ({cls:="java/math/BigInteger",name:="divideAndRemainderKnuth",desc:="(Ljava/math/BigInteger;)[Ljava/math/BigInteger;"}:Jvm.MethodName) jdk_2097_method_64_code (7:Nat) (Option.some (Jvm.ClassFile.FieldType.array (Jvm.ClassFile.FieldType.object "java/math/BigInteger"))),Jvm.Cond.code ({cls:="java/math/MutableBigInteger",name:="<init>",desc:="()V"}:Jvm.MethodName) jdk_2101_method_1_code (1:Nat) (Option.none:Option Jvm.ClassFile.FieldType),Jvm.Cond.code ({cls:="java/math/MutableBigInteger",name:="<init>",desc:="([I)V"}:Jvm.MethodName) jdk_2101_method_3_code (2:Nat) (Option.none:Option Jvm.ClassFile.FieldType),Jvm.Cond.code ({cls:="java/math/MutableBigInteger",name:="divideKnuth",desc:="(Ljava/math/MutableBigInteger;Ljava/math/MutableBigInteger;)Ljava/math/MutableBigInteger;"}:Jvm.MethodName) jdk_2101_method_56_code (3:Nat) (Option.some (Jvm.ClassFile.FieldType.object "java/math/MutableBigInteger")),Jvm.Cond.code ({cls:="java/math/MutableBigInteger",name:="divideKnuth",desc:="(Ljava/math/MutableBigInteger;Ljava/math/MutableBigInteger;Z)Ljava/math/MutableBigInteger;"}:Jvm.MethodName) jdk_2101_method_57_code (8:Nat) (Option.some (Jvm.ClassFile.FieldType.object "java/math/MutableBigInteger")),Jvm.Cond.code ({cls:="java/math/MutableBigInteger",name:="compare",desc:="(Ljava/math/MutableBigInteger;)I"}:Jvm.MethodName) jdk_2101_method_15_code (8:Nat) (Option.some Jvm.ClassFile.FieldType.int),Jvm.Cond.code ({cls:="java/math/MutableBigInteger",name:="<init>",desc:="(Ljava/math/MutableBigInteger;)V"}:Jvm.MethodName) jdk_2101_method_5_code (2:Nat) (Option.none:Option Jvm.ClassFile.FieldType),Jvm.Cond.code ({cls:="java/math/MutableBigInteger",name:="toBigInteger",desc:="(I)Ljava/math/BigInteger;"}:Jvm.MethodName) jdk_2101_method_9_code (2:Nat) (Option.some (Jvm.ClassFile.FieldType.object "java/math/BigInteger")),Jvm.Cond.code ({cls:="java/math/MutableBigInteger",name:="getMagnitudeArray",desc:="()[I"}:Jvm.MethodName) jdk_2101_method_7_code (2:Nat) (Option.some (Jvm.ClassFile.FieldType.array Jvm.ClassFile.FieldType.int)),Jvm.Cond.code ({cls:="java/math/BigInteger",name:="signum",desc:="()I"}:Jvm.MethodName) jdk_2097_method_81_code (1:Nat) (Option.some Jvm.ClassFile.FieldType.int),Jvm.Cond.code ({cls:="java/math/BigInteger",name:="add",desc:="(Ljava/math/BigInteger;)Ljava/math/BigInteger;"}:Jvm.MethodName) jdk_2097_method_32_code (4:Nat) (Option.some (Jvm.ClassFile.FieldType.object "java/math/BigInteger")),Jvm.Cond.code ({cls:="java/math/BigInteger",name:="compareTo",desc:="(Ljava/math/BigInteger;)I"}:Jvm.MethodName) jdk_2097_method_121_code (2:Nat) (Option.some Jvm.ClassFile.FieldType.int),Jvm.Cond.code ({cls:="java/math/BigInteger",name:="compareMagnitude",desc:="(Ljava/math/BigInteger;)I"}:Jvm.MethodName) jdk_2097_method_122_code (9:Nat) (Option.some Jvm.ClassFile.FieldType.int),Jvm.Cond.code ({cls:="java/math/BigInteger",name:="longValue",desc:="()J"}:Jvm.MethodName) jdk_2097_method_136_code (4:Nat) (Option.some Jvm.ClassFile.FieldType.long),Jvm.Cond.code ({cls:="java/math/BigInteger",name:="getInt",desc:="(I)I"}:Jvm.MethodName) jdk_2097_method_148_code (3:Nat) (Option.some Jvm.ClassFile.FieldType.int),Jvm.Cond.code ({cls:="java/math/BigInteger",name:="signInt",desc:="()I"}:Jvm.MethodName) jdk_2097_method_147_code (1:Nat) (Option.some Jvm.ClassFile.FieldType.int),Jvm.Cond.code ({cls:="java/lang/Integer",name:="numberOfTrailingZeros",desc:="(I)I"}:Jvm.MethodName) jdk_33_method_48_code (2:Nat) (Option.some Jvm.ClassFile.FieldType.int),Jvm.Cond.code ({cls:="java/math/BigInteger",name:="shiftLeft",desc:="([II)[I"}:Jvm.MethodName) jdk_2097_method_102_code (10:Nat) (Option.some (Jvm.ClassFile.FieldType.array Jvm.ClassFile.FieldType.int)),Jvm.Cond.code ({cls:="java/math/MutableBigInteger",name:="clear",desc:="()V"}:Jvm.MethodName) jdk_2101_method_13_code (3:Nat) (Option.none:Option Jvm.ClassFile.FieldType),Jvm.Cond.code ({cls:="java/math/MutableBigInteger",name:="divideOneWord",desc:="(ILjava/math/MutableBigInteger;)I"}:Jvm.MethodName) jdk_2101_method_53_code (15:Nat) (Option.some Jvm.ClassFile.FieldType.int),Jvm.Cond.code ({cls:="java/lang/Integer",name:="numberOfLeadingZeros",desc:="(I)I"}:Jvm.MethodName) jdk_33_method_47_code (2:Nat) (Option.some Jvm.ClassFile.FieldType.int),Jvm.Cond.code ({cls:="java/math/MutableBigInteger",name:="normalize",desc:="()V"}:Jvm.MethodName) jdk_2101_method_21_code (4:Nat) (Option.none:Option Jvm.ClassFile.FieldType),Jvm.Cond.code ({cls:="java/math/MutableBigInteger",name:="<init>",desc:="(I)V"}:Jvm.MethodName) jdk_2101_method_2_code (2:Nat) (Option.none:Option Jvm.ClassFile.FieldType),Jvm.Cond.code ({cls:="java/math/BigInteger",name:="add",desc:="([I[I)[I"}:Jvm.MethodName) jdk_2097_method_35_code (9:Nat) (Option.some (Jvm.ClassFile.FieldType.array Jvm.ClassFile.FieldType.int)),Jvm.Cond.code ({cls:="java/util/Objects",name:="checkFromToIndex",desc:="(III)I"}:Jvm.MethodName) jdk_31_method_18_code (3:Nat) (Option.some Jvm.ClassFile.FieldType.int),Jvm.Cond.code ({cls:="jdk/internal/util/Preconditions",name:="checkFromToIndex",desc:="(IIILjava/util/function/BiFunction;)I"}:Jvm.MethodName) jdk_41_method_12_code (4:Nat) (Option.some Jvm.ClassFile.FieldType.int),Jvm.Cond.code ({cls:="java/math/BigInteger",name:="shiftLeftImplWorker",desc:="([I[IIII)V"}:Jvm.MethodName) jdk_2097_method_103_code (7:Nat) (Option.none:Option Jvm.ClassFile.FieldType),Jvm.Cond.code ({cls:="java/util/Arrays",name:="fill",desc:="([II)V"}:Jvm.MethodName) jdk_65_method_103_code (4:Nat) (Option.none:Option Jvm.ClassFile.FieldType),Jvm.Cond.code ({cls:="java/math/BigInteger",name:="multiplyToLen",desc:="([II[II[I)[I"}:Jvm.MethodName) jdk_2097_method_45_code (5:Nat) (Option.some (Jvm.ClassFile.FieldType.array Jvm.ClassFile.FieldType.int)),Jvm.Cond.code ({cls:="java/math/BigInteger",name:="multiplyToLenCheck",desc:="([II)V"}:Jvm.MethodName) jdk_2097_method_47_code (2:Nat) (Option.none:Option Jvm.ClassFile.FieldType),Jvm.Cond.code ({cls:="java/util/Objects",name:="requireNonNull",desc:="(Ljava/lang/Object;)Ljava/lang/Object;"}:Jvm.MethodName) jdk_31_method_10_code (1:Nat) (Option.some (Jvm.ClassFile.FieldType.object "java/lang/Object")),Jvm.Cond.code ({cls:="java/math/BigInteger",name:="implMultiplyToLen",desc:="([II[II[I)[I"}:Jvm.MethodName) jdk_2097_method_46_code (14:Nat) (Option.some (Jvm.ClassFile.FieldType.array Jvm.ClassFile.FieldType.int)),Jvm.Cond.code ({cls:="java/math/BigInteger",name:="trustedStripLeadingZeroInts",desc:="([I)[I"}:Jvm.MethodName) jdk_2097_method_140_code (3:Nat) (Option.some (Jvm.ClassFile.FieldType.array Jvm.ClassFile.FieldType.int)),Jvm.Cond.code ({cls:="java/math/MutableBigInteger",name:="divideMagnitude",desc:="(Ljava/math/MutableBigInteger;Ljava/math/MutableBigInteger;Z)Ljava/math/MutableBigInteger;"}:Jvm.MethodName) jdk_2101_method_65_code (28:Nat) (Option.some (Jvm.ClassFile.FieldType.object "java/math/MutableBigInteger")),Jvm.Cond.code ({cls:="java/math/MutableBigInteger",name:="copyAndShift",desc:="([III[III)V"}:Jvm.MethodName) jdk_2101_method_64_code (10:Nat) (Option.none:Option Jvm.ClassFile.FieldType),Jvm.Cond.code ({cls:="java/math/MutableBigInteger",name:="unsignedLongCompare",desc:="(JJ)Z"}:Jvm.MethodName) jdk_2101_method_69_code (5:Nat) (Option.some Jvm.ClassFile.FieldType.boolean),Jvm.Cond.code ({cls:="java/math/MutableBigInteger",name:="mulsub",desc:="([I[IIII)I"}:Jvm.MethodName) jdk_2101_method_39_code (15:Nat) (Option.some Jvm.ClassFile.FieldType.int),Jvm.Cond.code ({cls:="java/math/MutableBigInteger",name:="rightShift",desc:="(I)V"}:Jvm.MethodName) jdk_2101_method_35_code (5:Nat) (Option.none:Option Jvm.ClassFile.FieldType),Jvm.Cond.code ({cls:="java/math/BigInteger",name:="bitLengthForInt",desc:="(I)I"}:Jvm.MethodName) jdk_2097_method_74_code (1:Nat) (Option.some Jvm.ClassFile.FieldType.int),Jvm.Cond.code ({cls:="java/math/MutableBigInteger",name:="primitiveLeftShift",desc:="(I)V"}:Jvm.MethodName) jdk_2101_method_42_code (8:Nat) (Option.none:Option Jvm.ClassFile.FieldType),Jvm.Cond.code ({cls:="java/math/MutableBigInteger",name:="divWord",desc:="(JI)J"}:Jvm.MethodName) jdk_2101_method_70_code (9:Nat) (Option.some Jvm.ClassFile.FieldType.long)]
set_option maxRecDepth 65536 in
theorem codes_eq:words1.filter isCode=codes1:=rfl
theorem w_codes: ∀c∈words1.filter isCode,c.before args0 about1=true:=by
 rw[codes_eq]
 intro c hc
 simp only[codes1,List.mem_cons,List.not_mem_nil,or_false] at hc
 rcases hc with rfl|rfl|rfl|rfl|rfl|rfl|rfl|rfl|rfl|rfl|rfl|rfl|rfl|rfl|rfl|rfl|rfl|rfl|rfl|rfl|rfl|rfl|rfl|rfl|rfl|rfl|rfl|rfl|rfl|rfl|rfl|rfl|rfl|rfl|rfl|rfl|rfl|rfl|rfl|rfl|rfl|rfl|rfl|rfl|rfl|rfl|rfl|rfl|rfl|rfl|rfl|rfl|rfl|rfl|rfl|rfl|rfl|rfl|rfl|rfl|rfl
 ·exact w_c0
 ·exact w_c1
 ·exact w_c2
 ·exact w_c3
 ·exact w_c4
 ·exact w_c5
 ·exact w_c6
 ·exact w_c7
 ·exact w_c8
 ·exact w_c9
 ·exact w_c10
 ·exact w_c11
 ·exact w_c12
 ·exact w_c13
 ·exact w_c14
 ·exact w_c15
 ·exact w_c16
 ·exact w_c17
 ·exact w_c18
 ·exact w_c19
 ·exact w_c20
 ·exact w_c21
 ·exact w_c22
 ·exact w_c23
 ·exact w_c24
 ·exact w_c25
 ·exact w_c26
 ·exact w_c27
 ·exact w_c28
 ·exact w_c29
 ·exact w_c30
 ·exact w_c31
 ·exact w_c32
 ·exact w_c33
 ·exact w_c34
 ·exact w_c35
 ·exact w_c36
 ·exact w_c37
 ·exact w_c38
 ·exact w_c39
 ·exact w_c40
 ·exact w_c41
 ·exact w_c42
 ·exact w_c43
 ·exact w_c44
 ·exact w_c45
 ·exact w_c46
 ·exact w_c47
 ·exact w_c48
 ·exact w_c49
 ·exact w_c50
 ·exact w_c51
 ·exact w_c52
 ·exact w_c53
 ·exact w_c54
 ·exact w_c55
 ·exact w_c56
 ·exact w_c57
 ·exact w_c58
 ·exact w_c59
 ·exact w_c60
set_option maxRecDepth 65536 in
theorem w_t1:(words1.take 24).all (fun c=>isCode c||c.before args0 about1)=true:=by decide+kernel
set_option maxRecDepth 65536 in
theorem w_t2:((words1.drop 24).take 24).all (fun c=>isCode c||c.before args0 about1)=true:=by decide+kernel
set_option maxRecDepth 65536 in
theorem w_t3:(((words1.drop 24).drop 24).take 24).all (fun c=>isCode c||c.before args0 about1)=true:=by decide+kernel
set_option maxRecDepth 65536 in
theorem w_t4:((((words1.drop 24).drop 24).drop 24).take 24).all (fun c=>isCode c||c.before args0 about1)=true:=by decide+kernel
set_option maxRecDepth 65536 in
theorem w_t5:(((((words1.drop 24).drop 24).drop 24).drop 24).take 24).all (fun c=>isCode c||c.before args0 about1)=true:=by decide+kernel
set_option maxRecDepth 65536 in
theorem w_t6:((((((words1.drop 24).drop 24).drop 24).drop 24).drop 24).take 24).all (fun c=>isCode c||c.before args0 about1)=true:=by decide+kernel
set_option maxRecDepth 65536 in
theorem w_t7:(((((((words1.drop 24).drop 24).drop 24).drop 24).drop 24).drop 24).take 24).all (fun c=>isCode c||c.before args0 about1)=true:=by decide+kernel
set_option maxRecDepth 65536 in
theorem w_t8:((((((((words1.drop 24).drop 24).drop 24).drop 24).drop 24).drop 24).drop 24).take 24).all (fun c=>isCode c||c.before args0 about1)=true:=by decide+kernel
set_option maxRecDepth 65536 in
theorem w_t9:(((((((((words1.drop 24).drop 24).drop 24).drop 24).drop 24).drop 24).drop 24).drop 24).take 24).all (fun c=>isCode c||c.before args0 about1)=true:=by decide+kernel
set_option maxRecDepth 65536 in
theorem w_t10:((((((((((words1.drop 24).drop 24).drop 24).drop 24).drop 24).drop 24).drop 24).drop 24).drop 24).take 24).all (fun c=>isCode c||c.before args0 about1)=true:=by decide+kernel
set_option maxRecDepth 65536 in
theorem w_t11:(((((((((((words1.drop 24).drop 24).drop 24).drop 24).drop 24).drop 24).drop 24).drop 24).drop 24).drop 24).take 24).all (fun c=>isCode c||c.before args0 about1)=true:=by decide+kernel
set_option maxRecDepth 65536 in
theorem w_t12:((((((((((((words1.drop 24).drop 24).drop 24).drop 24).drop 24).drop 24).drop 24).drop 24).drop 24).drop 24).drop 24).take 24).all (fun c=>isCode c||c.before args0 about1)=true:=by decide+kernel
set_option maxRecDepth 65536 in
theorem w_t13:((((((((((((words1.drop 24).drop 24).drop 24).drop 24).drop 24).drop 24).drop 24).drop 24).drop 24).drop 24).drop 24).drop 24).all (fun c=>isCode c||c.before args0 about1)=true:=by decide+kernel
theorem w_tables:(allAtoms (Jvm.Cond.code x code maxLocals ret::tables_1)).before args0 about1=true:=by
 rw[allAtoms_all]
 show words1.all (fun c=>c.before args0 about1)=true
 refine all_split ?_ w_codes
 rw[←List.take_append_drop 24 words1,List.all_append,w_t1,←List.take_append_drop 24 (words1.drop 24),List.all_append,w_t2,←List.take_append_drop 24 ((words1.drop 24).drop 24),List.all_append,w_t3,←List.take_append_drop 24 (((words1.drop 24).drop 24).drop 24),List.all_append,w_t4,←List.take_append_drop 24 ((((words1.drop 24).drop 24).drop 24).drop 24),List.all_append,w_t5,←List.take_append_drop 24 (((((words1.drop 24).drop 24).drop 24).drop 24).drop 24),List.all_append,w_t6,←List.take_append_drop 24 ((((((words1.drop 24).drop 24).drop 24).drop 24).drop 24).drop 24),List.all_append,w_t7,←List.take_append_drop 24 (((((((words1.drop 24).drop 24).drop 24).drop 24).drop 24).drop 24).drop 24),List.all_append,w_t8,←List.take_append_drop 24 ((((((((words1.drop 24).drop 24).drop 24).drop 24).drop 24).drop 24).drop 24).drop 24),List.all_append,w_t9,←List.take_append_drop 24 (((((((((words1.drop 24).drop 24).drop 24).drop 24).drop 24).drop 24).drop 24).drop 24).drop 24),List.all_append,w_t10,←List.take_append_drop 24 ((((((((((words1.drop 24).drop 24).drop 24).drop 24).drop 24).drop 24).drop 24).drop 24).drop 24).drop 24),List.all_append,w_t11,←List.take_append_drop 24 (((((((((((words1.drop 24).drop 24).drop 24).drop 24).drop 24).drop 24).drop 24).drop 24).drop 24).drop 24).drop 24),List.all_append,w_t12,w_t13]
 rfl
set_option maxRecDepth 65536 in
theorem w_rest:rest_1_c.before args0 about1=true:=by decide+kernel
set_option maxRecDepth 65536 in
theorem w_case:(Jvm.Cond.and given_1 narrow_1).before args0 about1=true:=by decide+kernel
theorem w_applies:(headSpec (Jvm.Cond.code x code maxLocals ret::tables_1) room_1).applies x e0.platform about1=true:=
 (Spec.applies_iff w_frames).mpr ⟨w_running,w_runnable,w_alone,w_named,w_hears,w_ripe,w_room,w_tables⟩
theorem atStart:AtStart classFile x code maxLocals ret World_1 tables_1 room_1 Calls_1 rest_1 Pre_1 launch0 p0 e0 about1 theMethod args0 below0:=
 ⟨lists_1,trivial,launch0.admits_env _ _ _,launch0.least_env,fairChoices_fair.cas,fairChoices_fair.clock,w_frames,w_args,w_heap,w_applies,trivial,w_rest,w_case⟩
end start1
theorem witness_1:WitnessClaimed_1:=⟨start1.p0,start1.e0,start1.about1,start1.theMethod,start1.args0,start1.below0,start1.atStart⟩
end Jvm.Pilot.@@N@@
