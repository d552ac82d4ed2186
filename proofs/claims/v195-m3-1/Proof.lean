import JvmDerived
import JvmDerived.Pilot.@@N@@Statement
import JvmDerived.Pilot.@@N@@Code
set_option linter.unusedVariables false
set_option linter.unusedSimpArgs false
namespace Jvm.RoadKit
open Sem ClassFile Op Lib Jvm.Stand Jvm.Free Jvm.LawKit
section New
variable {p : Program} {l : Launch} {e : Env} {R : Room} {s : State} {m : MethodId} {args : Array Value} {below : List Frame} {meth : Method} {c : Code} {T : State} {locs : List Loc} {cells slots : Nat}
theorem retI (X:Stand p l e R s m args below meth c T locs cells slots) (hx:p.tables.exec = Jvm.exec) {pc:Nat} {Ls:Array Slot} {z:Int32} {rest:List Value} (hret:meth.sig.returnType = some .int) (hd:decode c.code pc = .ok (.ireturn,1)) {fs:List Frame}
    (hl:∀ (f:JFrame) (acts:List Action),f.method = m→f.locked = none→f.entered = []→(doReturn e (T.setTop f) acts (some (.int z))).1 = T.setFrames fs) : Steps p.tables e below (T.setTop (mkF m pc Ls (.int z :: rest))) (T.setFrames fs):=by
  have hm' : T.vm.method? m = some meth:=X.method'
  have hn : narrow .int (.int z) = .int z:=rfl
  show Steps p.tables e below (T.setTop { method:=m,pc:=pc,locals:=Ls,stack:=_ :: rest,locked:=none }) _
  jvm_step X.here [X.here.top,hx,hd,hm',hret,hn]
  first | (intro acts; rw [hl _ acts rfl rfl rfl]) | rw [hl _ _ rfl rfl rfl]
  exact Steps.refl _
end New
end Jvm.RoadKit
namespace Jvm.Pilot.@@N@@
open Jvm Jvm.ClassFile Sem Op Lib Jvm.Free Jvm.Stand Jvm.LawKit Jvm.RoadKit Bundle Jvm.Pilot.@@N@@.Jvm.D
section OwnKit
variable {tb : Tables} {p : Program} {l : Launch} {e : Env} {R : Room} {s : State} {m : MethodId} {args : Array Value} {below : List Frame} {meth : Method} {c : Code} {T : State} {locs : List Loc} {cells slots : Nat} {Z : State} {a0 : Array Value} {F : State → Prop} {S S' : State}
/-- from S the run comes to a state of which F holds -/
def own_G (tb:Tables) (e:Env) (below:List Frame) (F:State→Prop) (S:State) : Prop:=∃ t,Steps tb e below S t∧F t
theorem oS (st:∀ t,Steps tb e below S' t→Steps tb e below S t) (k:own_G tb e below F S') : own_G tb e below F S:=by
  obtain ⟨t,h1,h2⟩:=k
  exact ⟨t,st t h1,h2⟩
theorem oT (st:Steps tb e below S S') (k:own_G tb e below F S') : own_G tb e below F S:=by
  obtain ⟨t,h1,h2⟩:=k
  exact ⟨t,st.trans h1,h2⟩
/-- the end of a body: it has returned v,Q holds,the frame is kept -/
def own_F (s:State) (below:List Frame) (Q:Option Value→Heap→List Loc→Prop) (k n : Nat) (t:State) : Prop:=∃ o,t.status = .running∧Ended t below o∧∃ v L,o = .returned v∧Q v t.heap L∧FrameEnd s o t L k n
/-- a contract -/
def own_Met (l:Launch) (Z:State) (y:MethodName) (bytes:ByteArray) (maxL:Nat) (ret:Option FieldType) (ws:List Cond) (rm:Room) (as:Array Value) (h:Heap) (Q:Option Value→Heap→List Loc→Prop) (k n : Nat) : Prop :=
  MetFree l y (head1 (Jvm.Cond.code y bytes maxL ret :: ws) rm) (fun a U=>a = as∧Z.Warmed39 U.vm∧U.heap = h) (fun _ _ _ _ _=>True) (fun _ U o U'=>∃ v L,o = .returned v∧Q v U'.heap L∧FrameEnd U o U' L k n)
theorem own_body {y:MethodName} {bytes:ByteArray} {maxL:Nat} {ret:Option FieldType} {ws:List Jvm.Cond} {rm:Room} {as:Array Value} {h:Heap} {Q:Option Value→Heap→List Loc→Prop} {k n : Nat} {ef:MethodId→JFrame} (hp:plainFor y = true) (hef:∀ m,entryFrame m as maxL = ef m)
    (body:∀ (p:Program) (e:Env) (s:State) (m:MethodId) (below:List Frame) (meth:Method) (c:Code) (T0:State),p.tables.exec = Jvm.exec→Z.Warmed39 s.vm→c.code = bytes→c.maxLocals = maxL→s.vm.findClass y.cls = some m.cls→meth.name = y.name→meth.sig.returnType = ret→meth.locks = false →
      Stand p l e rm s m as below meth c T0 [] 0 0→T0.heap = h→own_G p.tables e below (own_F s below Q k n) (T0.setTop (ef m))) : own_Met l Z y bytes maxL ret ws rm as h Q k n:=by
  refine MetFree.of_bodySF hp hisR ?_
  intro p e s m args below meth c s₁ Bd hml0 hP hK
  obtain ⟨rfl,hZ,hh⟩:=hP
  have e0 : s₁.heap = h:=by rw [← hh,Bd.state]; rfl
  obtain ⟨t,h1,o,h2,h3,v,L,h4,h5,h6⟩:=body p e s m below meth c s₁ Bd.exec hZ Bd.bytes hml0 (findClass_of_methodNamed Bd.named) (name_of_methodNamed Bd.named Bd.method).1 Bd.returns Bd.notSynchronized (Stand.of_body Bd) e0
  exact ⟨t,o,castTop (hef m) h1,h2,h3,v,L,h4,h5,h6⟩
theorem own_back {y:MethodName} {bytes:ByteArray} {maxL:Nat} {ret:Option FieldType} {rm:Room} {len W : Nat} {as':Array Value} {h:Heap} {Q:Option Value→Heap→List Loc→Prop} (hM:own_Met l Z y bytes maxL ret [] rm as' h Q rm.cells rm.slots)
    (hZ:Z.Warmed39 s.vm) (wc:(Jvm.Cond.code y bytes maxL ret).before a0 Z = true) (wz:(Jvm.Cond.initialized y.cls).before a0 Z = true) (hf:rm.frames+1≤R.frames) (hl:W+(maxL+11)+rm.locals≤R.locals) :
    Back l R p e below s args y len W (fun A a=>a = as'∧A.U.heap = h∧A.cells+rm.cells≤R.cells∧A.slots+rm.slots≤R.slots) (fun A _ v B=>∃ L,Q v B.U.heap L∧B.locs = A.locs++L∧B.cells = A.cells+rm.cells∧B.slots = A.slots+rm.slots):=backOf (Q:=Q) hM hZ wc wz hf hl
theorem own_end {Q:Option Value→Heap→List Loc→Prop} {k n : Nat} {v:Option Value} (X:Stand p l e R s m args below meth c T locs cells slots) (hlk:meth.locks = false) (hv:meth.sig.returnType = none→v = none) (hQ:Q v T.heap locs) (hk:cells≤k) (hn:slots≤n)
    (h:∀ fs,(∀ (f:JFrame) (acts:List Action),f.method = m→f.locked = none→f.entered = []→(doReturn e (T.setTop f) acts v).1 = T.setFrames fs)→Steps p.tables e below S (T.setFrames fs)) : own_G p.tables e below (own_F s below Q k n) S:=by
  obtain ⟨fs,hr,hrun,hended,hW,hsame⟩:=X.leave (v:=v) hv hlk
  exact ⟨_,h fs hr,_,hrun,hended,v,locs,rfl,hQ,⟨_,rfl⟩,hW,hsame.mono hk hn⟩
theorem own_retI {Q:Option Value→Heap→List Loc→Prop} {k n : Nat} {pc:Nat} {Ls:Array Slot} {z:Int32} {rest:List Value} (X:Stand p l e R s m args below meth c T locs cells slots) (hx:p.tables.exec = Jvm.exec) (hret:meth.sig.returnType = some .int) (hlk:meth.locks = false) (hd:decode c.code pc = .ok (.ireturn,1)) (hQ:Q (some (.int z)) T.heap locs) (hk:cells≤k) (hn:slots≤n) :
    own_G p.tables e below (own_F s below Q k n) (T.setTop (mkF m pc Ls (.int z :: rest))) :=
  own_end X hlk (fun h=>by rw [hret] at h; cases h) hQ hk hn fun fs hr=>retI X hx hret hd hr
theorem own_retN {Q:Option Value→Heap→List Loc→Prop} {k n : Nat} {pc:Nat} {Ls:Array Slot} {z:Int32} {t:FieldType} {rest:List Value} (X:Stand p l e R s m args below meth c T locs cells slots) (hx:p.tables.exec = Jvm.exec) (hret:meth.sig.returnType = some t) (hlk:meth.locks = false) (ht:t = .boolean ∨ t = .byte ∨ t = .char ∨ t = .short) (hd:decode c.code pc = .ok (.ireturn,1)) (hQ:Q (some (.int (nar t z))) T.heap locs) (hk:cells≤k) (hn:slots≤n) :
    own_G p.tables e below (own_F s below Q k n) (T.setTop (mkF m pc Ls (.int z :: rest))) :=
  own_end X hlk (fun h=>by rw [hret] at h; cases h) hQ hk hn fun fs hr=>retN X hx hret ht hd hr
theorem own_retA {Q:Option Value→Heap→List Loc→Prop} {k n : Nat} {pc:Nat} {Ls:Array Slot} {w:Value} {t:FieldType} {rest:List Value} (X:Stand p l e R s m args below meth c T locs cells slots) (hx:p.tables.exec = Jvm.exec) (hret:meth.sig.returnType = some t) (ht:t.isReference = true) (hw:w.isRef = true) (hlk:meth.locks = false) (hd:decode c.code pc = .ok (.areturn,1)) (hQ:Q (some w) T.heap locs) (hk:cells≤k) (hn:slots≤n) :
    own_G p.tables e below (own_F s below Q k n) (T.setTop (mkF m pc Ls (w :: rest))) :=
  own_end X hlk (fun h=>by rw [hret] at h; cases h) hQ hk hn fun fs hr=>by
    jvm_step X.here [X.here.top,hx,hd,X.method',hret,hw,ht]
    first | (intro acts; rw [hr _ acts rfl rfl rfl]) | rw [hr _ _ rfl rfl rfl]
    exact Steps.refl _
theorem own_retJ {Q:Option Value→Heap→List Loc→Prop} {k n : Nat} {pc:Nat} {Ls:Array Slot} {z:Int64} {rest:List Value} (X:Stand p l e R s m args below meth c T locs cells slots) (hx:p.tables.exec = Jvm.exec) (hret:meth.sig.returnType = some .long) (hlk:meth.locks = false) (hd:decode c.code pc = .ok (.lreturn,1)) (hQ:Q (some (.long z)) T.heap locs) (hk:cells≤k) (hn:slots≤n) :
    own_G p.tables e below (own_F s below Q k n) (T.setTop (mkF m pc Ls (.long z :: rest))) :=
  own_end X hlk (fun h=>by rw [hret] at h; cases h) hQ hk hn fun fs hr=>by
    jvm_step X.here [X.here.top,hx,hd,X.method',hret,narrow]
    first | (intro acts; rw [hr _ acts rfl rfl rfl]) | rw [hr _ _ rfl rfl rfl]
    exact Steps.refl _
theorem own_ret0 {Q:Option Value→Heap→List Loc→Prop} {k n : Nat} {pc:Nat} {Ls:Array Slot} (X:Stand p l e R s m args below meth c T locs cells slots) (hx:p.tables.exec = Jvm.exec) (hret:meth.sig.returnType = none) (hlk:meth.locks = false) (hd:decode c.code pc = .ok (.return_,1)) (hQ:Q none T.heap locs) (hk:cells≤k) (hn:slots≤n) :
    own_G p.tables e below (own_F s below Q k n) (T.setTop (mkF m pc Ls [])) :=
  own_end X hlk (fun _=>rfl) hQ hk hn fun fs hr=>X.returnOut hx hret hd hr
theorem oL {a b : Nat} (h:@LT.lt Addr instLTNat a b) : @LT.lt Nat instLTNat a b:=h
theorem own_nat {n:Nat} (hn:n < 2147483648) : (Int32.ofNat n).toInt = (n:Int):=Int32.toInt_ofNat_of_lt hn
theorem oC {n:Nat} (hn:n < 2147483648) : (Int32.ofNat n).toNatClampNeg = n:=by
  rw [Int32.toNatClampNeg,own_nat hn]; rfl
theorem own_lt {i n : Nat} (h:i < n) (hn:n < 2147483648) : Int32.ofNat i < Int32.ofNat n:=by
  rw [Int32.lt_iff_toInt_lt,own_nat (by omega),own_nat hn]; omega
theorem oN {n:Nat} (hn:n < 2147483648) : ¬ Int32.ofNat n < 0:=by
  rw [Int32.lt_iff_toInt_lt,own_nat hn,show (0:Int32).toInt = 0 from rfl]; omega
theorem oO (i:Nat) : Int32.ofNat i+(1:Int32) = Int32.ofNat (i+1):=(Int32.ofNat_add i 1).symm
theorem oI {i n : Nat} {cl:Cell} (hs:cl.slots.size = (Int32.ofNat n).toNatClampNeg) (h:i < n) (hn:n < 2147483648) : ¬ (Int32.ofNat i < 0 ∨ cl.slots.size≤(Int32.ofNat i).toNatClampNeg):=by
  rw [hs,oC hn,oC (by omega)]
  exact fun q=>q.elim (oN (by omega)) (fun q=>by omega)
/-- the list f 0,f 1,.. : i of them -/
def oV (f:Nat→Int32) (i:Nat) : List Value:=(List.range i).map fun j=>.int (f j)
theorem own_len (f:Nat→Int32) (i:Nat) : (oV f i).length = i:=by simp [oV]
theorem own_next (f:Nat→Int32) (i:Nat) : oV f i++[.int (f i)] = oV f (i+1):=by simp [oV,List.range_succ]
theorem own_at (f:Nat→Int32) {i j : Nat} (h:j < i) (d:Value) : (oV f i).getD j d = .int (f j):=by simp [oV,List.getD_eq_getElem?_getD,h]
theorem own_set (vs:List Value) (x v : Value) : (vs++[x]).set vs.length v = vs++[v]:=by simp
theorem own_eqI {args:Array Value} {first s : State} {o:Option Outcome} {idx:List Nat} {t:Term} {k:Int32} (h:(Jvm.Cond.eq t (.int k)).value args first o s idx = some true) : t.eval args first o idx s = some (.int k):=by
  obtain ⟨x,y,h1,h2,h3,-⟩:=cmp_v (Or.inl h)
  have h4 : y = .int k:=(Option.some.inj (h2.symm.trans (Term.int_eval k)))
  subst h4
  cases x with
  | int x=>rw [h1]; exact congrArg (fun z=>some (Value.int z)) (gotT (Cond.eq_ints h1 h2) h)
  | _=>simp [Kin,Value.isRef] at h3
end OwnKit

theorem own_clsP {s:State} {args:Array Value} {C:String} {y:MethodName} (h:(Jvm.Cond.selects C y y).before args s = true) : ∃ c k,s.vm.findClass y.cls = some c∧s.vm.classes[c]? = some k∧k.isInterface = false:=by
  obtain ⟨c2,r2,m2,-,-,q3,-,kP,hkP,hkPi⟩:=Cond.selects_spec h
  exact ⟨_,_,findClass_of_methodNamed q3,hkP,hkPi⟩
theorem own_clsI {s:State} {args:Array Value} {C:String} {n:Nat} (h:(Jvm.Cond.instantiable C n).before args s = true) : ∃ c k,s.vm.findClass C = some c∧s.vm.classes[c]? = some k∧k.isInterface = false:=by
  obtain ⟨c,k,h1,h2,-,h3,-,-⟩:=Cond.instantiable_spec h
  exact ⟨c,k,h1,h2,(Bool.or_eq_false_iff.mp h3).1⟩
theorem own_selP {s:State} {args:Array Value} {y:MethodName} (h:∃ c k,s.vm.findClass y.cls = some c∧s.vm.classes[c]? = some k∧k.isInterface = false) (hp:s.PrivateAt y) (hi:(Jvm.Cond.instanceMethod y).before args s = true) (hy:y.cls ≠ "java/lang/invoke/MethodHandle"∧y.cls ≠ "java/lang/invoke/VarHandle") : (Jvm.Cond.selects y.cls y y).before args s = true:=by
  obtain ⟨c,k,h1,h2,h3⟩:=h
  exact selects_self_of_private h1 h2 h3 hp hi hy
theorem own_sameM {s:State} {args:Array Value} {y:MethodName} {C:String} (h:∃ c k,s.vm.findClass C = some c∧s.vm.classes[c]? = some k∧k.isInterface = false) (hi:(Jvm.Cond.instanceMethod y).before args s = true) (hy:y.cls ≠ "java/lang/invoke/MethodHandle"∧y.cls ≠ "java/lang/invoke/VarHandle") (hC:C = y.cls:=by rfl) : (Jvm.Cond.sameMethod y.cls y.cls y.name y.desc).before args s = true:=by
  subst hC
  obtain ⟨c,k,h1,h2,h3⟩:=h
  obtain ⟨mk,methM,hnamed,hmeth,-,-⟩:=Cond.instanceMethod_spec hi
  have hf:=State.methodFound?_of_named hnamed hy
  have hn : s.methodNamed? ⟨y.cls,y.name,y.desc⟩ = some mk:=hnamed
  simp [Cond.before,Cond.holds,Cond.value,h1,hf,hn,h2,h3]

theorem oW {Z:State} {a0:Array Value} (hw:∀ d∈tables_1,d.before a0 Z = true) (i:Nat) {d:Jvm.Cond} (h:tables_1[i]? = some d) : d.before a0 Z = true:=hw _ (List.mem_of_getElem? h)
theorem dE {b b' : ByteArray} (hb:b' = b) {L:List (Nat × Instr × Nat)} (h:∀ q∈L,decode b q.1 = .ok q.2) (i:Nat) {pc:Nat} {r:Instr × Nat} (e:L[i]? = some (pc,r)) : decode b' pc = .ok r:=by
  rw [hb]
  have q : decode b (pc,r).1 = .ok (pc,r).2:=h (pc,r) (List.mem_of_getElem? e)
  exact q
abbrev gH (S:State) (tb:Tables) (e:Env) (below:List Frame) (F:State→Prop) : Prop:=own_G tb e below F S
abbrev vi (x:Int32) : Slot:=.val (.int x)
abbrev vr (x:Addr) : Slot:=.val (.ref x)
set_option maxRecDepth 65536
set_option maxHeartbeats 40000000
theorem own_bodyA {l:Launch} {Z:State} {y:MethodName} {bytes:ByteArray} {maxL:Nat} {ret:Option FieldType} {ws:List Jvm.Cond} {rm:Room} {as:Array Value} {h:Heap} {Q:Option Value→Heap→List Loc→Prop} {k n : Nat} {ef:MethodId→JFrame} (hp:plainFor y = true)
    (body:∀ (p:Program) (e:Env) (s:State) (m:MethodId) (below:List Frame) (meth:Method) (c:Code) (T0:State),p.tables.exec = Jvm.exec→Z.Warmed39 s.vm→c.code = bytes→c.maxLocals = maxL→s.vm.findClass y.cls = some m.cls→meth.name = y.name→meth.sig.returnType = ret→meth.locks = false →
      Stand p l e rm s m as below meth c T0 [] 0 0→T0.heap = h→own_G p.tables e below (own_F s below Q k n) (T0.setTop (ef m))) (hef:∀ m,entryFrame m as maxL = ef m:=by intro m; first | (simp [entryFrame,mkF,argsToLocals,Value.category]; done) | rfl) : own_Met l Z y bytes maxL ret ws rm as h Q k n:=own_body hp hef body
theorem own_nf {Z s : State} (hZ:Z.Warmed39 s.vm) {y:MethodName} (h:∃ c k,Z.vm.findClass y.cls = some c∧Z.vm.classes[c]? = some k∧k.isInterface = false) : NotFace s y:=fun r0 h0=>by
  obtain ⟨c,k,h1,h2,h3⟩:=h
  have f:=findClass_of_methodNamed h0
  rw [hZ.alike.findClass] at f
  cases h1.symm.trans f
  obtain ⟨k',q1,q2⟩:=hZ.alike.2.2 _ _ h2
  exact ⟨k',q1,by rw [q2]; exact h3⟩
section OwnCalls
variable {p : Program} {l : Launch} {e : Env} {R : Room} {s : State} {m : MethodId} {args : Array Value} {below : List Frame} {meth : Method} {c : Code} {T : State} {locs : List Loc} {cells slots : Nat} {Z : State} {a0 : Array Value}
theorem own_cS {y:MethodName} {own:String} {index:Nat} {bytes:ByteArray} {maxL:Nat} {ret:Option FieldType} {rm:Room} {W:Nat} {as':Array Value} {h:Heap} {Q:Option Value→Heap→List Loc→Prop} (X:Stand p l e R s m args below meth c T locs cells slots) (hx:p.tables.exec = Jvm.exec) (hZ:Z.Warmed39 s.vm) (hown:s.vm.findClass own = some m.cls) (hM:own_Met l Z y bytes maxL ret [] rm as' h Q rm.cells rm.slots) (w1:(Jvm.Cond.methodLink own index y).before a0 Z = true) (w2:(Jvm.Cond.static y).before a0 Z = true) (w3:(Jvm.Cond.initialized y.cls).before a0 Z = true) (w4:(Jvm.Cond.code y bytes maxL ret).before a0 Z = true) {g:JFrame} (hg:g.method = m) (hsize:g.locals.size = c.maxLocals) {argsL rest : List Value} (hlen:∀ sig,parseMethodDescriptor y.desc = some sig→argsL.length = sig.parameters.length) (hstack:g.stack = argsL.reverse++rest) (hdg:decode c.code g.pc = .ok (.invokestatic index,3)) (ha:argsL.toArray = as') (eT:T.heap = h) (hc:cells+rm.cells≤R.cells) (hs:slots+rm.slots≤R.slots) (hy:y.cls ≠ "java/lang/invoke/MethodHandle"∧y.cls ≠ "java/lang/invoke/VarHandle":=by decide) (hf:rm.frames+1≤R.frames:=by decide) (hl:W+(maxL+11)+rm.locals≤R.locals:=by decide) (hW:2 * g.monitorRoom+(rest.map fun v=>v.category).sum≤W:=by show 2 * 0+_≤_; exact Nat.le_of_eq rfl) :
    ∃ (v:Option Value) (T':State) (L:List Loc),Stand p l e R s m args below meth c T' (locs++L) (cells+rm.cells) (slots+rm.slots)∧Q v T'.heap L∧∀ t,Steps p.tables e below (T'.setTop { g with pc:=g.pc+3,stack:=v.toList++rest }) t→Steps p.tables e below (T.setTop g) t:=by
  obtain ⟨v,_,⟨T1,L1,k1,n1⟩,-,X1,⟨Lc,hQ,l1,y1,z1⟩,st⟩:=Jvm.LawKit.callS X hx hown (mvT hZ w1) (mvT hZ w2) (mvT hZ w3) (mvT hZ w4) hy (own_back hM hZ w4 w3 hf hl) hg hsize hlen hstack hW hdg (fun _ _=>⟨ha,eT,hc,hs⟩)
  dsimp only [Pt.U,Pt.locs,Pt.cells,Pt.slots] at X1 l1 y1 z1 st hQ
  subst l1 y1 z1
  exact ⟨v,T1,Lc,X1,hQ,st⟩
theorem own_cI {y:MethodName} {own:String} {index:Nat} {bytes:ByteArray} {maxL:Nat} {ret:Option FieldType} {rm:Room} {W:Nat} {as':Array Value} {h:Heap} {Q:Option Value→Heap→List Loc→Prop} (X:Stand p l e R s m args below meth c T locs cells slots) (hx:p.tables.exec = Jvm.exec) (hZ:Z.Warmed39 s.vm) (hown:s.vm.findClass own = some m.cls) (hM:own_Met l Z y bytes maxL ret [] rm as' h Q rm.cells rm.slots) (w1:(Jvm.Cond.methodLink own index y).before a0 Z = true) (w2:(Jvm.Cond.instanceMethod y).before a0 Z = true) {a:Addr} (hn:y.name = "<init>") (hr:ret = none) (w3:(Jvm.Cond.initialized y.cls).before a0 Z = true) (w4:(Jvm.Cond.code y bytes maxL ret).before a0 Z = true) {g:JFrame} (hg:g.method = m) (hsize:g.locals.size = c.maxLocals) {argsL rest : List Value} (hlen:∀ sig,parseMethodDescriptor y.desc = some sig→argsL.length = sig.parameters.length) (hstack:g.stack = argsL.reverse++.ref a :: rest) (hdg:decode c.code g.pc = .ok (.invokespecial index,3)) (ha:(.ref a :: argsL).toArray = as') (eT:T.heap = h) (hc:cells+rm.cells≤R.cells) (hs:slots+rm.slots≤R.slots) (hy:y.cls ≠ "java/lang/invoke/MethodHandle"∧y.cls ≠ "java/lang/invoke/VarHandle":=by decide) (hf:rm.frames+1≤R.frames:=by decide) (hl:W+(maxL+11)+rm.locals≤R.locals:=by decide) (hW:2 * g.monitorRoom+(rest.map fun v=>v.category).sum≤W:=by show 2 * 0+_≤_; exact Nat.le_of_eq rfl) :
    ∃ (v:Option Value) (T':State) (L:List Loc),Stand p l e R s m args below meth c T' (locs++L) (cells+rm.cells) (slots+rm.slots)∧Q v T'.heap L∧∀ t,Steps p.tables e below (T'.setTop { g with pc:=g.pc+3,stack:=v.toList++rest }) t→Steps p.tables e below (T.setTop g) t:=by
  obtain ⟨v,_,⟨T1,L1,k1,n1⟩,-,X1,⟨Lc,hQ,l1,y1,z1⟩,st⟩:=X.specialBack hx hn hown (mvT hZ w1) (mvT hZ w2) (mvT hZ (hr ▸ w4)) hy (own_back hM hZ w4 w3 hf hl) hg hsize (Steps.refl _) (a:=a) hlen hstack hW hdg (fun _ _=>⟨ha,eT,hc,hs⟩)
  dsimp only [Pt.U,Pt.locs,Pt.cells,Pt.slots] at X1 l1 y1 z1 st hQ
  subst l1 y1 z1
  exact ⟨v,T1,Lc,X1,hQ,fun _ k=>st.trans k⟩
theorem own_cV {y z : MethodName} {own C : String} {index:Nat} {bytes:ByteArray} {maxL:Nat} {ret:Option FieldType} {rm:Room} {W:Nat} {as':Array Value} {h:Heap} {Q:Option Value→Heap→List Loc→Prop} (X:Stand p l e R s m args below meth c T locs cells slots) (hx:p.tables.exec = Jvm.exec) (hZ:Z.Warmed39 s.vm) (hown:s.vm.findClass own = some m.cls) (hM:own_Met l Z z bytes maxL ret [] rm as' h Q rm.cells rm.slots) (w1:(Jvm.Cond.methodLink own index y).before a0 Z = true) (w2:(Jvm.Cond.declares y).before a0 Z = true) (w5:(Jvm.Cond.selects C y z).before a0 Z = true) (w6:(Jvm.Cond.instanceMethod z).before a0 Z = true) (w7:∃ c k,Z.vm.findClass y.cls = some c∧Z.vm.classes[c]? = some k∧k.isInterface = false) {a:Addr} (E:Exa Z h a C) (w3:(Jvm.Cond.initialized z.cls).before a0 Z = true) (w4:(Jvm.Cond.code z bytes maxL ret).before a0 Z = true) {g:JFrame} (hg:g.method = m) (hsize:g.locals.size = c.maxLocals) {argsL rest : List Value} (hlen:∀ sig,parseMethodDescriptor y.desc = some sig→argsL.length = sig.parameters.length) (hstack:g.stack = argsL.reverse++.ref a :: rest) (hdg:decode c.code g.pc = .ok (.invokevirtual index,3)) (ha:(.ref a :: argsL).toArray = as') (eT:T.heap = h) (hc:cells+rm.cells≤R.cells) (hs:slots+rm.slots≤R.slots) (hy:y.cls ≠ "java/lang/invoke/MethodHandle"∧y.cls ≠ "java/lang/invoke/VarHandle":=by decide) (hf:rm.frames+1≤R.frames:=by decide) (hl:W+(maxL+11)+rm.locals≤R.locals:=by decide) (hW:2 * g.monitorRoom+(rest.map fun v=>v.category).sum≤W:=by show 2 * 0+_≤_; exact Nat.le_of_eq rfl) :
    ∃ (v:Option Value) (T':State) (L:List Loc),Stand p l e R s m args below meth c T' (locs++L) (cells+rm.cells) (slots+rm.slots)∧Q v T'.heap L∧∀ t,Steps p.tables e below (T'.setTop { g with pc:=g.pc+3,stack:=v.toList++rest }) t→Steps p.tables e below (T.setTop g) t:=by
  obtain ⟨cq,kq,qa,qb,qc⟩:=isOf hZ eT E
  obtain ⟨v,_,⟨T1,L1,k1,n1⟩,-,X1,⟨Lc,hQ,l1,y1,z1⟩,st⟩:=(X.virtualBack hx hown (mvT hZ w1) (mvT hZ w2) (own_nf hZ w7) (mvT hZ w5) (mvT hZ w6) hy (own_back hM hZ w4 w3 hf hl) qa qc hg hsize (Steps.refl _) hlen hstack hW hdg (fun _ _=>⟨ha,eT,hc,hs⟩))
  dsimp only [Pt.U,Pt.locs,Pt.cells,Pt.slots] at X1 l1 y1 z1 st hQ
  subst l1 y1 z1
  exact ⟨v,T1,Lc,X1,hQ,fun _ k=>st.trans k⟩
theorem own_cP {y:MethodName} {own:String} {index:Nat} {bytes:ByteArray} {maxL:Nat} {ret:Option FieldType} {rm:Room} {W:Nat} {as':Array Value} {h:Heap} {Q:Option Value→Heap→List Loc→Prop} (X:Stand p l e R s m args below meth c T locs cells slots) (hx:p.tables.exec = Jvm.exec) (hZ:Z.Warmed39 s.vm) (hown:s.vm.findClass own = some m.cls) (hM:own_Met l Z y bytes maxL ret [] rm as' h Q rm.cells rm.slots) (w1:(Jvm.Cond.methodLink own index y).before a0 Z = true) (w2:(Jvm.Cond.instanceMethod y).before a0 Z = true) (w5:(Jvm.Cond.selects y.cls y y).before a0 Z = true) (w6:(Jvm.Cond.privateMethod y).before a0 Z = true) {C:String} {a:Addr} (E:Exa Z h a C) (w3:(Jvm.Cond.initialized y.cls).before a0 Z = true) (w4:(Jvm.Cond.code y bytes maxL ret).before a0 Z = true) {g:JFrame} (hg:g.method = m) (hsize:g.locals.size = c.maxLocals) {argsL rest : List Value} (hlen:∀ sig,parseMethodDescriptor y.desc = some sig→argsL.length = sig.parameters.length) (hstack:g.stack = argsL.reverse++.ref a :: rest) (hdg:decode c.code g.pc = .ok (.invokevirtual index,3)) (ha:(.ref a :: argsL).toArray = as') (eT:T.heap = h) (hc:cells+rm.cells≤R.cells) (hs:slots+rm.slots≤R.slots) (hy:y.cls ≠ "java/lang/invoke/MethodHandle"∧y.cls ≠ "java/lang/invoke/VarHandle":=by decide) (hf:rm.frames+1≤R.frames:=by decide) (hl:W+(maxL+11)+rm.locals≤R.locals:=by decide) (hW:2 * g.monitorRoom+(rest.map fun v=>v.category).sum≤W:=by show 2 * 0+_≤_; exact Nat.le_of_eq rfl) :
    ∃ (v:Option Value) (T':State) (L:List Loc),Stand p l e R s m args below meth c T' (locs++L) (cells+rm.cells) (slots+rm.slots)∧Q v T'.heap L∧∀ t,Steps p.tables e below (T'.setTop { g with pc:=g.pc+3,stack:=v.toList++rest }) t→Steps p.tables e below (T.setTop g) t:=by
  obtain ⟨cq,q,q'⟩:=E.cell
  obtain ⟨v,_,⟨T1,L1,k1,n1⟩,-,X1,⟨Lc,hQ,l1,y1,z1⟩,st⟩:=(X.privateBack hx hown (mvT hZ w1) (mvT hZ w2) (mvT hZ w5) (Cond.privateMethod_at (mvP hZ w6 (args:=#[]))) (mvT hZ w4) hy (own_back hM hZ w4 w3 hf hl) hg hsize (Steps.refl _) (a:=a) (by rw [eT]; exact q) q' hlen hstack hW hdg (fun _ _=>⟨ha,eT,hc,hs⟩))
  dsimp only [Pt.U,Pt.locs,Pt.cells,Pt.slots] at X1 l1 y1 z1 st hQ
  subst l1 y1 z1
  exact ⟨v,T1,Lc,X1,hQ,fun _ k=>st.trans k⟩
theorem own_cU {y:MethodName} {own:String} {index:Nat} {bytes:ByteArray} {maxL:Nat} {ret:Option FieldType} {rm:Room} {W:Nat} {as':Array Value} {h:Heap} {Q:Option Value→Heap→List Loc→Prop} (X:Stand p l e R s m args below meth c T locs cells slots) (hx:p.tables.exec = Jvm.exec) (hZ:Z.Warmed39 s.vm) (hown:s.vm.findClass own = some m.cls) (hM:own_Met l Z y bytes maxL ret [] rm as' h Q rm.cells rm.slots) (w1:(Jvm.Cond.methodLink own index y).before a0 Z = true) (w2:(Jvm.Cond.instanceMethod y).before a0 Z = true) (w5:(Jvm.Cond.sameMethod y.cls y.cls y.name y.desc).before a0 Z = true) (w6:(Jvm.Cond.superclass own y.cls).before a0 Z = true) (hn:y.name ≠ "<init>") {C:String} {a:Addr} (E:Exa Z h a C) (w3:(Jvm.Cond.initialized y.cls).before a0 Z = true) (w4:(Jvm.Cond.code y bytes maxL ret).before a0 Z = true) {g:JFrame} (hg:g.method = m) (hsize:g.locals.size = c.maxLocals) {argsL rest : List Value} (hlen:∀ sig,parseMethodDescriptor y.desc = some sig→argsL.length = sig.parameters.length) (hstack:g.stack = argsL.reverse++.ref a :: rest) (hdg:decode c.code g.pc = .ok (.invokespecial index,3)) (ha:(.ref a :: argsL).toArray = as') (eT:T.heap = h) (hc:cells+rm.cells≤R.cells) (hs:slots+rm.slots≤R.slots) (hy:y.cls ≠ "java/lang/invoke/MethodHandle"∧y.cls ≠ "java/lang/invoke/VarHandle":=by decide) (hf:rm.frames+1≤R.frames:=by decide) (hl:W+(maxL+11)+rm.locals≤R.locals:=by decide) (hW:2 * g.monitorRoom+(rest.map fun v=>v.category).sum≤W:=by show 2 * 0+_≤_; exact Nat.le_of_eq rfl) :
    ∃ (v:Option Value) (T':State) (L:List Loc),Stand p l e R s m args below meth c T' (locs++L) (cells+rm.cells) (slots+rm.slots)∧Q v T'.heap L∧∀ t,Steps p.tables e below (T'.setTop { g with pc:=g.pc+3,stack:=v.toList++rest }) t→Steps p.tables e below (T.setTop g) t:=by
  obtain ⟨v,_,⟨T1,L1,k1,n1⟩,-,X1,⟨Lc,hQ,l1,y1,z1⟩,st⟩:=superBack X hx hZ hown w1 w5 w2 w6 hn (own_back hM hZ w4 w3 hf hl) eT (Ins.self E) hg hsize w4 hlen hstack hW hdg (fun _ _=>⟨ha,eT,hc,hs⟩)
  dsimp only [Pt.U,Pt.locs,Pt.cells,Pt.slots] at X1 l1 y1 z1 st hQ
  subst l1 y1 z1
  exact ⟨v,T1,Lc,X1,hQ,fun _ k=>st.trans k⟩
end OwnCalls


/-- the byte that compress keeps of a char -/
def own_lo (c:Int32) : Int32:=nar .byte (c.toInt8.toInt32)
/-- a char's two bytes,as putChar lays them -/
def own_b0 (c:Int32) : Int32:=nar .byte ((c>>>((0:Int32)&&&31)).toInt8.toInt32)
def own_b1 (c:Int32) : Int32:=nar .byte ((c>>>((8:Int32)&&&31)).toInt8.toInt32)
def own_wide (f:Nat→Int32) (j:Nat) : Int32:=if j % 2 = 0 then own_b0 (f (j / 2)) else own_b1 (f (j / 2))
theorem own_wide0 (f:Nat→Int32) (i:Nat) : own_wide f (2 * i) = own_b0 (f i):=by
  unfold own_wide
  rw [if_pos (by omega),show 2 * i / 2 = i by omega]
theorem own_wide1 (f:Nat→Int32) (i:Nat) : own_wide f (2 * i+1) = own_b1 (f i):=by
  unfold own_wide
  rw [if_neg (by omega),show (2 * i+1) / 2 = i by omega]
theorem own_shl1 {i:Nat} (h:i < 1000000) : Int32.ofNat i<<<((1:Int32)&&&31) = Int32.ofNat (2 * i):=by
  apply Int32.toInt_inj.mp
  have h1:=c_ishl (Int32.ofNat i) 1 1 rfl
  have h2:=rng32 (Int32.ofNat i<<<((1:Int32)&&&31))
  rw [own_nat (by omega)] at h1
  rw [own_nat (by omega)]
  omega
theorem own_pair {c:Int32} (h0:0≤c.toInt) (h1:c.toInt < 65536) : nar .char ((((own_b0 c&&&(255:Int32))<<<((0:Int32)&&&31))|||((own_b1 c&&&(255:Int32))<<<((8:Int32)&&&31))).toUInt32.toUInt16.toUInt32.toInt32) = c:=by
  apply Int32.toInt_inj.mp
  show (Int32.toUInt32 _).toUInt16.toUInt32.toInt32.toInt = _
  have a0:=c_ishr c 0 0 rfl
  have a1:=c_ishr c 8 8 rfl
  have b0:=c_i2b (c>>>((0:Int32)&&&31))
  have b1:=c_i2b (c>>>((8:Int32)&&&31))
  have d0 : ((own_b0 c).toInt - _) % 256 = 0∧_:=c_i2b ((c>>>((0:Int32)&&&31)).toInt8.toInt32)
  have d1 : ((own_b1 c).toInt - _) % 256 = 0∧_:=c_i2b ((c>>>((8:Int32)&&&31)).toInt8.toInt32)
  have e0:=c_mask (own_b0 c) 255 8 (by decide) rfl
  have e1:=c_mask (own_b1 c) 255 8 (by decide) rfl
  have f0:=c_ishl (own_b0 c&&&255) 0 0 rfl
  have f1:=c_ishl (own_b1 c&&&255) 8 8 rfl
  have r0:=rng32 ((own_b0 c&&&(255:Int32))<<<((0:Int32)&&&31))
  have r1:=rng32 ((own_b1 c&&&(255:Int32))<<<((8:Int32)&&&31))
  have g:=c_or' ((own_b0 c&&&(255:Int32))<<<((0:Int32)&&&31)) ((own_b1 c&&&(255:Int32))<<<((8:Int32)&&&31)) 8 (by decide) 256 rfl (by omega) (by omega) (by omega)
  have r2:=rng32 (((own_b0 c&&&(255:Int32))<<<((0:Int32)&&&31))|||((own_b1 c&&&(255:Int32))<<<((8:Int32)&&&31)))
  have i0:=c_i2c (((own_b0 c&&&(255:Int32))<<<((0:Int32)&&&31))|||((own_b1 c&&&(255:Int32))<<<((8:Int32)&&&31)))
  have i1:=c_i2c ((((own_b0 c&&&(255:Int32))<<<((0:Int32)&&&31))|||((own_b1 c&&&(255:Int32))<<<((8:Int32)&&&31))).toUInt32.toUInt16.toUInt32.toInt32)
  omega
theorem own_get {cl:Cell} {n i : Nat} {f:Nat→Int32} {d:Value} (S:cl.slots.size = (Int32.ofNat n).toNatClampNeg) (H:Has cl (oV f n) d) (h:i < n) (hn:n < 2147483648) : cl.slots[(Int32.ofNat i).toNatClampNeg]? = some (.int (f i)):=by
  rw [oC (by omega)]
  have q:=H i (by rw [S,oC hn]; exact h)
  rw [own_at f h] at q
  exact q
/-- a String's object a,its bytes at t: the chars f 0 .. f (n - 1) -/
def own_Str (Z:State) (h:Heap) (a t : Addr) (kb:ClassId) (f:Nat→Int32) (n:Nat) : Prop:=Exa Z h a "java/lang/String"∧∃ cd : Int32,Fld Z h a "java/lang/String" "coder" "B" (.int cd)∧Fld Z h a "java/lang/String" "value" "[B" (.ref t) ∧
  ((cd = 0∧(∀ j,j < n→¬ (255:Int32) < f j)∧Arv Z h t kb .byte (Int32.ofNat n) (oV (fun j=>own_lo (f j)) n) (.int 0)) ∨ (cd = 1∧Arv Z h t kb .byte (Int32.ofNat (2 * n)) (oV (own_wide f) (2 * n)) (.int 0)))
/-- a Latin-1 String's object a,its bytes at t -/
def own_StrL (Z:State) (h:Heap) (a t : Addr) (kb:ClassId) (g:Nat→Int32) (n:Nat) : Prop:=Exa Z h a "java/lang/String"∧Fld Z h a "java/lang/String" "coder" "B" (.int 0)∧Fld Z h a "java/lang/String" "value" "[B" (.ref t)∧Arv Z h t kb .byte (Int32.ofNat n) (oV g n) (.int 0)
theorem own_StrL_ext {Z:State} {h h' : Heap} {a t : Addr} {kb:ClassId} {g:Nat→Int32} {n:Nat} (H:own_StrL Z h a t kb g n) (E:Ext h h') : own_StrL Z h' a t kb g n:=⟨H.1.ext E,H.2.1.ext E,H.2.2.1.ext E,H.2.2.2.ext E⟩
theorem own_StrL_keep {Z:State} {h h' : Heap} {a t : Addr} {kb:ClassId} {g:Nat→Int32} {n:Nat} {ws:List Addr} (H:own_StrL Z h a t kb g n) (K:Keep h h' ws) (q1:a ∉ ws) (q2:t ∉ ws) : own_StrL Z h' a t kb g n:=⟨H.1.keep K,H.2.1.keep K q1,H.2.2.1.keep K q1,H.2.2.2.keep K q2⟩
/-- StringUTF16's statics -/
def own_US (Z:State) : Prop:=Sta Z Z.heap "java/lang/StringUTF16" "$assertionsDisabled" "Z" (.int 1)∧Sta Z Z.heap "java/lang/StringUTF16" "HI_BYTE_SHIFT" "I" (.int 0)∧Sta Z Z.heap "java/lang/StringUTF16" "LO_BYTE_SHIFT" "I" (.int 8)

theorem own_pn0 : plainName "java/lang/StringUTF16" = true:=by first | (simp [plainName,overriddenIn]; done) | decide +kernel
def L0 : List (Nat × Instr × Nat):=[(0,.getstatic 44,3),(3,.ifCond .ne 25,3),(28,.iload_n 1,1),(29,.iconst 1,1),(30,.ishl,1),(31,.istore_n 1,1),(32,.aload_n 0,1),(33,.iload_n 1,1),(34,.iinc 1 1,3),(37,.baload,1),(38,.sipush 255,3),(41,.iand,1),(42,.getstatic 59,3),(45,.ishl,1),(46,.aload_n 0,1),(47,.iload_n 1,1),(48,.baload,1),(49,.sipush 255,3),(52,.iand,1),(53,.getstatic 63,3),(56,.ishl,1),(57,.ior,1),(58,.i2c,1),(59,.ireturn,1)]
theorem D0 : ∀ q∈L0,decode jdk_52_method_5_code q.1 = .ok q.2:=by decide +kernel
theorem own_getChar (l:Launch) (Z:State) (a0:Array Value) (hw:∀ d∈tables_1,d.before a0 Z = true) (ws:List Jvm.Cond) (a1:Addr) (i n : Nat) (f:Nat→Int32) (kb:ClassId) (h0:Heap) (O0:Old Z Z.heap.size h0) (hi:i < n) (hn:n≤16) (hf:0≤(f i).toInt∧(f i).toInt < 65536) (US:own_US Z) (V1:Arv Z h0 a1 kb .byte (Int32.ofNat (2 * n)) (oV (own_wide f) (2 * n)) (.int 0)) :
    own_Met l Z (⟨"java/lang/StringUTF16","getChar","([BI)C"⟩ : MethodName) jdk_52_method_5_code 2 (some .char) ws (⟨0,0,0,0⟩ : Room) #[(.ref a1),(.int (.ofNat i))] h0 (fun v h L=>v = some (.int (f i))∧Fr Z.heap.size L∧h = h0) 0 0:=by
  refine own_bodyA (ef:=fun m=>mkF m 0 #[.val (.ref a1),.val (.int (Int32.ofNat i))] []) (plainFor_of_name own_pn0) ?_
  intro p e s m below meth c T0 hx hZ hby hml hown hnm hret hlk X0 e0
  have N0:=Fr.nil Z.heap.size
  have z0 : Z.heap.size≤h0.size:=O0.2.1
  show gH (T0.setTop (mkF m 0 #[vr a1,vi (.ofNat i)] [])) ..
  obtain ⟨U1,U2,U3⟩:=US
  obtain ⟨T1,X1,e1,st1⟩:=getS2 X0 hx hZ hown (host:="") (Or.inl (oW hw 163 rfl)) Via.refl e0 (Sta.ext O0.2 U1) (g:=(mkF m 0 #[vr a1,vi (.ofNat i)] [])) rfl (dE hby D0 0 rfl)
  refine oS st1 ?_
  show gH (T1.setTop (mkF m 3 #[vr a1,vi (.ofNat i)] [(.int 1)])) ..
  refine oS (fun _=>XS.ifYes X1.here hx rfl (pc0:=3) (pc':=28) rfl (dE hby D0 1 rfl) rfl ((if0 _ _).trans (feq (by decide)).2) (by decide) (by decide)) ?_
  refine oS (fun _=>XS.iloadN X1.here hx rfl (dE hby D0 2 rfl) rfl) ?_
  refine oS (fun _=>XS.iconst X1.here hx rfl (dE hby D0 3 rfl)) ?_
  refine oS (fun _=>XS.ishl X1.here hx rfl (dE hby D0 4 rfl) rfl) ?_
  show gH (T1.setTop (mkF m 31 #[vr a1,vi (.ofNat i)] [(.int ((Int32.ofNat i)<<<((1:Int32)&&&31)))])) ..
  rw [own_shl1 (by omega)]
  show gH (T1.setTop (mkF m 31 #[vr a1,vi (.ofNat i)] [(.int (.ofNat (2 * i)))])) ..
  refine oS (fun _=>XS.istoreN X1.here hx rfl (dE hby D0 5 rfl) rfl (l':=#[vr a1,vi (.ofNat (2 * i))]) rfl) ?_
  refine oS (fun _=>XS.aloadN X1.here hx rfl (dE hby D0 6 rfl) rfl rfl) ?_
  refine oS (fun _=>XS.iloadN X1.here hx rfl (dE hby D0 7 rfl) rfl) ?_
  refine oS (fun _=>XS.iinc X1.here hx rfl (dE hby D0 8 rfl) rfl (l':=#[vr a1,vi ((Int32.ofNat (2 * i))+(1:Int32))]) rfl) ?_
  show gH (T1.setTop (mkF m 37 #[vr a1,vi ((Int32.ofNat (2 * i))+(1:Int32))] [(.int (.ofNat (2 * i))),(.ref a1)])) ..
  obtain ⟨cl2,Ar2,qk2,Sz2,Mz2,Hz2,Uz2⟩:=id V1
  refine oS (X1.baloadBytes hx (j:=(Int32.ofNat (2 * i))) (v:=(.int (own_wide f (2 * i)))) (by rw [e1]; exact Ar2.1) (State.isArrayOf_alike hZ.alike Ar2.2.1) Ar2.2.2 (oI Sz2 (by omega) (by omega)) (own_get Sz2 Hz2 (by omega) (by omega)) (g:=(mkF m 37 #[vr a1,vi ((Int32.ofNat (2 * i))+(1:Int32))] [(.int (.ofNat (2 * i))),(.ref a1)])) rfl rfl (dE hby D0 9 rfl)) ?_
  show gH (T1.setTop (mkF m 38 #[vr a1,vi ((Int32.ofNat (2 * i))+(1:Int32))] [(.int (own_wide f (2 * i)))])) ..
  rw [oO]
  show gH (T1.setTop (mkF m 38 #[vr a1,vi (.ofNat (2 * i+1))] [(.int (own_wide f (2 * i)))])) ..
  refine oS (fun _=>XS.sipush X1.here hx rfl (dE hby D0 10 rfl)) ?_
  refine oS (fun _=>XS.iand X1.here hx rfl (dE hby D0 11 rfl) rfl) ?_
  obtain ⟨T3,X3,e3,st3⟩:=getS2 X1 hx hZ hown (host:="") (Or.inl (oW hw 164 rfl)) Via.refl e1 (Sta.ext O0.2 U2) (g:=(mkF m 42 #[vr a1,vi (.ofNat (2 * i+1))] [(.int ((own_wide f (2 * i))&&&(255:Int32)))])) rfl (dE hby D0 12 rfl)
  refine oS st3 ?_
  show gH (T3.setTop (mkF m 45 #[vr a1,vi (.ofNat (2 * i+1))] [(.int 0),(.int ((own_wide f (2 * i))&&&(255:Int32)))])) ..
  refine oS (fun _=>XS.ishl X3.here hx rfl (dE hby D0 13 rfl) rfl) ?_
  refine oS (fun _=>XS.aloadN X3.here hx rfl (dE hby D0 14 rfl) rfl rfl) ?_
  refine oS (fun _=>XS.iloadN X3.here hx rfl (dE hby D0 15 rfl) rfl) ?_
  show gH (T3.setTop (mkF m 48 #[vr a1,vi (.ofNat (2 * i+1))] [(.int (.ofNat (2 * i+1))),(.ref a1),(.int (((own_wide f (2 * i))&&&(255:Int32))<<<((0:Int32)&&&31)))])) ..
  obtain ⟨cl4,Ar4,qk4,Sz4,Mz4,Hz4,Uz4⟩:=id V1
  refine oS (X3.baloadBytes hx (j:=(Int32.ofNat (2 * i+1))) (v:=(.int (own_wide f (2 * i+1)))) (by rw [e3]; exact Ar4.1) (State.isArrayOf_alike hZ.alike Ar4.2.1) Ar4.2.2 (oI Sz4 (by omega) (by omega)) (own_get Sz4 Hz4 (by omega) (by omega)) (g:=(mkF m 48 #[vr a1,vi (.ofNat (2 * i+1))] [(.int (.ofNat (2 * i+1))),(.ref a1),(.int (((own_wide f (2 * i))&&&(255:Int32))<<<((0:Int32)&&&31)))])) rfl rfl (dE hby D0 16 rfl)) ?_
  show gH (T3.setTop (mkF m 49 #[vr a1,vi (.ofNat (2 * i+1))] [(.int (own_wide f (2 * i+1))),(.int (((own_wide f (2 * i))&&&(255:Int32))<<<((0:Int32)&&&31)))])) ..
  refine oS (fun _=>XS.sipush X3.here hx rfl (dE hby D0 17 rfl)) ?_
  refine oS (fun _=>XS.iand X3.here hx rfl (dE hby D0 18 rfl) rfl) ?_
  obtain ⟨T5,X5,e5,st5⟩:=getS2 X3 hx hZ hown (host:="") (Or.inl (oW hw 165 rfl)) Via.refl e3 (Sta.ext O0.2 U3) (g:=(mkF m 53 #[vr a1,vi (.ofNat (2 * i+1))] [(.int ((own_wide f (2 * i+1))&&&(255:Int32))),(.int (((own_wide f (2 * i))&&&(255:Int32))<<<((0:Int32)&&&31)))])) rfl (dE hby D0 19 rfl)
  refine oS st5 ?_
  show gH (T5.setTop (mkF m 56 #[vr a1,vi (.ofNat (2 * i+1))] [(.int 8),(.int ((own_wide f (2 * i+1))&&&(255:Int32))),(.int (((own_wide f (2 * i))&&&(255:Int32))<<<((0:Int32)&&&31)))])) ..
  refine oS (fun _=>XS.ishl X5.here hx rfl (dE hby D0 20 rfl) rfl) ?_
  refine oS (fun _=>XS.ior X5.here hx rfl (dE hby D0 21 rfl) rfl) ?_
  refine oS (fun _=>XS.i2c X5.here hx rfl (dE hby D0 22 rfl) rfl) ?_
  show gH (T5.setTop (mkF m 59 #[vr a1,vi (.ofNat (2 * i+1))] [(.int (((((own_wide f (2 * i))&&&(255:Int32))<<<((0:Int32)&&&31))|||(((own_wide f (2 * i+1))&&&(255:Int32))<<<((8:Int32)&&&31))).toUInt32.toUInt16.toUInt32.toInt32))])) ..
  exact own_retN X5 hx hret hlk (by simp) (dE hby D0 23 rfl) (by rw [e5]; exact ⟨by rw [own_wide0,own_wide1,own_pair hf.1 hf.2],N0,rfl⟩) (by decide) (by decide)
def L1 : List (Nat × Instr × Nat):=[(0,.getstatic 44,3),(3,.ifCond .ne 25,3),(28,.iload_n 1,1),(29,.iconst 1,1),(30,.ishl,1),(31,.istore_n 1,1),(32,.aload_n 0,1),(33,.iload_n 1,1),(34,.iinc 1 1,3),(37,.iload_n 2,1),(38,.getstatic 59,3),(41,.ishr,1),(42,.i2b,1),(43,.bastore,1),(44,.aload_n 0,1),(45,.iload_n 1,1),(46,.iload_n 2,1),(47,.getstatic 63,3),(50,.ishr,1),(51,.i2b,1),(52,.bastore,1),(53,.return_,1)]
theorem D1 : ∀ q∈L1,decode jdk_52_method_4_code q.1 = .ok q.2:=by decide +kernel
theorem own_putChar (l:Launch) (Z:State) (a0:Array Value) (hw:∀ d∈tables_1,d.before a0 Z = true) (ws:List Jvm.Cond) (a1:Addr) (i n : Nat) (f:Nat→Int32) (kb:ClassId) (h0:Heap) (O0:Old Z Z.heap.size h0) (hi:i < n) (hn:n≤16) (g1:Z.heap.size≤a1) (US:own_US Z) (V1:Arv Z h0 a1 kb .byte (Int32.ofNat (2 * n)) (oV (own_wide f) (2 * i)) (.int 0)) :
    own_Met l Z (⟨"java/lang/StringUTF16","putChar","([BII)V"⟩ : MethodName) jdk_52_method_4_code 3 none ws (⟨0,0,0,0⟩ : Room) #[(.ref a1),(.int (.ofNat i)),(.int (f i))] h0 (fun v h L=>v = none∧Fr Z.heap.size L∧Keep h0 h [a1]∧Arv Z h a1 kb .byte (Int32.ofNat (2 * n)) (oV (own_wide f) (2 * (i+1))) (.int 0)) 0 0:=by
  refine own_bodyA (ef:=fun m=>mkF m 0 #[.val (.ref a1),.val (.int (Int32.ofNat i)),.val (.int (f i))] []) (plainFor_of_name own_pn0) ?_
  intro p e s m below meth c T0 hx hZ hby hml hown hnm hret hlk X0 e0
  have N0:=Fr.nil Z.heap.size
  have z0 : Z.heap.size≤h0.size:=O0.2.1
  have Kr:=Keep.refl h0 [a1]
  show gH (T0.setTop (mkF m 0 #[vr a1,vi (.ofNat i),vi (f i)] [])) ..
  obtain ⟨U1,U2,U3⟩:=US
  have lta:=oL V1.lt
  obtain ⟨T1,X1,e1,st1⟩:=getS2 X0 hx hZ hown (host:="") (Or.inl (oW hw 163 rfl)) Via.refl e0 (Sta.ext O0.2 U1) (g:=(mkF m 0 #[vr a1,vi (.ofNat i),vi (f i)] [])) rfl (dE hby D1 0 rfl)
  refine oS st1 ?_
  show gH (T1.setTop (mkF m 3 #[vr a1,vi (.ofNat i),vi (f i)] [(.int 1)])) ..
  refine oS (fun _=>XS.ifYes X1.here hx rfl (pc0:=3) (pc':=28) rfl (dE hby D1 1 rfl) rfl ((if0 _ _).trans (feq (by decide)).2) (by decide) (by decide)) ?_
  refine oS (fun _=>XS.iloadN X1.here hx rfl (dE hby D1 2 rfl) rfl) ?_
  refine oS (fun _=>XS.iconst X1.here hx rfl (dE hby D1 3 rfl)) ?_
  refine oS (fun _=>XS.ishl X1.here hx rfl (dE hby D1 4 rfl) rfl) ?_
  show gH (T1.setTop (mkF m 31 #[vr a1,vi (.ofNat i),vi (f i)] [(.int ((Int32.ofNat i)<<<((1:Int32)&&&31)))])) ..
  rw [own_shl1 (by omega)]
  show gH (T1.setTop (mkF m 31 #[vr a1,vi (.ofNat i),vi (f i)] [(.int (.ofNat (2 * i)))])) ..
  refine oS (fun _=>XS.istoreN X1.here hx rfl (dE hby D1 5 rfl) rfl (l':=#[vr a1,vi (.ofNat (2 * i)),vi (f i)]) rfl) ?_
  refine oS (fun _=>XS.aloadN X1.here hx rfl (dE hby D1 6 rfl) rfl rfl) ?_
  refine oS (fun _=>XS.iloadN X1.here hx rfl (dE hby D1 7 rfl) rfl) ?_
  refine oS (fun _=>XS.iinc X1.here hx rfl (dE hby D1 8 rfl) rfl (l':=#[vr a1,vi ((Int32.ofNat (2 * i))+(1:Int32)),vi (f i)]) rfl) ?_
  refine oS (fun _=>XS.iloadN X1.here hx rfl (dE hby D1 9 rfl) rfl) ?_
  obtain ⟨T2,X2,e2,st2⟩:=getS2 X1 hx hZ hown (host:="") (Or.inl (oW hw 164 rfl)) Via.refl e1 (Sta.ext O0.2 U2) (g:=(mkF m 38 #[vr a1,vi ((Int32.ofNat (2 * i))+(1:Int32)),vi (f i)] [(.int (f i)),(.int (.ofNat (2 * i))),(.ref a1)])) rfl (dE hby D1 10 rfl)
  refine oS st2 ?_
  show gH (T2.setTop (mkF m 41 #[vr a1,vi ((Int32.ofNat (2 * i))+(1:Int32)),vi (f i)] [(.int 0),(.int (f i)),(.int (.ofNat (2 * i))),(.ref a1)])) ..
  refine oS (fun _=>XS.ishr X2.here hx rfl (dE hby D1 11 rfl) rfl) ?_
  refine oS (fun _=>XS.i2b X2.here hx rfl (dE hby D1 12 rfl) rfl) ?_
  have V3p : Arv Z h0 a1 kb .byte (Int32.ofNat (2 * n)) ((oV (own_wide f) (2 * i))++[(.int 0)]) (.int 0):=V1.pad (pad_rep (oV (own_wide f) (2 * i)) (.int 0) 1)
  obtain ⟨cl4,Ar4,qk4,Sz4,Mz4,Hz4,Uz4⟩:=id V3p
  obtain ⟨T5,h5,X5,e5,W5,st5⟩:=stB X2 hx hZ e2 Ar4 (j:=(Int32.ofNat (2 * i))) (oI Sz4 (by omega) (by omega)) (g:=(mkF m 43 #[vr a1,vi ((Int32.ofNat (2 * i))+(1:Int32)),vi (f i)] [(.int (((f i)>>>((0:Int32)&&&31)).toInt8.toInt32)),(.int (.ofNat (2 * i))),(.ref a1)])) rfl rfl (dE hby D1 13 rfl)
  refine oS st5 ?_
  have V5:=Arv.set Ar4 qk4 Sz4 Mz4 Hz4 Uz4 (fits_nar_byte _) W5 (oV (own_wide f) (2 * i)).length (by rw [oC (by omega),own_len]) (by simp)
  have z6:=W5.size
  have O7:=Old.wr O0 W5 (by omega)
  have K8:=Kr.wr W5 (Or.inl (by simp))
  have N5:=Fr.snoc X5 N0 (by omega : Z.heap.size≤a1)
  have V5' : Arv Z h5 a1 kb .byte (Int32.ofNat (2 * n)) (oV (own_wide f) (2 * i+1)) (.int 0):=by have q:=V5; rw [own_set] at q; rw [← own_next,own_wide0]; exact q
  show gH (T5.setTop (mkF m 44 #[vr a1,vi ((Int32.ofNat (2 * i))+(1:Int32)),vi (f i)] [])) ..
  rw [oO]
  show gH (T5.setTop (mkF m 44 #[vr a1,vi (.ofNat (2 * i+1)),vi (f i)] [])) ..
  refine oS (fun _=>XS.aloadN X5.here hx rfl (dE hby D1 14 rfl) rfl rfl) ?_
  refine oS (fun _=>XS.iloadN X5.here hx rfl (dE hby D1 15 rfl) rfl) ?_
  refine oS (fun _=>XS.iloadN X5.here hx rfl (dE hby D1 16 rfl) rfl) ?_
  obtain ⟨T9,X9,e9,st9⟩:=getS2 X5 hx hZ hown (host:="") (Or.inl (oW hw 165 rfl)) Via.refl e5 (Sta.ext O7.2 U3) (g:=(mkF m 47 #[vr a1,vi (.ofNat (2 * i+1)),vi (f i)] [(.int (f i)),(.int (.ofNat (2 * i+1))),(.ref a1)])) rfl (dE hby D1 17 rfl)
  refine oS st9 ?_
  show gH (T9.setTop (mkF m 50 #[vr a1,vi (.ofNat (2 * i+1)),vi (f i)] [(.int 8),(.int (f i)),(.int (.ofNat (2 * i+1))),(.ref a1)])) ..
  refine oS (fun _=>XS.ishr X9.here hx rfl (dE hby D1 18 rfl) rfl) ?_
  refine oS (fun _=>XS.i2b X9.here hx rfl (dE hby D1 19 rfl) rfl) ?_
  have V10p : Arv Z h5 a1 kb .byte (Int32.ofNat (2 * n)) ((oV (own_wide f) (2 * i+1))++[(.int 0)]) (.int 0):=V5'.pad (pad_rep (oV (own_wide f) (2 * i+1)) (.int 0) 1)
  obtain ⟨cl11,Ar11,qk11,Sz11,Mz11,Hz11,Uz11⟩:=id V10p
  obtain ⟨T12,h12,X12,e12,W12,st12⟩:=stB X9 hx hZ e9 Ar11 (j:=(Int32.ofNat (2 * i+1))) (oI Sz11 (by omega) (by omega)) (g:=(mkF m 52 #[vr a1,vi (.ofNat (2 * i+1)),vi (f i)] [(.int (((f i)>>>((8:Int32)&&&31)).toInt8.toInt32)),(.int (.ofNat (2 * i+1))),(.ref a1)])) rfl rfl (dE hby D1 20 rfl)
  refine oS st12 ?_
  have V12:=Arv.set Ar11 qk11 Sz11 Mz11 Hz11 Uz11 (fits_nar_byte _) W12 (oV (own_wide f) (2 * i+1)).length (by rw [oC (by omega),own_len]) (by simp)
  have z13:=W12.size
  have O14:=Old.wr O7 W12 (by omega)
  have K15:=K8.wr W12 (Or.inl (by simp))
  have N12:=Fr.snoc X12 N5 (by omega : Z.heap.size≤a1)
  have V12' : Arv Z h12 a1 kb .byte (Int32.ofNat (2 * n)) (oV (own_wide f) (2 * (i+1))) (.int 0):=by have q:=V12; rw [own_set] at q; rw [show 2 * (i+1) = 2 * i+1+1 by omega,← own_next,own_wide1]; exact q
  show gH (T12.setTop (mkF m 53 #[vr a1,vi (.ofNat (2 * i+1)),vi (f i)] [])) ..
  exact own_ret0 X12 hx hret hlk (dE hby D1 21 rfl) (by rw [e12]; exact ⟨rfl,N12,K15,V12'⟩) (by decide) (by decide)
def L2 : List (Nat × Instr × Nat):=[(0,.iload_n 0,1),(1,.ifCond .ge 11,3),(12,.iload_n 0,1),(13,.ldc 20,2),(15,.if_icmp .lt 40,3),(55,.iload_n 0,1),(56,.iconst 1,1),(57,.ishl,1),(58,.ireturn,1)]
theorem D2 : ∀ q∈L2,decode jdk_52_method_3_code q.1 = .ok q.2:=by decide +kernel
theorem own_nbl (l:Launch) (Z:State) (a0:Array Value) (hw:∀ d∈tables_1,d.before a0 Z = true) (ws:List Jvm.Cond)  (n:Nat) (h0:Heap) (O0:Old Z Z.heap.size h0) (hn:n≤16) :
    own_Met l Z (⟨"java/lang/StringUTF16","newBytesLength","(I)I"⟩ : MethodName) jdk_52_method_3_code 1 (some .int) ws (⟨0,0,0,0⟩ : Room) #[(.int (.ofNat n))] h0 (fun v h L=>v = some (.int (.ofNat (2 * n)))∧Fr Z.heap.size L∧h = h0) 0 0:=by
  refine own_bodyA (ef:=fun m=>mkF m 0 #[.val (.int (Int32.ofNat n))] []) (plainFor_of_name own_pn0) ?_
  intro p e s m below meth c T0 hx hZ hby hml hown hnm hret hlk X0 e0
  have N0:=Fr.nil Z.heap.size
  have z0 : Z.heap.size≤h0.size:=O0.2.1
  show gH (T0.setTop (mkF m 0 #[vi (.ofNat n)] [])) ..
  refine oS (fun _=>XS.iloadN X0.here hx rfl (dE hby D2 0 rfl) rfl) ?_
  refine oS (fun _=>XS.ifYes X0.here hx rfl (pc0:=1) (pc':=12) rfl (dE hby D2 1 rfl) rfl ((if0 _ _).trans (flt (oN (by omega))).2.1) (by decide) (by decide)) ?_
  refine oS (fun _=>XS.iloadN X0.here hx rfl (dE hby D2 2 rfl) rfl) ?_
  show gH (T0.setTop (mkF m 13 #[vi (.ofNat n)] [(.int (.ofNat n))])) ..
  refine oS (X0.ldcInt hx hown (mvT hZ (oW hw 159 rfl)) (g:=(mkF m 13 #[vi (.ofNat n)] [(.int (.ofNat n))])) rfl (dE hby D2 3 rfl)) ?_
  show gH (T0.setTop (mkF m 15 #[vi (.ofNat n)] [(.int 1073741823),(.int (.ofNat n))])) ..
  refine oS (fun _=>XS.icmpYes X0.here hx rfl (pc0:=15) (pc':=55) rfl (dE hby D2 4 rfl) rfl (tlt (by show Int32.ofNat n < Int32.ofNat 1073741823; exact own_lt (by omega) (by omega))).1 (by decide) (by decide)) ?_
  refine oS (fun _=>XS.iloadN X0.here hx rfl (dE hby D2 5 rfl) rfl) ?_
  refine oS (fun _=>XS.iconst X0.here hx rfl (dE hby D2 6 rfl)) ?_
  refine oS (fun _=>XS.ishl X0.here hx rfl (dE hby D2 7 rfl) rfl) ?_
  show gH (T0.setTop (mkF m 58 #[vi (.ofNat n)] [(.int ((Int32.ofNat n)<<<((1:Int32)&&&31)))])) ..
  exact own_retI X0 hx hret hlk (dE hby D2 8 rfl) (by rw [e0]; exact ⟨by rw [own_shl1 (by omega)],N0,rfl⟩) (by decide) (by decide)
def L3 : List (Nat × Instr × Nat):=[(0,.iload_n 0,1),(1,.invokestatic 11,3),(4,.newarray .byte,2),(6,.areturn,1)]
theorem D3 : ∀ q∈L3,decode jdk_52_method_2_code q.1 = .ok q.2:=by decide +kernel
theorem own_pd1 : parseMethodDescriptor "(I)I" = some ⟨[.int],some .int⟩:=by decide +kernel
theorem own_nbf (l:Launch) (Z:State) (a0:Array Value) (hw:∀ d∈tables_1,d.before a0 Z = true) (ws:List Jvm.Cond)  (n:Nat) (h0:Heap) (O0:Old Z Z.heap.size h0) (hn:n≤16) :
    own_Met l Z (⟨"java/lang/StringUTF16","newBytesFor","(I)[B"⟩ : MethodName) jdk_52_method_2_code 1 (some (.array .byte)) ws (⟨1,1,32,12⟩ : Room) #[(.int (.ofNat n))] h0 (fun v h L=>∃ b kb,v = some (.ref b)∧Fr Z.heap.size L∧Keep h0 h []∧h0.size≤b∧b < h.size∧Arv Z h b kb .byte (Int32.ofNat (2 * n)) [] (.int 0)) 1 32:=by
  refine own_bodyA (ef:=fun m=>mkF m 0 #[.val (.int (Int32.ofNat n))] []) (plainFor_of_name own_pn0) ?_
  intro p e s m below meth c T0 hx hZ hby hml hown hnm hret hlk X0 e0
  have N0:=Fr.nil Z.heap.size
  have z0 : Z.heap.size≤h0.size:=O0.2.1
  have Kr:=Keep.refl h0 []
  show gH (T0.setTop (mkF m 0 #[vi (.ofNat n)] [])) ..
  refine oS (fun _=>XS.iloadN X0.here hx rfl (dE hby D3 0 rfl) rfl) ?_
  obtain ⟨_,T1,L1,X1,⟨rfl,N1q,eh1⟩,st1⟩:=own_cS X0 hx hZ hown (own_nbl l Z a0 hw [] n h0 O0 hn) (oW hw 156 rfl) (oW hw 157 rfl) (oW hw 145 rfl) (oW hw 158 rfl) (W:=0) (g:=(mkF m 1 #[vi (.ofNat n)] [(.int (.ofNat n))])) rfl (by rw [hml]; rfl) (argsL:=[(.int (.ofNat n))]) (rest:=[]) (lenOf own_pd1 rfl) rfl (dE hby D3 1 rfl) rfl e0 (by decide) (by decide)
  have N1:=Fr.app N0 N1q
  refine oS st1 ?_
  obtain ⟨T2,h2,k2,X2,e2,E2,A2,st2⟩:=newP X1 hx hZ (oW hw 3 rfl) eh1 (g:=(mkF m 4 #[vi (.ofNat n)] [(.int (.ofNat (2 * n)))])) rfl (dE hby D3 2 rfl) rfl (oN (by omega)) (cap:=32) (by rw [oC (by omega)]; omega) (by decide) (by decide) (by decide)
  obtain ⟨b2,g2⟩ : ∃ z,z = h0.size:=⟨_,rfl⟩
  rw [← g2] at A2 st2
  refine oS st2 ?_
  have z3:=E2.1
  have O4:=Old.ext O0 E2
  have K5:=Kr.ext E2
  have V2 : Arv Z h2 b2 k2 .byte (Int32.ofNat (2 * n)) [] (.int 0):=Arv.new A2 (oN (by omega))
  have lt2:=oL A2.lt
  show gH (T2.setTop (mkF m 6 #[vi (.ofNat n)] [(.ref b2)])) ..
  exact own_retA X2 hx hret rfl rfl hlk (dE hby D3 3 rfl) (by rw [e2]; exact ⟨b2,k2,rfl,N1,K5,by omega,by omega,V2⟩) (by decide) (by decide)
def L4 : List (Nat × Instr × Nat):=[(8,.iload 4,2),(10,.iload_n 2,1),(11,.if_icmp .ge 21,3),(14,.aload_n 3,1),(15,.iload 4,2),(17,.aload_n 0,1),(18,.iload_n 1,1),(19,.caload,1),(20,.invokestatic 111,3),(23,.iinc 1 1,3),(26,.iinc 4 1,3),(29,.goto (-21),3),(0,.iload_n 2,1),(1,.invokestatic 107,3),(4,.astore_n 3,1),(5,.iconst 0,1),(6,.istore 4,2),(32,.aload_n 3,1),(33,.areturn,1)]
theorem D4 : ∀ q∈L4,decode jdk_52_method_14_code q.1 = .ok q.2:=by decide +kernel
theorem own_pd2 : parseMethodDescriptor "([BII)V" = some ⟨[(.array .byte),.int,.int],none⟩:=by decide +kernel
theorem own_tb_turn {p:Program} {l:Launch} {e:Env} {s:State} {m:MethodId} {args:Array Value} {below:List Frame} {meth:Method} {c:Code} {Z:State} {a0:Array Value} {locs:List Loc} {cells slots : Nat} {T0:State} {h0:Heap} {F:State→Prop} (a1 b : Addr) (i n : Nat) (f:Nat→Int32) (kb kc : ClassId) (hx:p.tables.exec = Jvm.exec) (hZ:Z.Warmed39 s.vm) (hw:∀ d∈tables_1,d.before a0 Z = true) (hby:c.code = jdk_52_method_14_code) (hml:c.maxLocals = 5) (hown:s.vm.findClass "java/lang/StringUTF16" = some m.cls) (X0:Stand p l e (⟨2,1,32,24⟩ : Room) s m args below meth c T0 locs cells slots) (e0:T0.heap = h0) (N0:Fr Z.heap.size locs) (O0:Old Z Z.heap.size h0) (hi:i < n) (hn:n≤16) (gb:Z.heap.size≤b) (hne:a1 ≠ b) (US:own_US Z) (hc:cells+0≤(⟨2,1,32,24⟩ : Room).cells) (hs:slots+0≤(⟨2,1,32,24⟩ : Room).slots) (Vc:Arv Z h0 a1 kc .char (Int32.ofNat n) (oV f n) (.int 0)) (Vb:Arv Z h0 b kb .byte (Int32.ofNat (2 * n)) (oV (own_wide f) (2 * i)) (.int 0))
    (k:∀ (T':State) (h':Heap) (locs':List Loc),Stand p l e (⟨2,1,32,24⟩ : Room) s m args below meth c T' locs' cells slots→T'.heap = h'→Fr Z.heap.size locs'→Old Z Z.heap.size h'→Keep h0 h' [b]→Arv Z h' a1 kc .char (Int32.ofNat n) (oV f n) (.int 0)→Arv Z h' b kb .byte (Int32.ofNat (2 * n)) (oV (own_wide f) (2 * (i+1))) (.int 0)→own_G p.tables e below F (T'.setTop (mkF m 8 #[vr a1,vi (.ofNat (i+1)),vi (.ofNat n),vr b,vi (.ofNat (i+1))] []))) :
    own_G p.tables e below F (T0.setTop (mkF m 8 #[vr a1,vi (.ofNat (i)),vi (.ofNat n),vr b,vi (.ofNat (i))] [])):=by
  have z0 : Z.heap.size≤h0.size:=O0.2.1
  have Kr:=Keep.refl h0 [b]
  show gH (T0.setTop (mkF m 8 #[vr a1,vi (.ofNat (i)),vi (.ofNat n),vr b,vi (.ofNat (i))] [])) ..
  have ltc:=oL Vc.lt
  have ltb:=oL Vb.lt
  refine oS (fun _=>XS.iload X0.here hx rfl (dE hby D4 0 rfl) rfl) ?_
  refine oS (fun _=>XS.iloadN X0.here hx rfl (dE hby D4 1 rfl) rfl) ?_
  refine oS (fun _=>XS.icmpNo X0.here hx rfl (dE hby D4 2 rfl) rfl (tlt (own_lt hi (by omega))).2.1) ?_
  refine oS (fun _=>XS.aloadN X0.here hx rfl (dE hby D4 3 rfl) rfl rfl) ?_
  refine oS (fun _=>XS.iload X0.here hx rfl (dE hby D4 4 rfl) rfl) ?_
  refine oS (fun _=>XS.aloadN X0.here hx rfl (dE hby D4 5 rfl) rfl rfl) ?_
  refine oS (fun _=>XS.iloadN X0.here hx rfl (dE hby D4 6 rfl) rfl) ?_
  show gH (T0.setTop (mkF m 19 #[vr a1,vi (.ofNat (i)),vi (.ofNat n),vr b,vi (.ofNat (i))] [(.int (.ofNat (i))),(.ref a1),(.int (.ofNat (i))),(.ref b)])) ..
  obtain ⟨cl1,Ar1,qk1,Sz1,Mz1,Hz1,Uz1⟩:=id Vc
  refine oS (X0.caload hx (j:=(Int32.ofNat (i))) (v:=(.int (f i))) (by rw [e0]; exact Ar1.1) (State.isArrayOf_alike hZ.alike Ar1.2.1) Ar1.2.2 (oI Sz1 hi (by omega)) (own_get Sz1 Hz1 hi (by omega)) (g:=(mkF m 19 #[vr a1,vi (.ofNat (i)),vi (.ofNat n),vr b,vi (.ofNat (i))] [(.int (.ofNat (i))),(.ref a1),(.int (.ofNat (i))),(.ref b)])) rfl rfl (dE hby D4 7 rfl)) ?_
  obtain ⟨_,T2,L2,X2,⟨rfl,N2q,K2_,V2⟩,st2⟩:=own_cS X0 hx hZ hown (own_putChar l Z a0 hw [] b i n f kb h0 O0 hi hn gb US Vb) (oW hw 160 rfl) (oW hw 161 rfl) (oW hw 145 rfl) (oW hw 162 rfl) (W:=0) (g:=(mkF m 20 #[vr a1,vi (.ofNat (i)),vi (.ofNat n),vr b,vi (.ofNat (i))] [(.int (f i)),(.int (.ofNat (i))),(.ref b)])) rfl (by rw [hml]; rfl) (argsL:=[(.ref b),(.int (.ofNat (i))),(.int (f i))]) (rest:=[]) (lenOf own_pd2 rfl) rfl (dE hby D4 8 rfl) rfl e0 hc hs
  have N2:=Fr.app N0 N2q
  refine oS st2 ?_
  have z3:=K2_.1
  have O4:=Old.keep O0 K2_ (allS (by omega) all0)
  have K5:=Kr.trans K2_ (allS (Or.inl (by simp)) all0)
  show gH (T2.setTop (mkF m 23 #[vr a1,vi (.ofNat (i)),vi (.ofNat n),vr b,vi (.ofNat (i))] [])) ..
  refine oS (fun _=>XS.iinc X2.here hx rfl (dE hby D4 9 rfl) rfl (l':=#[vr a1,vi ((Int32.ofNat (i))+(1:Int32)),vi (.ofNat n),vr b,vi (.ofNat (i))]) rfl) ?_
  refine oS (fun _=>XS.iinc X2.here hx rfl (dE hby D4 10 rfl) rfl (l':=#[vr a1,vi ((Int32.ofNat (i))+(1:Int32)),vi (.ofNat n),vr b,vi ((Int32.ofNat (i))+(1:Int32))]) rfl) ?_
  refine oS (fun _=>XS.goto X2.here hx rfl (pc0:=29) (pc':=8) rfl (dE hby D4 11 rfl) (by decide) (by decide)) ?_
  show gH (T2.setTop (mkF m 8 #[vr a1,vi ((Int32.ofNat (i))+(1:Int32)),vi (.ofNat n),vr b,vi ((Int32.ofNat (i))+(1:Int32))] [])) ..
  rw [oO]
  show gH (T2.setTop (mkF m 8 #[vr a1,vi (.ofNat (i+1)),vi (.ofNat n),vr b,vi (.ofNat (i+1))] [])) ..
  have q6:=(Vc.keep K2_ (ninS (show @Ne Nat a1 b by omega) nin0))
  exact k _ _ _ X2 rfl N2 O4 K5 q6 V2
theorem own_tb_exit {p:Program} {l:Launch} {e:Env} {s:State} {m:MethodId} {args:Array Value} {below:List Frame} {meth:Method} {c:Code} {Z:State} {a0:Array Value} {locs:List Loc} {cells slots : Nat} {T0:State} {h0:Heap} {F:State→Prop} (a1 b : Addr) (n:Nat) (hx:p.tables.exec = Jvm.exec) (hZ:Z.Warmed39 s.vm) (hw:∀ d∈tables_1,d.before a0 Z = true) (hby:c.code = jdk_52_method_14_code) (hml:c.maxLocals = 5) (hown:s.vm.findClass "java/lang/StringUTF16" = some m.cls) (X0:Stand p l e (⟨2,1,32,24⟩ : Room) s m args below meth c T0 locs cells slots) (e0:T0.heap = h0) (N0:Fr Z.heap.size locs) (O0:Old Z Z.heap.size h0) 
    (k:own_G p.tables e below F (T0.setTop (mkF m 32 #[vr a1,vi (.ofNat (n)),vi (.ofNat n),vr b,vi (.ofNat (n))] []))) :
    own_G p.tables e below F (T0.setTop (mkF m 8 #[vr a1,vi (.ofNat (n)),vi (.ofNat n),vr b,vi (.ofNat (n))] [])):=by
  show gH (T0.setTop (mkF m 8 #[vr a1,vi (.ofNat (n)),vi (.ofNat n),vr b,vi (.ofNat (n))] [])) ..
  refine oS (fun _=>XS.iload X0.here hx rfl (dE hby D4 0 rfl) rfl) ?_
  refine oS (fun _=>XS.iloadN X0.here hx rfl (dE hby D4 1 rfl) rfl) ?_
  refine oS (fun _=>XS.icmpYes X0.here hx rfl (pc0:=11) (pc':=32) rfl (dE hby D4 2 rfl) rfl (flt Int32.lt_irrefl).2.1 (by decide) (by decide)) ?_
  show gH (T0.setTop (mkF m 32 #[vr a1,vi (.ofNat (n)),vi (.ofNat n),vr b,vi (.ofNat (n))] [])) ..
  exact k
theorem own_tb_loop {p:Program} {l:Launch} {e:Env} {s:State} {m:MethodId} {args:Array Value} {below:List Frame} {meth:Method} {c:Code} {Z:State} {a0:Array Value} {cells slots : Nat} {F:State→Prop} {h0:Heap} (a1 b : Addr) (n:Nat) (f:Nat→Int32) (kb kc : ClassId) (hx:p.tables.exec = Jvm.exec) (hZ:Z.Warmed39 s.vm) (hw:∀ d∈tables_1,d.before a0 Z = true) (hby:c.code = jdk_52_method_14_code) (hml:c.maxLocals = 5) (hown:s.vm.findClass "java/lang/StringUTF16" = some m.cls) (hn:n≤16) (gb:Z.heap.size≤b) (hne:a1 ≠ b) (US:own_US Z) (hc:cells+0≤(⟨2,1,32,24⟩ : Room).cells) (hs:slots+0≤(⟨2,1,32,24⟩ : Room).slots)
    (k:∀ (T':State) (h':Heap) (locs':List Loc),Stand p l e (⟨2,1,32,24⟩ : Room) s m args below meth c T' locs' cells slots→T'.heap = h'→Fr Z.heap.size locs'→Old Z Z.heap.size h'→Keep h0 h' [b]→Arv Z h' a1 kc .char (Int32.ofNat n) (oV f n) (.int 0)→Arv Z h' b kb .byte (Int32.ofNat (2 * n)) (oV (own_wide f) (2 * (n))) (.int 0)→own_G p.tables e below F (T'.setTop (mkF m 32 #[vr a1,vi (.ofNat (n)),vi (.ofNat n),vr b,vi (.ofNat (n))] []))) :
    ∀ (r i : Nat) (T':State) (h':Heap) (locs':List Loc),i+r = n→Stand p l e (⟨2,1,32,24⟩ : Room) s m args below meth c T' locs' cells slots→T'.heap = h'→Fr Z.heap.size locs'→Old Z Z.heap.size h'→Keep h0 h' [b]→Arv Z h' a1 kc .char (Int32.ofNat n) (oV f n) (.int 0)→Arv Z h' b kb .byte (Int32.ofNat (2 * n)) (oV (own_wide f) (2 * (i))) (.int 0)→own_G p.tables e below F (T'.setTop (mkF m 8 #[vr a1,vi (.ofNat (i)),vi (.ofNat n),vr b,vi (.ofNat (i))] [])):=by
  intro r
  induction r with
  | zero =>
    intro i T' h' locs' hi X e1 N O K Vc Vb
    have hi' : i = n:=by omega
    subst hi'
    exact own_tb_exit a1 b i hx hZ hw hby hml hown X e1 N O (k T' h' locs' X e1 N O K Vc Vb)
  | succ r ih =>
    intro i T' h' locs' hi X e1 N O K Vc Vb
    exact own_tb_turn a1 b i n f kb kc hx hZ hw hby hml hown X e1 N O (by omega) hn gb hne US hc hs Vc Vb fun T2 h2 L2 X2 e2 N2 O2 K2 Vc2 Vb2=>ih (i+1) T2 h2 L2 (by omega) X2 e2 N2 O2 (K.trans K2 (allS (Or.inl (by simp)) all0)) Vc2 Vb2
theorem own_pd3 : parseMethodDescriptor "(I)[B" = some ⟨[.int],some (.array .byte)⟩:=by decide +kernel
theorem own_toBytes (l:Launch) (Z:State) (a0:Array Value) (hw:∀ d∈tables_1,d.before a0 Z = true) (ws:List Jvm.Cond) (a1:Addr) (n:Nat) (f:Nat→Int32) (kc:ClassId) (h0:Heap) (O0:Old Z Z.heap.size h0) (hn:n≤16) (US:own_US Z) (Vc:Arv Z h0 a1 kc .char (Int32.ofNat n) (oV f n) (.int 0)) :
    own_Met l Z (⟨"java/lang/StringUTF16","toBytes","([CII)[B"⟩ : MethodName) jdk_52_method_14_code 5 (some (.array .byte)) ws (⟨2,1,32,24⟩ : Room) #[(.ref a1),(.int (.ofNat 0)),(.int (.ofNat n))] h0 (fun v h L=>∃ b kb,v = some (.ref b)∧Fr Z.heap.size L∧Keep h0 h []∧h0.size≤b∧b < h.size∧Arv Z h b kb .byte (Int32.ofNat (2 * n)) (oV (own_wide f) (2 * n)) (.int 0)) 1 32:=by
  refine own_bodyA (ef:=fun m=>mkF m 0 #[.val (.ref a1),.val (.int (Int32.ofNat 0)),.val (.int (Int32.ofNat n)),.unset,.unset] []) (plainFor_of_name own_pn0) ?_
  intro p e s m below meth c T0 hx hZ hby hml hown hnm hret hlk X0 e0
  have N0:=Fr.nil Z.heap.size
  have z0 : Z.heap.size≤h0.size:=O0.2.1
  have Kr:=Keep.refl h0 []
  show gH (T0.setTop (mkF m 0 #[vr a1,vi (.ofNat 0),vi (.ofNat n),.unset,.unset] [])) ..
  have ltc:=oL Vc.lt
  refine oS (fun _=>XS.iloadN X0.here hx rfl (dE hby D4 12 rfl) rfl) ?_
  obtain ⟨_,T1,L1,X1,⟨b,kb,rfl,N1q,K1_,gb,ltb,V1⟩,st1⟩:=own_cS X0 hx hZ hown (own_nbf l Z a0 hw [] n h0 O0 hn) (oW hw 153 rfl) (oW hw 154 rfl) (oW hw 145 rfl) (oW hw 155 rfl) (W:=0) (g:=(mkF m 1 #[vr a1,vi (.ofNat 0),vi (.ofNat n),.unset,.unset] [(.int (.ofNat n))])) rfl (by rw [hml]; rfl) (argsL:=[(.int (.ofNat n))]) (rest:=[]) (lenOf own_pd3 rfl) rfl (dE hby D4 13 rfl) rfl e0 (by decide) (by decide)
  have N1:=Fr.app N0 N1q
  refine oS st1 ?_
  have z2:=K1_.1
  have O3:=Old.keep O0 K1_ all0
  have K4:=Kr.trans K1_ all0
  show gH (T1.setTop (mkF m 4 #[vr a1,vi (.ofNat 0),vi (.ofNat n),.unset,.unset] [(.ref b)])) ..
  refine oS (fun _=>XS.astoreN X1.here hx rfl (dE hby D4 14 rfl) rfl rfl (l':=#[vr a1,vi (.ofNat 0),vi (.ofNat n),vr b,.unset]) rfl) ?_
  refine oS (fun _=>XS.iconst X1.here hx rfl (dE hby D4 15 rfl)) ?_
  refine oS (fun _=>XS.istore X1.here hx rfl (dE hby D4 16 rfl) rfl (l':=#[vr a1,vi (.ofNat 0),vi (.ofNat n),vr b,vi 0]) rfl) ?_
  show gH (T1.setTop (mkF m 8 #[vr a1,vi (.ofNat 0),vi (.ofNat n),vr b,vi 0] [])) ..
  have q5:=(Vc.keep K1_ nin0)
  refine own_tb_loop a1 b n f kb kc hx hZ hw hby hml hown hn (by omega) (show @Ne Nat a1 b by omega) US (by decide) (by decide) ?_ n 0 _ _ _ (by omega) X1 rfl N1 O3 (Keep.refl _ _) q5 V1
  intro T' h' locs' X' e' N' O' K' Vc' Vb'
  have z6:=K'.1
  have O7:=Old.keep O3 K' (allS (by omega) all0)
  have K8:=K4.trans K' (allS (Or.inr (by omega)) all0)
  show gH (T'.setTop (mkF m 32 #[vr a1,vi (.ofNat (n)),vi (.ofNat n),vr b,vi (.ofNat (n))] [])) ..
  refine oS (fun _=>XS.aloadN X'.here hx rfl (dE hby D4 17 rfl) rfl rfl) ?_
  show gH (T'.setTop (mkF m 33 #[vr a1,vi (.ofNat (n)),vi (.ofNat n),vr b,vi (.ofNat (n))] [(.ref b)])) ..
  exact own_retA X' hx hret rfl rfl hlk (dE hby D4 18 rfl) (by rw [e']; exact ⟨b,kb,rfl,N',K8,gb,Vb'.lt,Vb'⟩) (by decide) (by decide)
def own_QC (Z:State) (hs:Heap) (b:Addr) (kb:ClassId) (f:Nat→Int32) (n:Nat) : Option Value→Heap→List Loc→Prop:=fun v h L=>∃ r : Nat,v = some (.int (.ofNat r))∧Fr Z.heap.size L∧Keep hs h [b]∧((r = n∧(∀ j,j < n→¬ (255:Int32) < f j)∧Arv Z h b kb .byte (Int32.ofNat n) (oV (fun j=>own_lo (f j)) n) (.int 0)) ∨ (r < n∧(255:Int32) < f r))
def L5 : List (Nat × Instr × Nat):=[(3,.iload 5,2),(5,.iload 4,2),(7,.if_icmp .ge 37,3),(10,.aload_n 0,1),(11,.iload_n 1,1),(12,.caload,1),(13,.istore 6,2),(15,.iload 6,2),(17,.sipush 255,3),(20,.if_icmp .le 6,3),(23,.iload 5,2),(25,.ireturn,1),(26,.aload_n 2,1),(27,.iload_n 3,1),(28,.iload 6,2),(30,.i2b,1),(31,.bastore,1),(32,.iinc 1 1,3),(35,.iinc 3 1,3),(38,.iinc 5 1,3),(41,.goto (-38),3),(44,.iload 4,2),(46,.ireturn,1),(0,.iconst 0,1),(1,.istore 5,2)]
theorem D5 : ∀ q∈L5,decode jdk_52_method_21_code q.1 = .ok q.2:=by decide +kernel
theorem own_c5_turn {p:Program} {l:Launch} {e:Env} {s:State} {m:MethodId} {args:Array Value} {below:List Frame} {meth:Method} {c:Code} {Z:State} {a0:Array Value} {locs:List Loc} {cells slots : Nat} {T0:State} {h0:Heap}  {hs:Heap} (a1 b : Addr) (i n : Nat) (f:Nat→Int32) (kb kc : ClassId) (s6:Slot) (hx:p.tables.exec = Jvm.exec) (hZ:Z.Warmed39 s.vm) (hw:∀ d∈tables_1,d.before a0 Z = true) (hby:c.code = jdk_52_method_21_code) (hml:c.maxLocals = 7) (hown:s.vm.findClass "java/lang/StringUTF16" = some m.cls) (X0:Stand p l e (⟨0,0,0,0⟩ : Room) s m args below meth c T0 locs cells slots) (e0:T0.heap = h0) (N0:Fr Z.heap.size locs) (O0:Old Z Z.heap.size h0) (hret:meth.sig.returnType = some .int) (hlk:meth.locks = false) (hcs:cells≤0) (hss:slots≤0) (hs6:One s6) (hi:i < n) (hn:n≤16) (gb:Z.heap.size≤b) (hne:a1 ≠ b) (Ks:Keep hs h0 [b]) (hall:∀ j,j < i→¬ (255:Int32) < f j) (Vc:Arv Z h0 a1 kc .char (Int32.ofNat n) (oV f n) (.int 0)) (Vb:Arv Z h0 b kb .byte (Int32.ofNat n) (oV (fun j=>own_lo (f j)) i) (.int 0))
    (k:∀ (s6:Slot) (T':State) (h':Heap) (locs':List Loc),Stand p l e (⟨0,0,0,0⟩ : Room) s m args below meth c T' locs' cells slots→T'.heap = h'→Fr Z.heap.size locs'→Old Z Z.heap.size h'→One s6→Keep hs h' [b]→(∀ j,j < i+1→¬ (255:Int32) < f j)→Arv Z h' a1 kc .char (Int32.ofNat n) (oV f n) (.int 0)→Arv Z h' b kb .byte (Int32.ofNat n) (oV (fun j=>own_lo (f j)) (i+1)) (.int 0)→own_G p.tables e below (own_F s below (own_QC Z hs b kb f n) 0 0) (T'.setTop (mkF m 3 #[vr a1,vi (.ofNat (i+1)),vr b,vi (.ofNat (i+1)),vi (.ofNat n),vi (.ofNat (i+1)),s6] []))) :
    own_G p.tables e below (own_F s below (own_QC Z hs b kb f n) 0 0) (T0.setTop (mkF m 3 #[vr a1,vi (.ofNat (i)),vr b,vi (.ofNat (i)),vi (.ofNat n),vi (.ofNat (i)),s6] [])):=by
  have z0 : Z.heap.size≤h0.size:=O0.2.1
  have Kr:=Keep.refl h0 [b]
  show gH (T0.setTop (mkF m 3 #[vr a1,vi (.ofNat (i)),vr b,vi (.ofNat (i)),vi (.ofNat n),vi (.ofNat (i)),s6] [])) ..
  have ltc:=oL Vc.lt
  have ltb:=oL Vb.lt
  refine oS (fun _=>XS.iload X0.here hx rfl (dE hby D5 0 rfl) rfl) ?_
  refine oS (fun _=>XS.iload X0.here hx rfl (dE hby D5 1 rfl) rfl) ?_
  refine oS (fun _=>XS.icmpNo X0.here hx rfl (dE hby D5 2 rfl) rfl (tlt (own_lt hi (by omega))).2.1) ?_
  refine oS (fun _=>XS.aloadN X0.here hx rfl (dE hby D5 3 rfl) rfl rfl) ?_
  refine oS (fun _=>XS.iloadN X0.here hx rfl (dE hby D5 4 rfl) rfl) ?_
  show gH (T0.setTop (mkF m 12 #[vr a1,vi (.ofNat (i)),vr b,vi (.ofNat (i)),vi (.ofNat n),vi (.ofNat (i)),s6] [(.int (.ofNat (i))),(.ref a1)])) ..
  obtain ⟨cl1,Ar1,qk1,Sz1,Mz1,Hz1,Uz1⟩:=id Vc
  refine oS (X0.caload hx (j:=(Int32.ofNat (i))) (v:=(.int (f i))) (by rw [e0]; exact Ar1.1) (State.isArrayOf_alike hZ.alike Ar1.2.1) Ar1.2.2 (oI Sz1 hi (by omega)) (own_get Sz1 Hz1 hi (by omega)) (g:=(mkF m 12 #[vr a1,vi (.ofNat (i)),vr b,vi (.ofNat (i)),vi (.ofNat n),vi (.ofNat (i)),s6] [(.int (.ofNat (i))),(.ref a1)])) rfl rfl (dE hby D5 5 rfl)) ?_
  show gH (T0.setTop (mkF m 13 #[vr a1,vi (.ofNat (i)),vr b,vi (.ofNat (i)),vi (.ofNat n),vi (.ofNat (i)),s6] [(.int (f i))])) ..
  refine oS (fun _=>XS.istoreS X0.here hx rfl (dE hby D5 6 rfl) rfl rfl hs6) ?_
  refine oS (fun _=>XS.iload X0.here hx rfl (dE hby D5 7 rfl) rfl) ?_
  refine oS (fun _=>XS.sipush X0.here hx rfl (dE hby D5 8 rfl)) ?_
  show gH (T0.setTop (mkF m 20 #[vr a1,vi (.ofNat (i)),vr b,vi (.ofNat (i)),vi (.ofNat n),vi (.ofNat (i)),vi (f i)] [(.int 255),(.int (f i))])) ..
  by_cases hbig : (255:Int32) < (f i)
  · skip
    refine oS (fun _=>XS.icmpNo X0.here hx rfl (dE hby D5 9 rfl) rfl (tlt hbig).2.2.2) ?_
    refine oS (fun _=>XS.iload X0.here hx rfl (dE hby D5 10 rfl) rfl) ?_
    show gH (T0.setTop (mkF m 25 #[vr a1,vi (.ofNat (i)),vr b,vi (.ofNat (i)),vi (.ofNat n),vi (.ofNat (i)),vi (f i)] [(.int (.ofNat (i)))])) ..
    exact own_retI X0 hx hret hlk (dE hby D5 11 rfl) (by rw [e0]; exact ⟨i,rfl,N0,Ks,Or.inr ⟨hi,hbig⟩⟩) hcs hss
  · show gH (T0.setTop (mkF m 20 #[vr a1,vi (.ofNat (i)),vr b,vi (.ofNat (i)),vi (.ofNat n),vi (.ofNat (i)),vi (f i)] [(.int 255),(.int (f i))])) ..
    refine oS (fun _=>XS.icmpYes X0.here hx rfl (pc0:=20) (pc':=26) rfl (dE hby D5 9 rfl) rfl (flt hbig).2.2.2 (by decide) (by decide)) ?_
    refine oS (fun _=>XS.aloadN X0.here hx rfl (dE hby D5 12 rfl) rfl rfl) ?_
    refine oS (fun _=>XS.iloadN X0.here hx rfl (dE hby D5 13 rfl) rfl) ?_
    refine oS (fun _=>XS.iload X0.here hx rfl (dE hby D5 14 rfl) rfl) ?_
    refine oS (fun _=>XS.i2b X0.here hx rfl (dE hby D5 15 rfl) rfl) ?_
    have V2p : Arv Z h0 b kb .byte (Int32.ofNat n) ((oV (fun j=>own_lo (f j)) i)++[(.int 0)]) (.int 0):=Vb.pad (pad_rep (oV (fun j=>own_lo (f j)) i) (.int 0) 1)
    obtain ⟨cl3,Ar3,qk3,Sz3,Mz3,Hz3,Uz3⟩:=id V2p
    obtain ⟨T4,h4,X4,e4,W4,st4⟩:=stB X0 hx hZ e0 Ar3 (j:=(Int32.ofNat (i))) (oI Sz3 hi (by omega)) (g:=(mkF m 31 #[vr a1,vi (.ofNat (i)),vr b,vi (.ofNat (i)),vi (.ofNat n),vi (.ofNat (i)),vi (f i)] [(.int ((f i).toInt8.toInt32)),(.int (.ofNat (i))),(.ref b)])) rfl rfl (dE hby D5 16 rfl)
    refine oS st4 ?_
    have V4:=Arv.set Ar3 qk3 Sz3 Mz3 Hz3 Uz3 (fits_nar_byte _) W4 (oV (fun j=>own_lo (f j)) i).length (by rw [oC (by omega),own_len]) (by simp)
    have z5:=W4.size
    have O6:=Old.wr O0 W4 (by omega)
    have K7:=Kr.wr W4 (Or.inl (by simp))
    have N4:=Fr.snoc X4 N0 (by omega : Z.heap.size≤b)
    have V4' : Arv Z h4 b kb .byte (Int32.ofNat n) (oV (fun j=>own_lo (f j)) (i+1)) (.int 0):=by have q:=V4; rw [own_set] at q; rw [← own_next]; exact q
    show gH (T4.setTop (mkF m 32 #[vr a1,vi (.ofNat (i)),vr b,vi (.ofNat (i)),vi (.ofNat n),vi (.ofNat (i)),vi (f i)] [])) ..
    refine oS (fun _=>XS.iinc X4.here hx rfl (dE hby D5 17 rfl) rfl (l':=#[vr a1,vi ((Int32.ofNat (i))+(1:Int32)),vr b,vi (.ofNat (i)),vi (.ofNat n),vi (.ofNat (i)),vi (f i)]) rfl) ?_
    refine oS (fun _=>XS.iinc X4.here hx rfl (dE hby D5 18 rfl) rfl (l':=#[vr a1,vi ((Int32.ofNat (i))+(1:Int32)),vr b,vi ((Int32.ofNat (i))+(1:Int32)),vi (.ofNat n),vi (.ofNat (i)),vi (f i)]) rfl) ?_
    refine oS (fun _=>XS.iinc X4.here hx rfl (dE hby D5 19 rfl) rfl (l':=#[vr a1,vi ((Int32.ofNat (i))+(1:Int32)),vr b,vi ((Int32.ofNat (i))+(1:Int32)),vi (.ofNat n),vi ((Int32.ofNat (i))+(1:Int32)),vi (f i)]) rfl) ?_
    refine oS (fun _=>XS.goto X4.here hx rfl (pc0:=41) (pc':=3) rfl (dE hby D5 20 rfl) (by decide) (by decide)) ?_
    show gH (T4.setTop (mkF m 3 #[vr a1,vi ((Int32.ofNat (i))+(1:Int32)),vr b,vi ((Int32.ofNat (i))+(1:Int32)),vi (.ofNat n),vi ((Int32.ofNat (i))+(1:Int32)),vi (f i)] [])) ..
    rw [oO]
    show gH (T4.setTop (mkF m 3 #[vr a1,vi (.ofNat (i+1)),vr b,vi (.ofNat (i+1)),vi (.ofNat n),vi (.ofNat (i+1)),vi (f i)] [])) ..
    have q8:=(Vc.other W4 (show @Ne Nat a1 b by omega))
    exact k _ _ _ _ X4 e4 N4 O6 (One.val rfl) (Ks.trans K7 (allS (Or.inl (by simp)) all0)) (fun j hj=>by rcases Nat.lt_or_ge j i with q | q; exact hall j q; rw [show j = i by omega]; exact hbig) q8 V4'
theorem own_c5_exit {p:Program} {l:Launch} {e:Env} {s:State} {m:MethodId} {args:Array Value} {below:List Frame} {meth:Method} {c:Code} {Z:State} {a0:Array Value} {locs:List Loc} {cells slots : Nat} {T0:State} {h0:Heap}  {hs:Heap} (a1 b : Addr) (n:Nat) (f:Nat→Int32) (kb:ClassId) (s6:Slot) (hx:p.tables.exec = Jvm.exec) (hZ:Z.Warmed39 s.vm) (hw:∀ d∈tables_1,d.before a0 Z = true) (hby:c.code = jdk_52_method_21_code) (hml:c.maxLocals = 7) (hown:s.vm.findClass "java/lang/StringUTF16" = some m.cls) (X0:Stand p l e (⟨0,0,0,0⟩ : Room) s m args below meth c T0 locs cells slots) (e0:T0.heap = h0) (N0:Fr Z.heap.size locs) (O0:Old Z Z.heap.size h0) (hret:meth.sig.returnType = some .int) (hlk:meth.locks = false) (hcs:cells≤0) (hss:slots≤0) (Ks:Keep hs h0 [b]) (hall:∀ j,j < n→¬ (255:Int32) < f j) (Vb:Arv Z h0 b kb .byte (Int32.ofNat n) (oV (fun j=>own_lo (f j)) n) (.int 0))
     :
    own_G p.tables e below (own_F s below (own_QC Z hs b kb f n) 0 0) (T0.setTop (mkF m 3 #[vr a1,vi (.ofNat (n)),vr b,vi (.ofNat (n)),vi (.ofNat n),vi (.ofNat (n)),s6] [])):=by
  show gH (T0.setTop (mkF m 3 #[vr a1,vi (.ofNat (n)),vr b,vi (.ofNat (n)),vi (.ofNat n),vi (.ofNat (n)),s6] [])) ..
  refine oS (fun _=>XS.iload X0.here hx rfl (dE hby D5 0 rfl) rfl) ?_
  refine oS (fun _=>XS.iload X0.here hx rfl (dE hby D5 1 rfl) rfl) ?_
  refine oS (fun _=>XS.icmpYes X0.here hx rfl (pc0:=7) (pc':=44) rfl (dE hby D5 2 rfl) rfl (flt Int32.lt_irrefl).2.1 (by decide) (by decide)) ?_
  refine oS (fun _=>XS.iload X0.here hx rfl (dE hby D5 21 rfl) rfl) ?_
  show gH (T0.setTop (mkF m 46 #[vr a1,vi (.ofNat (n)),vr b,vi (.ofNat (n)),vi (.ofNat n),vi (.ofNat (n)),s6] [(.int (.ofNat n))])) ..
  exact own_retI X0 hx hret hlk (dE hby D5 22 rfl) (by rw [e0]; exact ⟨n,rfl,N0,Ks,Or.inl ⟨rfl,hall,Vb⟩⟩) hcs hss
theorem own_c5_loop {p:Program} {l:Launch} {e:Env} {s:State} {m:MethodId} {args:Array Value} {below:List Frame} {meth:Method} {c:Code} {Z:State} {a0:Array Value} {cells slots : Nat} {hs:Heap} (a1 b : Addr) (n:Nat) (f:Nat→Int32) (kb kc : ClassId) (hx:p.tables.exec = Jvm.exec) (hZ:Z.Warmed39 s.vm) (hw:∀ d∈tables_1,d.before a0 Z = true) (hby:c.code = jdk_52_method_21_code) (hml:c.maxLocals = 7) (hown:s.vm.findClass "java/lang/StringUTF16" = some m.cls) (hret:meth.sig.returnType = some .int) (hlk:meth.locks = false) (hcs:cells≤0) (hss:slots≤0) (hn:n≤16) (gb:Z.heap.size≤b) (hne:a1 ≠ b) :
    ∀ (r i : Nat) (s6:Slot) (T':State) (h':Heap) (locs':List Loc),i+r = n→Stand p l e (⟨0,0,0,0⟩ : Room) s m args below meth c T' locs' cells slots→T'.heap = h'→Fr Z.heap.size locs'→Old Z Z.heap.size h'→One s6→Keep hs h' [b]→(∀ j,j < i→¬ (255:Int32) < f j)→Arv Z h' a1 kc .char (Int32.ofNat n) (oV f n) (.int 0)→Arv Z h' b kb .byte (Int32.ofNat n) (oV (fun j=>own_lo (f j)) (i)) (.int 0)→own_G p.tables e below (own_F s below (own_QC Z hs b kb f n) 0 0) (T'.setTop (mkF m 3 #[vr a1,vi (.ofNat (i)),vr b,vi (.ofNat (i)),vi (.ofNat n),vi (.ofNat (i)),s6] [])):=by
  intro r
  induction r with
  | zero =>
    intro i s6 T' h' locs' hi X e1 N O h6 K ha Vc Vb
    have hi' : i = n:=by omega
    subst hi'
    exact own_c5_exit a1 b i f kb s6 hx hZ hw hby hml hown X e1 N O hret hlk hcs hss K ha Vb
  | succ r ih =>
    intro i s6 T' h' locs' hi X e1 N O h6 K ha Vc Vb
    exact own_c5_turn a1 b i n f kb kc s6 hx hZ hw hby hml hown X e1 N O hret hlk hcs hss h6 (by omega) hn gb hne K ha Vc Vb fun s7 T2 h2 L2 X2 e2 N2 O2 h62 K2 ha2 Vc2 Vb2=>ih (i+1) s7 T2 h2 L2 (by omega) X2 e2 N2 O2 h62 K2 ha2 Vc2 Vb2
theorem own_c5 (l:Launch) (Z:State) (a0:Array Value) (hw:∀ d∈tables_1,d.before a0 Z = true) (ws:List Jvm.Cond) (a1:Addr) (b:Addr) (n:Nat) (f:Nat→Int32) (kb kc : ClassId) (h0:Heap) (O0:Old Z Z.heap.size h0) (hn:n≤16) (gb:Z.heap.size≤b) (hne:a1 ≠ b) (Vc:Arv Z h0 a1 kc .char (Int32.ofNat n) (oV f n) (.int 0)) (Vb:Arv Z h0 b kb .byte (Int32.ofNat n) [] (.int 0)) :
    own_Met l Z (⟨"java/lang/StringUTF16","compress","([CI[BII)I"⟩ : MethodName) jdk_52_method_21_code 7 (some .int) ws (⟨0,0,0,0⟩ : Room) #[(.ref a1),(.int (.ofNat 0)),(.ref b),(.int (.ofNat 0)),(.int (.ofNat n))] h0 (own_QC Z h0 b kb f n) 0 0:=by
  refine own_bodyA (ef:=fun m=>mkF m 0 #[.val (.ref a1),.val (.int (Int32.ofNat 0)),.val (.ref b),.val (.int (Int32.ofNat 0)),.val (.int (Int32.ofNat n)),.unset,.unset] []) (plainFor_of_name own_pn0) ?_
  intro p e s m below meth c T0 hx hZ hby hml hown hnm hret hlk X0 e0
  have N0:=Fr.nil Z.heap.size
  have z0 : Z.heap.size≤h0.size:=O0.2.1
  show gH (T0.setTop (mkF m 0 #[vr a1,vi (.ofNat 0),vr b,vi (.ofNat 0),vi (.ofNat n),.unset,.unset] [])) ..
  refine oS (fun _=>XS.iconst X0.here hx rfl (dE hby D5 23 rfl)) ?_
  refine oS (fun _=>XS.istore X0.here hx rfl (dE hby D5 24 rfl) rfl (l':=#[vr a1,vi (.ofNat 0),vr b,vi (.ofNat 0),vi (.ofNat n),vi 0,.unset]) rfl) ?_
  show gH (T0.setTop (mkF m 3 #[vr a1,vi (.ofNat 0),vr b,vi (.ofNat 0),vi (.ofNat n),vi 0,.unset] [])) ..
  exact own_c5_loop a1 b n f kb kc hx hZ hw hby hml hown hret hlk (Nat.le_refl _) (Nat.le_refl _) hn gb hne n 0 .unset _ _ _ (by omega) X0 e0 N0 O0 One.u (Keep.refl _ _) (fun j hj=>absurd hj (Nat.not_lt_zero j)) Vc Vb
def L6 : List (Nat × Instr × Nat):=[(0,.iload_n 1,1),(1,.aload_n 0,1),(2,.arraylength,1),(3,.isub,1),(4,.bipush 31,2),(6,.iushr,1),(7,.i2b,1),(8,.ireturn,1)]
theorem D6 : ∀ q∈L6,decode jdk_52_method_15_code q.1 = .ok q.2:=by decide +kernel
theorem own_cod (l:Launch) (Z:State) (a0:Array Value) (hw:∀ d∈tables_1,d.before a0 Z = true) (ws:List Jvm.Cond) (a1:Addr) (n:Nat) (N cd : Int32) (vs:List Value) (kb:ClassId) (h0:Heap) (O0:Old Z Z.heap.size h0) (V1:Arv Z h0 a1 kb .byte N vs (.int 0)) (hcd:nar .byte (((((Int32.ofNat n) - N).toUInt32>>>((31:Int32)&&&31).toUInt32).toInt32).toInt8.toInt32) = cd) :
    own_Met l Z (⟨"java/lang/StringUTF16","coderFromArrayLen","([BI)B"⟩ : MethodName) jdk_52_method_15_code 2 (some .byte) ws (⟨0,0,0,0⟩ : Room) #[(.ref a1),(.int (.ofNat n))] h0 (fun v h L=>v = some (.int cd)∧Fr Z.heap.size L∧h = h0) 0 0:=by
  refine own_bodyA (ef:=fun m=>mkF m 0 #[.val (.ref a1),.val (.int (Int32.ofNat n))] []) (plainFor_of_name own_pn0) ?_
  intro p e s m below meth c T0 hx hZ hby hml hown hnm hret hlk X0 e0
  have N0:=Fr.nil Z.heap.size
  show gH (T0.setTop (mkF m 0 #[vr a1,vi (.ofNat n)] [])) ..
  refine oS (fun _=>XS.iloadN X0.here hx rfl (dE hby D6 0 rfl) rfl) ?_
  refine oS (fun _=>XS.aloadN X0.here hx rfl (dE hby D6 1 rfl) rfl rfl) ?_
  show gH (T0.setTop (mkF m 2 #[vr a1,vi (.ofNat n)] [(.ref a1),(.int (.ofNat n))])) ..
  obtain ⟨cl1,Ar1,qk1,Sz1,Mz1,Hz1,Uz1⟩:=id V1
  refine oS (X0.arraylength hx (by rw [e0]; exact Ar1.1) (State.isArrayOf_alike hZ.alike Ar1.2.1) (g:=(mkF m 2 #[vr a1,vi (.ofNat n)] [(.ref a1),(.int (.ofNat n))])) rfl rfl (dE hby D6 2 rfl)) ?_
  rw [len_of Sz1 Mz1]
  show gH (T0.setTop (mkF m 3 #[vr a1,vi (.ofNat n)] [(.int N),(.int (.ofNat n))])) ..
  refine oS (fun _=>XS.isub X0.here hx rfl (dE hby D6 3 rfl) rfl) ?_
  refine oS (fun _=>XS.bipush X0.here hx rfl (dE hby D6 4 rfl)) ?_
  refine oS (fun _=>XS.iushr X0.here hx rfl (dE hby D6 5 rfl) rfl) ?_
  refine oS (fun _=>XS.i2b X0.here hx rfl (dE hby D6 6 rfl) rfl) ?_
  show gH (T0.setTop (mkF m 8 #[vr a1,vi (.ofNat n)] [(.int (((((Int32.ofNat n) - N).toUInt32>>>((31:Int32)&&&31).toUInt32).toInt32).toInt8.toInt32))])) ..
  exact own_retN X0 hx hret hlk (by simp) (dE hby D6 7 rfl) (by rw [e0]; exact ⟨by rw [hcd],N0,rfl⟩) (by decide) (by decide)
def L7 : List (Nat × Instr × Nat):=[(0,.iload_n 2,1),(1,.newarray .byte,2),(3,.astore_n 3,1),(4,.aload_n 0,1),(5,.iload_n 1,1),(6,.aload_n 3,1),(7,.iconst 0,1),(8,.iload_n 2,1),(9,.invokestatic 115,3),(12,.istore 4,2),(14,.iload 4,2),(16,.iload_n 2,1),(17,.if_icmp .eq 40,3),(57,.aload_n 3,1),(58,.areturn,1),(20,.aload_n 0,1),(21,.iload_n 1,1),(22,.iload_n 2,1),(23,.invokestatic 119,3),(26,.astore 5,2),(28,.aload 5,2),(30,.iload 4,2),(32,.invokestatic 71,3),(35,.sipush 255,3),(38,.if_icmp .gt 16,3),(54,.aload 5,2),(56,.areturn,1)]
theorem D7 : ∀ q∈L7,decode jdk_52_method_16_code q.1 = .ok q.2:=by decide +kernel
theorem own_pd4 : parseMethodDescriptor "([CI[BII)I" = some ⟨[(.array .char),.int,(.array .byte),.int,.int],some .int⟩:=by decide +kernel
theorem own_pd5 : parseMethodDescriptor "([CII)[B" = some ⟨[(.array .char),.int,.int],some (.array .byte)⟩:=by decide +kernel
theorem own_pd6 : parseMethodDescriptor "([BI)C" = some ⟨[(.array .byte),.int],some .char⟩:=by decide +kernel
theorem own_c3 (l:Launch) (Z:State) (a0:Array Value) (hw:∀ d∈tables_1,d.before a0 Z = true) (ws:List Jvm.Cond) (a1:Addr) (n:Nat) (f:Nat→Int32) (kc:ClassId) (h0:Heap) (O0:Old Z Z.heap.size h0) (hn:n≤16) (hf:∀ j,j < n→0≤(f j).toInt∧(f j).toInt < 65536) (US:own_US Z) (Vc:Arv Z h0 a1 kc .char (Int32.ofNat n) (oV f n) (.int 0)) :
    own_Met l Z (⟨"java/lang/StringUTF16","compress","([CII)[B"⟩ : MethodName) jdk_52_method_16_code 6 (some (.array .byte)) ws (⟨3,2,48,40⟩ : Room) #[(.ref a1),(.int (.ofNat 0)),(.int (.ofNat n))] h0 (fun v h L=>∃ t kt,v = some (.ref t)∧Fr Z.heap.size L∧Keep h0 h []∧h0.size≤t∧t < h.size∧(((∀ j,j < n→¬ (255:Int32) < f j)∧Arv Z h t kt .byte (Int32.ofNat n) (oV (fun j=>own_lo (f j)) n) (.int 0)) ∨ Arv Z h t kt .byte (Int32.ofNat (2 * n)) (oV (own_wide f) (2 * n)) (.int 0))) 2 48:=by
  refine own_bodyA (ef:=fun m=>mkF m 0 #[.val (.ref a1),.val (.int (Int32.ofNat 0)),.val (.int (Int32.ofNat n)),.unset,.unset,.unset] []) (plainFor_of_name own_pn0) ?_
  intro p e s m below meth c T0 hx hZ hby hml hown hnm hret hlk X0 e0
  have N0:=Fr.nil Z.heap.size
  have z0 : Z.heap.size≤h0.size:=O0.2.1
  have Kr:=Keep.refl h0 []
  show gH (T0.setTop (mkF m 0 #[vr a1,vi (.ofNat 0),vi (.ofNat n),.unset,.unset,.unset] [])) ..
  have ltc:=oL Vc.lt
  refine oS (fun _=>XS.iloadN X0.here hx rfl (dE hby D7 0 rfl) rfl) ?_
  obtain ⟨T1,h1,k1,X1,e1,E1,A1,st1⟩:=newP X0 hx hZ (oW hw 3 rfl) e0 (g:=(mkF m 1 #[vr a1,vi (.ofNat 0),vi (.ofNat n),.unset,.unset,.unset] [(.int (.ofNat n))])) rfl (dE hby D7 1 rfl) rfl (oN (by omega)) (cap:=16) (by rw [oC (by omega)]; omega) (by decide) (by decide) (by decide)
  obtain ⟨b1,g1⟩ : ∃ z,z = h0.size:=⟨_,rfl⟩
  rw [← g1] at A1 st1
  refine oS st1 ?_
  have z2:=E1.1
  have O3:=Old.ext O0 E1
  have K4:=Kr.ext E1
  have V1 : Arv Z h1 b1 k1 .byte (Int32.ofNat n) [] (.int 0):=Arv.new A1 (oN (by omega))
  have lt1:=oL A1.lt
  show gH (T1.setTop (mkF m 3 #[vr a1,vi (.ofNat 0),vi (.ofNat n),.unset,.unset,.unset] [(.ref b1)])) ..
  refine oS (fun _=>XS.astoreN X1.here hx rfl (dE hby D7 2 rfl) rfl rfl (l':=#[vr a1,vi (.ofNat 0),vi (.ofNat n),vr b1,.unset,.unset]) rfl) ?_
  refine oS (fun _=>XS.aloadN X1.here hx rfl (dE hby D7 3 rfl) rfl rfl) ?_
  refine oS (fun _=>XS.iloadN X1.here hx rfl (dE hby D7 4 rfl) rfl) ?_
  refine oS (fun _=>XS.aloadN X1.here hx rfl (dE hby D7 5 rfl) rfl rfl) ?_
  refine oS (fun _=>XS.iconst X1.here hx rfl (dE hby D7 6 rfl)) ?_
  refine oS (fun _=>XS.iloadN X1.here hx rfl (dE hby D7 7 rfl) rfl) ?_
  have q5:=(Vc.ext E1)
  obtain ⟨_,T6,L6,X6,⟨r,rfl,N6q,K6_,c6⟩,st6⟩:=own_cS X1 hx hZ hown (own_c5 l Z a0 hw [] a1 b1 n f k1 kc h1 O3 hn (by omega) (show @Ne Nat a1 b1 by omega) q5 V1) (oW hw 147 rfl) (oW hw 148 rfl) (oW hw 145 rfl) (oW hw 149 rfl) (W:=0) (g:=(mkF m 9 #[vr a1,vi (.ofNat 0),vi (.ofNat n),vr b1,.unset,.unset] [(.int (.ofNat n)),(.int 0),(.ref b1),(.int (.ofNat 0)),(.ref a1)])) rfl (by rw [hml]; rfl) (argsL:=[(.ref a1),(.int (.ofNat 0)),(.ref b1),(.int 0),(.int (.ofNat n))]) (rest:=[]) (lenOf own_pd4 rfl) rfl (dE hby D7 8 rfl) rfl e1 (by decide) (by decide)
  have N6:=Fr.app N0 N6q
  refine oS st6 ?_
  have z7:=K6_.1
  have O8:=Old.keep O3 K6_ (allS (by omega) all0)
  have K9:=K4.trans K6_ (allS (Or.inr (by omega)) all0)
  show gH (T6.setTop (mkF m 12 #[vr a1,vi (.ofNat 0),vi (.ofNat n),vr b1,.unset,.unset] [(.int (.ofNat r))])) ..
  refine oS (fun _=>XS.istore X6.here hx rfl (dE hby D7 9 rfl) rfl (l':=#[vr a1,vi (.ofNat 0),vi (.ofNat n),vr b1,vi (.ofNat r),.unset]) rfl) ?_
  refine oS (fun _=>XS.iload X6.here hx rfl (dE hby D7 10 rfl) rfl) ?_
  refine oS (fun _=>XS.iloadN X6.here hx rfl (dE hby D7 11 rfl) rfl) ?_
  show gH (T6.setTop (mkF m 17 #[vr a1,vi (.ofNat 0),vi (.ofNat n),vr b1,vi (.ofNat r),.unset] [(.int (.ofNat n)),(.int (.ofNat r))])) ..
  rcases c6 with ⟨hrn,hall,Vl⟩ | ⟨hr,hbig⟩
  · skip
    refine oS (fun _=>XS.icmpYes X6.here hx rfl (pc0:=17) (pc':=57) rfl (dE hby D7 12 rfl) rfl (teq (by rw [hrn])).1 (by decide) (by decide)) ?_
    refine oS (fun _=>XS.aloadN X6.here hx rfl (dE hby D7 13 rfl) rfl rfl) ?_
    show gH (T6.setTop (mkF m 58 #[vr a1,vi (.ofNat 0),vi (.ofNat n),vr b1,vi (.ofNat r),.unset] [(.ref b1)])) ..
    exact own_retA X6 hx hret rfl rfl hlk (dE hby D7 14 rfl) ⟨b1,k1,rfl,N6,K9,by omega,Vl.lt,Or.inl ⟨hall,Vl⟩⟩ (by decide) (by decide)
  · skip
    refine oS (fun _=>XS.icmpNo X6.here hx rfl (dE hby D7 12 rfl) rfl (feq (fun q=>by have:=congrArg Int32.toInt q; rw [own_nat (by omega),own_nat (by omega)] at this; omega)).1) ?_
    refine oS (fun _=>XS.aloadN X6.here hx rfl (dE hby D7 15 rfl) rfl rfl) ?_
    refine oS (fun _=>XS.iloadN X6.here hx rfl (dE hby D7 16 rfl) rfl) ?_
    refine oS (fun _=>XS.iloadN X6.here hx rfl (dE hby D7 17 rfl) rfl) ?_
    have q10:=(q5.keep K6_ (ninS (show @Ne Nat a1 b1 by omega) nin0))
    obtain ⟨_,T11,L11,X11,⟨t,kt,rfl,N11q,K11_,gt,ltt,Vt⟩,st11⟩:=own_cS X6 hx hZ hown (own_toBytes l Z a0 hw [] a1 n f kc T6.heap O8 hn US q10) (oW hw 150 rfl) (oW hw 151 rfl) (oW hw 145 rfl) (oW hw 152 rfl) (W:=0) (g:=(mkF m 23 #[vr a1,vi (.ofNat 0),vi (.ofNat n),vr b1,vi (.ofNat r),.unset] [(.int (.ofNat n)),(.int (.ofNat 0)),(.ref a1)])) rfl (by rw [hml]; rfl) (argsL:=[(.ref a1),(.int (.ofNat 0)),(.int (.ofNat n))]) (rest:=[]) (lenOf own_pd5 rfl) rfl (dE hby D7 18 rfl) rfl rfl (by decide) (by decide)
    have N11:=Fr.app N6 N11q
    refine oS st11 ?_
    have z12:=K11_.1
    have O13:=Old.keep O8 K11_ all0
    have K14:=K9.trans K11_ all0
    show gH (T11.setTop (mkF m 26 #[vr a1,vi (.ofNat 0),vi (.ofNat n),vr b1,vi (.ofNat r),.unset] [(.ref t)])) ..
    refine oS (fun _=>XS.astore X11.here hx rfl (dE hby D7 19 rfl) rfl rfl (l':=#[vr a1,vi (.ofNat 0),vi (.ofNat n),vr b1,vi (.ofNat r),vr t]) rfl) ?_
    refine oS (fun _=>XS.aload X11.here hx rfl (dE hby D7 20 rfl) rfl rfl) ?_
    refine oS (fun _=>XS.iload X11.here hx rfl (dE hby D7 21 rfl) rfl) ?_
    obtain ⟨_,T15,L15,X15,⟨rfl,N15q,eh15⟩,st15⟩:=own_cS X11 hx hZ hown (own_getChar l Z a0 hw [] t r n f kt T11.heap O13 hr hn (hf r hr) US Vt) (oW hw 166 rfl) (oW hw 167 rfl) (oW hw 145 rfl) (oW hw 168 rfl) (W:=0) (g:=(mkF m 32 #[vr a1,vi (.ofNat 0),vi (.ofNat n),vr b1,vi (.ofNat r),vr t] [(.int (.ofNat r)),(.ref t)])) rfl (by rw [hml]; rfl) (argsL:=[(.ref t),(.int (.ofNat r))]) (rest:=[]) (lenOf own_pd6 rfl) rfl (dE hby D7 22 rfl) rfl rfl (by decide) (by decide)
    have N15:=Fr.app N11 N15q
    refine oS st15 ?_
    show gH (T15.setTop (mkF m 35 #[vr a1,vi (.ofNat 0),vi (.ofNat n),vr b1,vi (.ofNat r),vr t] [(.int (f r))])) ..
    refine oS (fun _=>XS.sipush X15.here hx rfl (dE hby D7 23 rfl)) ?_
    refine oS (fun _=>XS.icmpYes X15.here hx rfl (pc0:=38) (pc':=54) rfl (dE hby D7 24 rfl) rfl (tlt hbig).2.2.1 (by decide) (by decide)) ?_
    refine oS (fun _=>XS.aload X15.here hx rfl (dE hby D7 25 rfl) rfl rfl) ?_
    show gH (T15.setTop (mkF m 56 #[vr a1,vi (.ofNat 0),vi (.ofNat n),vr b1,vi (.ofNat r),vr t] [(.ref t)])) ..
    exact own_retA X15 hx hret rfl rfl hlk (dE hby D7 26 rfl) (by rw [eh15]; exact ⟨t,kt,rfl,N15,K14,by omega,ltt,Or.inr Vt⟩) (by decide) (by decide)
theorem own_cd {n:Nat} (h1:1≤n) (h2:n≤16) : nar .byte (((((Int32.ofNat n) - (Int32.ofNat (2 * n))).toUInt32>>>((31:Int32)&&&31).toUInt32).toInt32).toInt8.toInt32) = (1:Int32):=by
  have : n = 1 ∨ n = 2 ∨ n = 3 ∨ n = 4 ∨ n = 5 ∨ n = 6 ∨ n = 7 ∨ n = 8 ∨ n = 9 ∨ n = 10 ∨ n = 11 ∨ n = 12 ∨ n = 13 ∨ n = 14 ∨ n = 15 ∨ n = 16:=by omega
  rcases this with rfl | rfl | rfl | rfl | rfl | rfl | rfl | rfl | rfl | rfl | rfl | rfl | rfl | rfl | rfl | rfl <;> rfl
theorem own_pn7 : plainName "java/lang/String" = true:=by first | (simp [plainName,overriddenIn]; done) | decide +kernel
def L8 : List (Nat × Instr × Nat):=[(0,.aload_n 0,1),(1,.invokespecial 1,3),(4,.iload_n 3,1),(5,.ifCond .ne 22,3),(27,.getstatic 38,3),(30,.ifCond .eq 28,3),(33,.aload_n 1,1),(34,.iload_n 2,1),(35,.iload_n 3,1),(36,.invokestatic 177,3),(39,.astore 5,2),(41,.aload_n 0,1),(42,.aload 5,2),(44,.iload_n 3,1),(45,.invokestatic 47,3),(48,.putfield 15,3),(51,.aload_n 0,1),(52,.aload 5,2),(54,.putfield 9,3),(57,.return_,1)]
theorem D8 : ∀ q∈L8,decode jdk_42_method_149_code q.1 = .ok q.2:=by decide +kernel
theorem own_pd8 : parseMethodDescriptor "([BI)B" = some ⟨[(.array .byte),.int],some .byte⟩:=by decide +kernel
theorem own_i4 (l:Launch) (Z:State) (a0:Array Value) (hw:∀ d∈tables_1,d.before a0 Z = true) (ws:List Jvm.Cond) (a1:Addr) (a2:Addr) (n:Nat) (f:Nat→Int32) (kc:ClassId) (w1:Int32) (u1 u2 : Value) (h0:Heap) (O0:Old Z Z.heap.size h0) (hn1:1≤n) (hn:n≤16) (hf:∀ j,j < n→0≤(f j).toInt∧(f j).toInt < 65536) (US:own_US Z) (S1:Sta Z Z.heap "java/lang/String" "COMPACT_STRINGS" "Z" (.int w1)) (hw1:¬ (w1 = (0:Int32))) (ga:Z.heap.size≤a1) (hne:a1 ≠ a2) (Ea:Exa Z h0 a1 "java/lang/String") (Fv:Fld Z h0 a1 "java/lang/String" "value" "[B" u1) (Fc:Fld Z h0 a1 "java/lang/String" "coder" "B" u2) (Vc:Arv Z h0 a2 kc .char (Int32.ofNat n) (oV f n) (.int 0)) :
    own_Met l Z (⟨"java/lang/String","<init>","([CIILjava/lang/Void;)V"⟩ : MethodName) jdk_42_method_149_code 6 none ws (⟨4,2,48,57⟩ : Room) #[(.ref a1),(.ref a2),(.int (.ofNat 0)),(.int (.ofNat n)),.null] h0 (fun v h L=>v = none∧Fr Z.heap.size L∧Keep h0 h [a1]∧∃ t kt,h0.size≤t∧own_Str Z h a1 t kt f n) 2 48:=by
  refine own_bodyA (ef:=fun m=>mkF m 0 #[.val (.ref a1),.val (.ref a2),.val (.int (Int32.ofNat 0)),.val (.int (Int32.ofNat n)),.val .null,.unset] []) (plainFor_of_name own_pn7) ?_
  intro p e s m below meth c T0 hx hZ hby hml hown hnm hret hlk X0 e0
  have N0:=Fr.nil Z.heap.size
  have z0 : Z.heap.size≤h0.size:=O0.2.1
  have Kr:=Keep.refl h0 [a1]
  show gH (T0.setTop (mkF m 0 #[vr a1,vr a2,vi (.ofNat 0),vi (.ofNat n),.val .null,.unset] [])) ..
  have ltc:=oL Vc.lt
  have lta:=oL Ea.lt
  refine oS (fun _=>XS.aloadN X0.here hx rfl (dE hby D8 0 rfl) rfl rfl) ?_
  obtain ⟨T1,X1,e1,st1⟩:=initO X0 hx hZ hown (oW hw 54 rfl) (oW hw 12 rfl) (oW hw 13 rfl) e0 (g:=(mkF m 1 #[vr a1,vr a2,vi (.ofNat 0),vi (.ofNat n),.val .null,.unset] [(.ref a1)])) rfl (by rw [hml]; rfl) rfl (dE hby D8 1 rfl) (by decide) (W:=0) (by show 2 * 0+_≤_; exact Nat.le_of_eq rfl) (by decide)
  refine oS st1 ?_
  show gH (T1.setTop (mkF m 4 #[vr a1,vr a2,vi (.ofNat 0),vi (.ofNat n),.val .null,.unset] [])) ..
  refine oS (fun _=>XS.iloadN X1.here hx rfl (dE hby D8 2 rfl) rfl) ?_
  refine oS (fun _=>XS.ifYes X1.here hx rfl (pc0:=5) (pc':=27) rfl (dE hby D8 3 rfl) rfl ((if0 _ _).trans (feq (fun q=>by have:=congrArg Int32.toInt q; rw [own_nat (by omega),show (0:Int32).toInt = 0 from rfl] at this; omega)).2) (by decide) (by decide)) ?_
  obtain ⟨T2,X2,e2,st2⟩:=getS2 X1 hx hZ hown (host:="") (Or.inl (oW hw 110 rfl)) Via.refl e1 (Sta.ext O0.2 S1) (g:=(mkF m 27 #[vr a1,vr a2,vi (.ofNat 0),vi (.ofNat n),.val .null,.unset] [])) rfl (dE hby D8 4 rfl)
  refine oS st2 ?_
  show gH (T2.setTop (mkF m 30 #[vr a1,vr a2,vi (.ofNat 0),vi (.ofNat n),.val .null,.unset] [(.int w1)])) ..
  refine oS (fun _=>XS.ifNo X2.here hx rfl (dE hby D8 5 rfl) rfl ((if0 _ _).trans (feq hw1).1)) ?_
  refine oS (fun _=>XS.aloadN X2.here hx rfl (dE hby D8 6 rfl) rfl rfl) ?_
  refine oS (fun _=>XS.iloadN X2.here hx rfl (dE hby D8 7 rfl) rfl) ?_
  refine oS (fun _=>XS.iloadN X2.here hx rfl (dE hby D8 8 rfl) rfl) ?_
  obtain ⟨_,T3,L3,X3,⟨t,kt,rfl,N3q,K3_,gt,ltt,c3⟩,st3⟩:=own_cS X2 hx hZ hown (own_c3 l Z a0 hw [] a2 n f kc h0 O0 hn hf US Vc) (oW hw 143 rfl) (oW hw 144 rfl) (oW hw 145 rfl) (oW hw 146 rfl) (W:=0) (g:=(mkF m 36 #[vr a1,vr a2,vi (.ofNat 0),vi (.ofNat n),.val .null,.unset] [(.int (.ofNat n)),(.int (.ofNat 0)),(.ref a2)])) rfl (by rw [hml]; rfl) (argsL:=[(.ref a2),(.int (.ofNat 0)),(.int (.ofNat n))]) (rest:=[]) (lenOf own_pd5 rfl) rfl (dE hby D8 9 rfl) rfl e2 (by decide) (by decide)
  have N3:=Fr.app N0 N3q
  refine oS st3 ?_
  have z4:=K3_.1
  have O5:=Old.keep O0 K3_ all0
  have K6:=Kr.trans K3_ all0
  show gH (T3.setTop (mkF m 39 #[vr a1,vr a2,vi (.ofNat 0),vi (.ofNat n),.val .null,.unset] [(.ref t)])) ..
  refine oS (fun _=>XS.astore X3.here hx rfl (dE hby D8 10 rfl) rfl rfl (l':=#[vr a1,vr a2,vi (.ofNat 0),vi (.ofNat n),.val .null,vr t]) rfl) ?_
  refine oS (fun _=>XS.aloadN X3.here hx rfl (dE hby D8 11 rfl) rfl rfl) ?_
  refine oS (fun _=>XS.aload X3.here hx rfl (dE hby D8 12 rfl) rfl rfl) ?_
  refine oS (fun _=>XS.iloadN X3.here hx rfl (dE hby D8 13 rfl) rfl) ?_
  show gH (T3.setTop (mkF m 45 #[vr a1,vr a2,vi (.ofNat 0),vi (.ofNat n),.val .null,vr t] [(.int (.ofNat n)),(.ref t),(.ref a1)])) ..
  rcases c3 with ⟨hall,Vt⟩ | Vt
  · skip
    obtain ⟨_,T7,L7,X7,⟨rfl,N7q,eh7⟩,st7⟩:=own_cS X3 hx hZ hown (own_cod l Z a0 hw [] t n (Int32.ofNat n) (0:Int32) (oV (fun j=>own_lo (f j)) n) kt T3.heap O5 Vt (by rw [Int32.sub_self]; rfl)) (oW hw 169 rfl) (oW hw 170 rfl) (oW hw 145 rfl) (oW hw 171 rfl) (W:=1) (g:=(mkF m 45 #[vr a1,vr a2,vi (.ofNat 0),vi (.ofNat n),.val .null,vr t] [(.int (.ofNat n)),(.ref t),(.ref a1)])) rfl (by rw [hml]; rfl) (argsL:=[(.ref t),(.int (.ofNat n))]) (rest:=[(.ref a1)]) (lenOf own_pd8 rfl) rfl (dE hby D8 14 rfl) rfl rfl (by decide) (by decide)
    have N7:=Fr.app N3 N7q
    refine oS st7 ?_
    have q8:=(Ea.keep K3_)
    have q9:=(Fc.keep K3_ nin0)
    obtain ⟨T10,h10,X10,e10,W10,st10⟩:=putFN X7 hx hZ hown (oW hw 76 rfl) Via.refl eh7 q9 q8 (Or.inr ⟨(oW hw 77 rfl),rfl,hnm⟩) (oW hw 46 rfl) (ty:=.byte) (v':=(.int (nar .byte (0:Int32)))) (by decide) rfl (fits_nar_byte _) (g:=(mkF m 48 #[vr a1,vr a2,vi (.ofNat 0),vi (.ofNat n),.val .null,vr t] [(.int 0),(.ref a1)])) rfl rfl (dE hby D8 15 rfl)
    refine oS st10 ?_
    have z11:=W10.size
    have O12:=Old.wr O5 W10 (by omega)
    have K13:=K6.wr W10 (Or.inl (by simp))
    have N10:=Fr.snoc X10 N7 (by omega : Z.heap.size≤a1)
    have Fw10:=q9.same W10
    show gH (T10.setTop (mkF m 51 #[vr a1,vr a2,vi (.ofNat 0),vi (.ofNat n),.val .null,vr t] [])) ..
    refine oS (fun _=>XS.aloadN X10.here hx rfl (dE hby D8 16 rfl) rfl rfl) ?_
    refine oS (fun _=>XS.aload X10.here hx rfl (dE hby D8 17 rfl) rfl rfl) ?_
    have q14:=(q8.wr W10)
    have q15:=((Fv.keep K3_ nin0).other W10 (Or.inr (slot_ne (Or.inr (oW hw 97 rfl)) (Or.inr (oW hw 77 rfl)) (by decide) (t:=(.array .byte)) (t':=.byte) (by decide) (by decide))))
    obtain ⟨T16,h16,X16,e16,W16,st16⟩:=putF X10 hx hZ hown (host:="") (Or.inl (oW hw 96 rfl)) Via.refl e10 q15 q14 (Or.inr ⟨(oW hw 97 rfl),rfl,hnm⟩) (oW hw 46 rfl) (ty:=(.array .byte)) (by decide) rfl rfl (g:=(mkF m 54 #[vr a1,vr a2,vi (.ofNat 0),vi (.ofNat n),.val .null,vr t] [(.ref t),(.ref a1)])) rfl rfl (dE hby D8 18 rfl)
    refine oS st16 ?_
    have z17:=W16.size
    have O18:=Old.wr O12 W16 (by omega)
    have K19:=K13.wr W16 (Or.inl (by simp))
    have N16:=Fr.snoc X16 N10 (by omega : Z.heap.size≤a1)
    have Fw16:=q15.same W16
    show gH (T16.setTop (mkF m 57 #[vr a1,vr a2,vi (.ofNat 0),vi (.ofNat n),.val .null,vr t] [])) ..
    have q20:=(q14.wr W16)
    have q21:=(Fw10.other W16 (Or.inr (slot_ne (Or.inr (oW hw 77 rfl)) (Or.inr (oW hw 97 rfl)) (by decide) (t:=.byte) (t':=(.array .byte)) (by decide) (by decide))))
    have q22:=((Vt.other W10 (show @Ne Nat t a1 by omega)).other W16 (show @Ne Nat t a1 by omega))
    exact own_ret0 X16 hx hret hlk (dE hby D8 19 rfl) (by rw [e16]; exact ⟨rfl,N16,K19,t,kt,by omega,⟨q20,(0:Int32),q21,Fw16,Or.inl ⟨rfl,hall,q22⟩⟩⟩) (by decide) (by decide)
  · skip
    obtain ⟨_,T23,L23,X23,⟨rfl,N23q,eh23⟩,st23⟩:=own_cS X3 hx hZ hown (own_cod l Z a0 hw [] t n (Int32.ofNat (2 * n)) (1:Int32) (oV (own_wide f) (2 * n)) kt T3.heap O5 Vt (own_cd hn1 hn)) (oW hw 169 rfl) (oW hw 170 rfl) (oW hw 145 rfl) (oW hw 171 rfl) (W:=1) (g:=(mkF m 45 #[vr a1,vr a2,vi (.ofNat 0),vi (.ofNat n),.val .null,vr t] [(.int (.ofNat n)),(.ref t),(.ref a1)])) rfl (by rw [hml]; rfl) (argsL:=[(.ref t),(.int (.ofNat n))]) (rest:=[(.ref a1)]) (lenOf own_pd8 rfl) rfl (dE hby D8 14 rfl) rfl rfl (by decide) (by decide)
    have N23:=Fr.app N3 N23q
    refine oS st23 ?_
    have q24:=(Ea.keep K3_)
    have q25:=(Fc.keep K3_ nin0)
    obtain ⟨T26,h26,X26,e26,W26,st26⟩:=putFN X23 hx hZ hown (oW hw 76 rfl) Via.refl eh23 q25 q24 (Or.inr ⟨(oW hw 77 rfl),rfl,hnm⟩) (oW hw 46 rfl) (ty:=.byte) (v':=(.int (nar .byte (1:Int32)))) (by decide) rfl (fits_nar_byte _) (g:=(mkF m 48 #[vr a1,vr a2,vi (.ofNat 0),vi (.ofNat n),.val .null,vr t] [(.int 1),(.ref a1)])) rfl rfl (dE hby D8 15 rfl)
    refine oS st26 ?_
    have z27:=W26.size
    have O28:=Old.wr O5 W26 (by omega)
    have K29:=K6.wr W26 (Or.inl (by simp))
    have N26:=Fr.snoc X26 N23 (by omega : Z.heap.size≤a1)
    have Fw26:=q25.same W26
    show gH (T26.setTop (mkF m 51 #[vr a1,vr a2,vi (.ofNat 0),vi (.ofNat n),.val .null,vr t] [])) ..
    refine oS (fun _=>XS.aloadN X26.here hx rfl (dE hby D8 16 rfl) rfl rfl) ?_
    refine oS (fun _=>XS.aload X26.here hx rfl (dE hby D8 17 rfl) rfl rfl) ?_
    have q30:=(q24.wr W26)
    have q31:=((Fv.keep K3_ nin0).other W26 (Or.inr (slot_ne (Or.inr (oW hw 97 rfl)) (Or.inr (oW hw 77 rfl)) (by decide) (t:=(.array .byte)) (t':=.byte) (by decide) (by decide))))
    obtain ⟨T32,h32,X32,e32,W32,st32⟩:=putF X26 hx hZ hown (host:="") (Or.inl (oW hw 96 rfl)) Via.refl e26 q31 q30 (Or.inr ⟨(oW hw 97 rfl),rfl,hnm⟩) (oW hw 46 rfl) (ty:=(.array .byte)) (by decide) rfl rfl (g:=(mkF m 54 #[vr a1,vr a2,vi (.ofNat 0),vi (.ofNat n),.val .null,vr t] [(.ref t),(.ref a1)])) rfl rfl (dE hby D8 18 rfl)
    refine oS st32 ?_
    have z33:=W32.size
    have O34:=Old.wr O28 W32 (by omega)
    have K35:=K29.wr W32 (Or.inl (by simp))
    have N32:=Fr.snoc X32 N26 (by omega : Z.heap.size≤a1)
    have Fw32:=q31.same W32
    show gH (T32.setTop (mkF m 57 #[vr a1,vr a2,vi (.ofNat 0),vi (.ofNat n),.val .null,vr t] [])) ..
    have q36:=(q30.wr W32)
    have q37:=(Fw26.other W32 (Or.inr (slot_ne (Or.inr (oW hw 77 rfl)) (Or.inr (oW hw 97 rfl)) (by decide) (t:=.byte) (t':=(.array .byte)) (by decide) (by decide))))
    have q38:=((Vt.other W26 (show @Ne Nat t a1 by omega)).other W32 (show @Ne Nat t a1 by omega))
    exact own_ret0 X32 hx hret hlk (dE hby D8 19 rfl) (by rw [e32]; exact ⟨rfl,N32,K35,t,kt,by omega,⟨q36,(1:Int32),q37,Fw32,Or.inr ⟨rfl,q38⟩⟩⟩) (by decide) (by decide)
def L9 : List (Nat × Instr × Nat):=[(0,.aload_n 0,1),(1,.aload_n 1,1),(2,.iconst 0,1),(3,.aload_n 1,1),(4,.arraylength,1),(5,.aconst_null,1),(6,.invokespecial 27,3),(9,.return_,1)]
theorem D9 : ∀ q∈L9,decode jdk_42_method_3_code q.1 = .ok q.2:=by decide +kernel
theorem own_pd9 : parseMethodDescriptor "([CIILjava/lang/Void;)V" = some ⟨[(.array .char),.int,.int,(.object "java/lang/Void")],none⟩:=by decide +kernel
theorem own_newS (l:Launch) (Z:State) (a0:Array Value) (hw:∀ d∈tables_1,d.before a0 Z = true) (ws:List Jvm.Cond) (a1:Addr) (a2:Addr) (n:Nat) (f:Nat→Int32) (kc:ClassId) (w1:Int32) (u1 u2 : Value) (h0:Heap) (O0:Old Z Z.heap.size h0) (hn1:1≤n) (hn:n≤16) (hf:∀ j,j < n→0≤(f j).toInt∧(f j).toInt < 65536) (US:own_US Z) (S1:Sta Z Z.heap "java/lang/String" "COMPACT_STRINGS" "Z" (.int w1)) (hw1:¬ (w1 = (0:Int32))) (ga:Z.heap.size≤a1) (hne:a1 ≠ a2) (Ea:Exa Z h0 a1 "java/lang/String") (Fv:Fld Z h0 a1 "java/lang/String" "value" "[B" u1) (Fc:Fld Z h0 a1 "java/lang/String" "coder" "B" u2) (Vc:Arv Z h0 a2 kc .char (Int32.ofNat n) (oV f n) (.int 0)) :
    own_Met l Z (⟨"java/lang/String","<init>","([C)V"⟩ : MethodName) jdk_42_method_3_code 2 none ws (⟨5,2,48,74⟩ : Room) #[(.ref a1),(.ref a2)] h0 (fun v h L=>v = none∧Fr Z.heap.size L∧Keep h0 h [a1]∧∃ t kt,h0.size≤t∧own_Str Z h a1 t kt f n) 2 48:=by
  refine own_bodyA (ef:=fun m=>mkF m 0 #[.val (.ref a1),.val (.ref a2)] []) (plainFor_of_name own_pn7) ?_
  intro p e s m below meth c T0 hx hZ hby hml hown hnm hret hlk X0 e0
  have N0:=Fr.nil Z.heap.size
  have z0 : Z.heap.size≤h0.size:=O0.2.1
  have Kr:=Keep.refl h0 [a1]
  show gH (T0.setTop (mkF m 0 #[vr a1,vr a2] [])) ..
  have lta:=oL Ea.lt
  refine oS (fun _=>XS.aloadN X0.here hx rfl (dE hby D9 0 rfl) rfl rfl) ?_
  refine oS (fun _=>XS.aloadN X0.here hx rfl (dE hby D9 1 rfl) rfl rfl) ?_
  refine oS (fun _=>XS.iconst X0.here hx rfl (dE hby D9 2 rfl)) ?_
  refine oS (fun _=>XS.aloadN X0.here hx rfl (dE hby D9 3 rfl) rfl rfl) ?_
  show gH (T0.setTop (mkF m 4 #[vr a1,vr a2] [(.ref a2),(.int 0),(.ref a2),(.ref a1)])) ..
  obtain ⟨cl1,Ar1,qk1,Sz1,Mz1,Hz1,Uz1⟩:=id Vc
  refine oS (X0.arraylength hx (by rw [e0]; exact Ar1.1) (State.isArrayOf_alike hZ.alike Ar1.2.1) (g:=(mkF m 4 #[vr a1,vr a2] [(.ref a2),(.int 0),(.ref a2),(.ref a1)])) rfl rfl (dE hby D9 4 rfl)) ?_
  rw [len_of Sz1 Mz1]
  show gH (T0.setTop (mkF m 5 #[vr a1,vr a2] [(.int (.ofNat n)),(.int 0),(.ref a2),(.ref a1)])) ..
  refine oS (fun _=>XS.aconstNull X0.here hx rfl (dE hby D9 5 rfl)) ?_
  obtain ⟨_,T2,L2,X2,⟨rfl,N2q,K2_,Q2⟩,st2⟩:=own_cI X0 hx hZ hown (own_i4 l Z a0 hw [] a1 a2 n f kc w1 u1 u2 h0 O0 hn1 hn hf US S1 hw1 ga hne Ea Fv Fc Vc) (oW hw 140 rfl) (oW hw 141 rfl) (a:=a1) rfl rfl (oW hw 28 rfl) (oW hw 142 rfl) (W:=0) (g:=(mkF m 6 #[vr a1,vr a2] [.null,(.int (.ofNat n)),(.int 0),(.ref a2),(.ref a1)])) rfl (by rw [hml]; rfl) (argsL:=[(.ref a2),(.int 0),(.int (.ofNat n)),.null]) (rest:=[]) (lenOf own_pd9 rfl) rfl (dE hby D9 6 rfl) rfl e0 (by decide) (by decide)
  have N2:=Fr.app N0 N2q
  refine oS st2 ?_
  have z3:=K2_.1
  have O4:=Old.keep O0 K2_ (allS (by omega) all0)
  have K5:=Kr.trans K2_ (allS (Or.inl (by simp)) all0)
  show gH (T2.setTop (mkF m 9 #[vr a1,vr a2] [])) ..
  exact own_ret0 X2 hx hret hlk (dE hby D9 7 rfl) ⟨rfl,N2,K5,Q2⟩ (by decide) (by decide)
theorem own_plus (i j : Nat) : Int32.ofNat i+Int32.ofNat j = Int32.ofNat (i+j):=(Int32.ofNat_add i j).symm
theorem own_nlt2 {a b : Nat} (h:b≤a) (ha:a < 2147483648) : ¬ Int32.ofNat a < Int32.ofNat b:=by
  rw [Int32.lt_iff_toInt_lt,own_nat ha,own_nat (by omega)]
  omega
theorem own_ne {a b : Nat} (h:a ≠ b) (ha:a < 2147483648) (hb:b < 2147483648) : ¬ Int32.ofNat a = Int32.ofNat b:=fun q=>h (by have q:=congrArg Int32.toInt q; rw [own_nat ha,own_nat hb] at q; omega)
/-- the bytes of a Latin-1 text,and of a UTF-16 one -/
def own_L1 (cs:List Int32) : List Value:=cs.map fun c=>.int (own_lo c)
def own_U2 : List Int32→List Value
  | []=>[]
  | c :: r=>.int (own_b0 c) :: .int (own_b1 c) :: own_U2 r
theorem own_L1_len (cs:List Int32) : (own_L1 cs).length = cs.length:=by simp [own_L1]
theorem own_L1_app (cs ds : List Int32) : own_L1 (cs++ds) = own_L1 cs++own_L1 ds:=by simp [own_L1]
theorem own_U2_len : ∀ cs : List Int32,(own_U2 cs).length = 2 * cs.length
  | []=>rfl
  | c :: r=>by
    show (own_U2 r).length+1+1 = 2 * (r.length+1)
    rw [own_U2_len r]
    omega
theorem own_U2_app : ∀ cs ds : List Int32,own_U2 (cs++ds) = own_U2 cs++own_U2 ds
  | [],ds=>rfl
  | c :: r,ds=>by
    show .int (own_b0 c) :: .int (own_b1 c) :: own_U2 (r++ds) = .int (own_b0 c) :: .int (own_b1 c) :: (own_U2 r++own_U2 ds)
    rw [own_U2_app r ds]
theorem own_at0 (l r : List Value) (v d : Value) : (l++v :: r).getD l.length d = v:=by simp [List.getD_eq_getElem?_getD]
theorem own_at1 (l r : List Value) (u v d : Value) : (l++u :: v :: r).getD (l.length+1) d = v:=by simp [List.getD_eq_getElem?_getD]
theorem own_L1_at (ds r : List Int32) (c:Int32) (d:Value) : (own_L1 (ds++c :: r)).getD ds.length d = .int (own_lo c):=by
  have h:=own_at0 (own_L1 ds) (own_L1 r) (.int (own_lo c)) d
  rw [own_L1_len] at h
  rw [own_L1_app]
  exact h
theorem own_U2_at0 (ds r : List Int32) (c:Int32) (d:Value) : (own_U2 (ds++c :: r)).getD (2 * ds.length) d = .int (own_b0 c):=by
  have h:=own_at0 (own_U2 ds) (.int (own_b1 c) :: own_U2 r) (.int (own_b0 c)) d
  rw [own_U2_len] at h
  rw [own_U2_app]
  exact h
theorem own_U2_at1 (ds r : List Int32) (c:Int32) (d:Value) : (own_U2 (ds++c :: r)).getD (2 * ds.length+1) d = .int (own_b1 c):=by
  have h:=own_at1 (own_U2 ds) (own_U2 r) (.int (own_b0 c)) (.int (own_b1 c)) d
  rw [own_U2_len] at h
  rw [own_U2_app]
  exact h
theorem oR {cl:Cell} {n i : Nat} {vs:List Value} {d v : Value} (S:cl.slots.size = (Int32.ofNat n).toNatClampNeg) (H:Has cl vs d) (h:i < n) (hn:n < 2147483648) (hv:vs.getD i d = v) : cl.slots[(Int32.ofNat i).toNatClampNeg]? = some v:=by
  rw [oC (by omega),← hv]
  exact H i (by rw [S,oC hn]; exact h)
theorem own_acp {Z:State} {h:Heap} {b:Addr} {kb:ClassId} {ty:FieldType} {N:Int32} {dv:Value} {vb vs : List Value} {d k : Nat} (hd:d < 2147483648) (hb:vb.length = d) (hv:vs.length = k)
    (V:Arv Z h b kb ty N ((vb++List.replicate k dv).take (Int32.ofNat d).toNatClampNeg++((List.range k).map fun i=>vs.getD (0+i) dv)++(vb++List.replicate k dv).drop ((Int32.ofNat d).toNatClampNeg+k)) dv) : Arv Z h b kb ty N (vb++vs) dv:=by
  have e1 : (vb++List.replicate k dv).take d = vb:=by rw [← hb]; simp
  have e2 : ((List.range k).map fun i=>vs.getD (0+i) dv) = vs:=by
    refine List.ext_getElem (by simp [hv]) fun i h1 h2=>?_
    simp [List.getD_eq_getElem?_getD,h2]
  have e3 : (vb++List.replicate k dv).drop (d+k) = []:=List.drop_eq_nil_of_le (by simp [hb])
  rw [oC hd,e1,e2,e3,List.append_nil] at V
  exact V
/-- the builder's fields -/
def own_SBx (Z:State) (h:Heap) (sb bv : Addr) (cd:Int32) (n:Nat) : Prop:=Exa Z h sb "java/lang/StringBuilder"∧Fld Z h sb "java/lang/AbstractStringBuilder" "coder" "B" (.int cd)∧Fld Z h sb "java/lang/AbstractStringBuilder" "count" "I" (.int (.ofNat n))∧Fld Z h sb "java/lang/AbstractStringBuilder" "value" "[B" (.ref bv)∧Fld Z h sb "java/lang/AbstractStringBuilder" "maybeLatin1" "Z" (.int 0)
/-- a builder that holds the text cs,Latin-1 or UTF-16 -/
def own_SBL (Z:State) (h:Heap) (sb bv : Addr) (kb:ClassId) (cs:List Int32) : Prop:=own_SBx Z h sb bv 0 cs.length∧Arv Z h bv kb .byte (Int32.ofNat 16) (own_L1 cs) (.int 0)
def own_SBU (Z:State) (h:Heap) (sb bv : Addr) (kb:ClassId) (cs:List Int32) : Prop:=own_SBx Z h sb bv 1 cs.length∧Arv Z h bv kb .byte (Int32.ofNat 32) (own_U2 cs) (.int 0)
def own_StL (Z:State) (h:Heap) (a t : Addr) (kt:ClassId) (cs:List Int32) : Prop:=Exa Z h a "java/lang/String"∧Fld Z h a "java/lang/String" "coder" "B" (.int 0)∧Fld Z h a "java/lang/String" "value" "[B" (.ref t)∧Arv Z h t kt .byte (Int32.ofNat cs.length) (own_L1 cs) (.int 0)
def own_StU (Z:State) (h:Heap) (a t : Addr) (kt:ClassId) (cs:List Int32) : Prop:=Exa Z h a "java/lang/String"∧Fld Z h a "java/lang/String" "coder" "B" (.int 1)∧Fld Z h a "java/lang/String" "value" "[B" (.ref t)∧Arv Z h t kt .byte (Int32.ofNat (2 * cs.length)) (own_U2 cs) (.int 0)
theorem own_shr1 {n:Nat} (h:n < 1000000) : Int32.ofNat (2 * n)>>>((1:Int32)&&&31) = Int32.ofNat n:=by
  apply Int32.toInt_inj.mp
  rw [c_ishr _ 1 1 rfl,own_nat (by omega),own_nat (by omega)]
  omega
theorem own_shr0 {n:Nat} (h:n < 1000000) : Int32.ofNat n>>>((0:Int32)&&&31) = Int32.ofNat n:=by
  apply Int32.toInt_inj.mp
  rw [c_ishr _ 0 0 rfl,own_nat (by omega)]
  omega
theorem own_shl0 {n:Nat} (h:n < 1000000) : Int32.ofNat n<<<((0:Int32)&&&31) = Int32.ofNat n:=by
  apply Int32.toInt_inj.mp
  have h1:=c_ishl (Int32.ofNat n) 0 0 rfl
  have h2:=rng32 (Int32.ofNat n<<<((0:Int32)&&&31))
  rw [own_nat (by omega)] at h1
  rw [own_nat (by omega)]
  omega
theorem own_sub0 (x:Int32) : x - (0:Int32) = x:=by simp
theorem own_pn10 : plainName "java/lang/AbstractStringBuilder" = true:=by first | (simp [plainName,overriddenIn]; done) | decide +kernel
def L10 : List (Nat × Instr × Nat):=[(0,.aload_n 0,1),(1,.invokespecial 3,3),(4,.getstatic 18,3),(7,.ifCond .eq 18,3),(10,.aload_n 0,1),(11,.iload_n 1,1),(12,.newarray .byte,2),(14,.putfield 15,3),(17,.aload_n 0,1),(18,.iconst 0,1),(19,.putfield 22,3),(22,.goto 16,3),(38,.return_,1)]
theorem D10 : ∀ q∈L10,decode jdk_68_method_2_code q.1 = .ok q.2:=by decide +kernel
theorem own_asbI (l:Launch) (Z:State) (a0:Array Value) (hw:∀ d∈tables_1,d.before a0 Z = true) (ws:List Jvm.Cond) (sb:Addr) (w1:Int32) (h0:Heap) (O0:Old Z Z.heap.size h0) (S1:Sta Z Z.heap "java/lang/String" "COMPACT_STRINGS" "Z" (.int w1)) (hw1:¬ (w1 = (0:Int32))) (ga:Z.heap.size≤sb) (Ea:Exa Z h0 sb "java/lang/StringBuilder") (F1:Fld Z h0 sb "java/lang/AbstractStringBuilder" "value" "[B" .null) (F2:Fld Z h0 sb "java/lang/AbstractStringBuilder" "coder" "B" (.int 0)) (F3:Fld Z h0 sb "java/lang/AbstractStringBuilder" "count" "I" (.int 0)) (F4:Fld Z h0 sb "java/lang/AbstractStringBuilder" "maybeLatin1" "Z" (.int 0)) :
    own_Met l Z (⟨"java/lang/AbstractStringBuilder","<init>","(I)V"⟩ : MethodName) jdk_68_method_2_code 2 none ws (⟨1,1,16,20⟩ : Room) #[(.ref sb),(.int 16)] h0 (fun v h L=>v = none∧Fr Z.heap.size L∧Keep h0 h [sb]∧∃ bv kb,h0.size≤bv∧own_SBL Z h sb bv kb []) 1 16:=by
  refine own_bodyA (ef:=fun m=>mkF m 0 #[.val (.ref sb),.val (.int (16:Int32))] []) (plainFor_of_name own_pn10) ?_
  intro p e s m below meth c T0 hx hZ hby hml hown hnm hret hlk X0 e0
  have N0:=Fr.nil Z.heap.size
  have z0 : Z.heap.size≤h0.size:=O0.2.1
  have Kr:=Keep.refl h0 [sb]
  show gH (T0.setTop (mkF m 0 #[vr sb,vi 16] [])) ..
  have lta:=oL Ea.lt
  refine oS (fun _=>XS.aloadN X0.here hx rfl (dE hby D10 0 rfl) rfl rfl) ?_
  obtain ⟨T1,X1,e1,st1⟩:=initO X0 hx hZ hown (oW hw 26 rfl) (oW hw 12 rfl) (oW hw 13 rfl) e0 (g:=(mkF m 1 #[vr sb,vi 16] [(.ref sb)])) rfl (by rw [hml]; rfl) rfl (dE hby D10 1 rfl) (by decide) (W:=0) (by show 2 * 0+_≤_; exact Nat.le_of_eq rfl) (by decide)
  refine oS st1 ?_
  obtain ⟨T2,X2,e2,st2⟩:=getS2 X1 hx hZ hown (host:="") (Or.inl (oW hw 27 rfl)) Via.refl e1 (Sta.ext O0.2 S1) (g:=(mkF m 4 #[vr sb,vi 16] [])) rfl (dE hby D10 2 rfl)
  refine oS st2 ?_
  show gH (T2.setTop (mkF m 7 #[vr sb,vi 16] [(.int w1)])) ..
  refine oS (fun _=>XS.ifNo X2.here hx rfl (dE hby D10 3 rfl) rfl ((if0 _ _).trans (feq hw1).1)) ?_
  refine oS (fun _=>XS.aloadN X2.here hx rfl (dE hby D10 4 rfl) rfl rfl) ?_
  refine oS (fun _=>XS.iloadN X2.here hx rfl (dE hby D10 5 rfl) rfl) ?_
  obtain ⟨T3,h3,k3,X3,e3,E3,A3,st3⟩:=newP X2 hx hZ (oW hw 3 rfl) e2 (g:=(mkF m 12 #[vr sb,vi 16] [(.int 16),(.ref sb)])) rfl (dE hby D10 6 rfl) rfl (by decide) (cap:=16) (by decide) (by decide) (by decide) (by decide)
  obtain ⟨b3,g3⟩ : ∃ z,z = h0.size:=⟨_,rfl⟩
  rw [← g3] at A3 st3
  refine oS st3 ?_
  have z4:=E3.1
  have O5:=Old.ext O0 E3
  have K6:=Kr.ext E3
  have V3 : Arv Z h3 b3 k3 .byte (16:Int32) [] (.int 0):=Arv.new A3 (by decide)
  have lt3:=oL A3.lt
  have q7:=(Ea.ext E3)
  have q8:=(F1.ext E3)
  obtain ⟨T9,h9,X9,e9,W9,st9⟩:=putF X3 hx hZ hown (host:="") (Or.inl (oW hw 29 rfl)) Via.refl e3 q8 q7 (Or.inl (oW hw 30 rfl)) (oW hw 15 rfl) (ty:=(.array .byte)) (by decide) rfl rfl (g:=(mkF m 14 #[vr sb,vi 16] [(.ref b3),(.ref sb)])) rfl rfl (dE hby D10 7 rfl)
  refine oS st9 ?_
  have z10:=W9.size
  have O11:=Old.wr O5 W9 (by omega)
  have K12:=K6.wr W9 (Or.inl (by simp))
  have N9:=Fr.snoc X9 N0 (by omega : Z.heap.size≤sb)
  have Fw9:=q8.same W9
  show gH (T9.setTop (mkF m 17 #[vr sb,vi 16] [])) ..
  refine oS (fun _=>XS.aloadN X9.here hx rfl (dE hby D10 8 rfl) rfl rfl) ?_
  refine oS (fun _=>XS.iconst X9.here hx rfl (dE hby D10 9 rfl)) ?_
  have q13:=(q7.wr W9)
  have q14:=((F2.ext E3).other W9 (Or.inr (slot_ne (Or.inl (oW hw 32 rfl)) (Or.inl (oW hw 30 rfl)) (by decide) (t:=.byte) (t':=(.array .byte)) (by decide) (by decide))))
  obtain ⟨T15,h15,X15,e15,W15,st15⟩:=putFN X9 hx hZ hown (oW hw 31 rfl) Via.refl e9 q14 q13 (Or.inl (oW hw 32 rfl)) (oW hw 15 rfl) (ty:=.byte) (v':=(.int (nar .byte (0:Int32)))) (by decide) rfl (fits_nar_byte _) (g:=(mkF m 19 #[vr sb,vi 16] [(.int 0),(.ref sb)])) rfl rfl (dE hby D10 10 rfl)
  refine oS st15 ?_
  have z16:=W15.size
  have O17:=Old.wr O11 W15 (by omega)
  have K18:=K12.wr W15 (Or.inl (by simp))
  have N15:=Fr.snoc X15 N9 (by omega : Z.heap.size≤sb)
  have Fw15:=q14.same W15
  show gH (T15.setTop (mkF m 22 #[vr sb,vi 16] [])) ..
  refine oS (fun _=>XS.goto X15.here hx rfl (pc0:=22) (pc':=38) rfl (dE hby D10 11 rfl) (by decide) (by decide)) ?_
  show gH (T15.setTop (mkF m 38 #[vr sb,vi 16] [])) ..
  have q19:=(q13.wr W15)
  have q20:=(((F3.ext E3).other W9 (Or.inr (slot_ne (Or.inl (oW hw 70 rfl)) (Or.inl (oW hw 30 rfl)) (by decide) (t:=.int) (t':=(.array .byte)) (by decide) (by decide)))).other W15 (Or.inr (slot_ne (Or.inl (oW hw 70 rfl)) (Or.inl (oW hw 32 rfl)) (by decide) (t:=.int) (t':=.byte) (by decide) (by decide))))
  have q21:=(Fw9.other W15 (Or.inr (slot_ne (Or.inl (oW hw 30 rfl)) (Or.inl (oW hw 32 rfl)) (by decide) (t:=(.array .byte)) (t':=.byte) (by decide) (by decide))))
  have q22:=(((F4.ext E3).other W9 (Or.inr (slot_ne (Or.inl (oW hw 314 rfl)) (Or.inl (oW hw 30 rfl)) (by decide) (t:=.boolean) (t':=(.array .byte)) (by decide) (by decide)))).other W15 (Or.inr (slot_ne (Or.inl (oW hw 314 rfl)) (Or.inl (oW hw 32 rfl)) (by decide) (t:=.boolean) (t':=.byte) (by decide) (by decide))))
  have q23:=((V3.other W9 (show @Ne Nat b3 sb by omega)).other W15 (show @Ne Nat b3 sb by omega))
  exact own_ret0 X15 hx hret hlk (dE hby D10 12 rfl) (by rw [e15]; exact ⟨rfl,N15,K18,b3,k3,by omega,⟨q19,Fw15,q20,q21,q22⟩,q23⟩) (by decide) (by decide)
theorem own_pn11 : plainName "java/lang/StringBuilder" = true:=by first | (simp [plainName,overriddenIn]; done) | decide +kernel
def L11 : List (Nat × Instr × Nat):=[(0,.aload_n 0,1),(1,.bipush 16,2),(3,.invokespecial 1,3),(6,.return_,1)]
theorem D11 : ∀ q∈L11,decode jdk_67_method_1_code q.1 = .ok q.2:=by decide +kernel
theorem own_pd12 : parseMethodDescriptor "(I)V" = some ⟨[.int],none⟩:=by decide +kernel
theorem own_sbI (l:Launch) (Z:State) (a0:Array Value) (hw:∀ d∈tables_1,d.before a0 Z = true) (ws:List Jvm.Cond) (sb:Addr) (w1:Int32) (h0:Heap) (O0:Old Z Z.heap.size h0) (S1:Sta Z Z.heap "java/lang/String" "COMPACT_STRINGS" "Z" (.int w1)) (hw1:¬ (w1 = (0:Int32))) (ga:Z.heap.size≤sb) (Ea:Exa Z h0 sb "java/lang/StringBuilder") (F1:Fld Z h0 sb "java/lang/AbstractStringBuilder" "value" "[B" .null) (F2:Fld Z h0 sb "java/lang/AbstractStringBuilder" "coder" "B" (.int 0)) (F3:Fld Z h0 sb "java/lang/AbstractStringBuilder" "count" "I" (.int 0)) (F4:Fld Z h0 sb "java/lang/AbstractStringBuilder" "maybeLatin1" "Z" (.int 0)) :
    own_Met l Z (⟨"java/lang/StringBuilder","<init>","()V"⟩ : MethodName) jdk_67_method_1_code 1 none ws (⟨2,1,16,40⟩ : Room) #[(.ref sb)] h0 (fun v h L=>v = none∧Fr Z.heap.size L∧Keep h0 h [sb]∧∃ bv kb,h0.size≤bv∧own_SBL Z h sb bv kb []) 1 16:=by
  refine own_bodyA (ef:=fun m=>mkF m 0 #[.val (.ref sb)] []) (plainFor_of_name own_pn11) ?_
  intro p e s m below meth c T0 hx hZ hby hml hown hnm hret hlk X0 e0
  have N0:=Fr.nil Z.heap.size
  have z0 : Z.heap.size≤h0.size:=O0.2.1
  have Kr:=Keep.refl h0 [sb]
  show gH (T0.setTop (mkF m 0 #[vr sb] [])) ..
  have lta:=oL Ea.lt
  refine oS (fun _=>XS.aloadN X0.here hx rfl (dE hby D11 0 rfl) rfl rfl) ?_
  refine oS (fun _=>XS.bipush X0.here hx rfl (dE hby D11 1 rfl)) ?_
  obtain ⟨_,T1,L1,X1,⟨rfl,N1q,K1_,Q_⟩,st1⟩:=own_cI X0 hx hZ hown (own_asbI l Z a0 hw [] sb w1 h0 O0 S1 hw1 ga Ea F1 F2 F3 F4) (oW hw 20 rfl) (oW hw 21 rfl) (a:=sb) rfl rfl (oW hw 24 rfl) (oW hw 25 rfl) (W:=0) (g:=(mkF m 3 #[vr sb] [(.int 16),(.ref sb)])) rfl (by rw [hml]; rfl) (argsL:=[(.int 16)]) (rest:=[]) (lenOf own_pd12 rfl) rfl (dE hby D11 2 rfl) rfl e0 (by decide) (by decide)
  have N1:=Fr.app N0 N1q
  refine oS st1 ?_
  have z2:=K1_.1
  have O3:=Old.keep O0 K1_ (allS (by omega) all0)
  have K4:=Kr.trans K1_ (allS (Or.inl (by simp)) all0)
  show gH (T1.setTop (mkF m 6 #[vr sb] [])) ..
  exact own_ret0 X1 hx hret hlk (dE hby D11 3 rfl) ⟨rfl,N1,K4,Q_⟩ (by decide) (by decide)
theorem own_pn13 : plainName "com/example/sluse/sluse/TextExposition" = true:=by first | (simp [plainName,overriddenIn]; done) | decide +kernel
def L12 : List (Nat × Instr × Nat):=[(0,.aload_n 0,1),(1,.invokespecial 1,3),(4,.aload_n 0,1),(5,.new 7,3),(8,.dup,1),(9,.invokespecial 9,3),(12,.putfield 10,3),(15,.return_,1)]
theorem D12 : ∀ q∈L12,decode prog_24_method_1_code q.1 = .ok q.2:=by decide +kernel
theorem own_pd14 : parseMethodDescriptor "()V" = some ⟨[],none⟩:=by decide +kernel
theorem own_teI (l:Launch) (Z:State) (a0:Array Value) (hw:∀ d∈tables_1,d.before a0 Z = true) (ws:List Jvm.Cond) (te:Addr) (w1:Int32) (h0:Heap) (O0:Old Z Z.heap.size h0) (S1:Sta Z Z.heap "java/lang/String" "COMPACT_STRINGS" "Z" (.int w1)) (hw1:¬ (w1 = (0:Int32))) (ga:Z.heap.size≤te) (Ea:Exa Z h0 te "com/example/sluse/sluse/TextExposition") (F1:Fld Z h0 te "com/example/sluse/sluse/TextExposition" "text" "Ljava/lang/StringBuilder;" .null) :
    own_Met l Z (⟨"com/example/sluse/sluse/TextExposition","<init>","()V"⟩ : MethodName) prog_24_method_1_code 1 none ws (⟨3,2,20,60⟩ : Room) #[(.ref te)] h0 (fun v h L=>v = none∧Fr Z.heap.size L∧Keep h0 h [te]∧∃ sb bv kb,h0.size≤sb∧h0.size≤bv∧@Ne Nat sb bv∧Exa Z h te "com/example/sluse/sluse/TextExposition"∧Fld Z h te "com/example/sluse/sluse/TextExposition" "text" "Ljava/lang/StringBuilder;" (.ref sb)∧own_SBL Z h sb bv kb []) 2 20:=by
  refine own_bodyA (ef:=fun m=>mkF m 0 #[.val (.ref te)] []) (plainFor_of_name own_pn13) ?_
  intro p e s m below meth c T0 hx hZ hby hml hown hnm hret hlk X0 e0
  have N0:=Fr.nil Z.heap.size
  have z0 : Z.heap.size≤h0.size:=O0.2.1
  have Kr:=Keep.refl h0 [te]
  show gH (T0.setTop (mkF m 0 #[vr te] [])) ..
  have lta:=oL Ea.lt
  refine oS (fun _=>XS.aloadN X0.here hx rfl (dE hby D12 0 rfl) rfl rfl) ?_
  obtain ⟨T1,X1,e1,st1⟩:=initO X0 hx hZ hown (oW hw 11 rfl) (oW hw 12 rfl) (oW hw 13 rfl) e0 (g:=(mkF m 1 #[vr te] [(.ref te)])) rfl (by rw [hml]; rfl) rfl (dE hby D12 1 rfl) (by decide) (W:=0) (by show 2 * 0+_≤_; exact Nat.le_of_eq rfl) (by decide)
  refine oS st1 ?_
  show gH (T1.setTop (mkF m 4 #[vr te] [])) ..
  refine oS (fun _=>XS.aloadN X1.here hx rfl (dE hby D12 2 rfl) rfl rfl) ?_
  obtain ⟨T2,h2,X2,e2,E2,A2,D2,-,st2⟩:=newO X1 hx hZ hown (oW hw 14 rfl) (oW hw 15 rfl) (oW hw 16 rfl) e1 (g:=(mkF m 5 #[vr te] [(.ref te)])) rfl (dE hby D12 3 rfl) (by decide) (by decide)
  obtain ⟨b2,g2⟩ : ∃ z,z = h0.size:=⟨_,rfl⟩
  rw [← g2] at A2 D2 st2
  refine oS st2 ?_
  have z3:=E2.1
  have O4:=Old.ext O0 E2
  have K5:=Kr.ext E2
  have F2_value : Fld Z h2 b2 "java/lang/AbstractStringBuilder" "value" "[B" .null:=D2 (Or.inl (oW hw 30 rfl)) (ty:=(.array .byte)) (by decide)
  have F2_coder : Fld Z h2 b2 "java/lang/AbstractStringBuilder" "coder" "B" (.int 0):=D2 (Or.inl (oW hw 32 rfl)) (ty:=.byte) (by decide)
  have F2_count : Fld Z h2 b2 "java/lang/AbstractStringBuilder" "count" "I" (.int 0):=D2 (Or.inl (oW hw 70 rfl)) (ty:=.int) (by decide)
  have F2_maybeLatin1 : Fld Z h2 b2 "java/lang/AbstractStringBuilder" "maybeLatin1" "Z" (.int 0):=D2 (Or.inl (oW hw 314 rfl)) (ty:=.boolean) (by decide)
  have lt2:=oL A2.lt
  show gH (T2.setTop (mkF m 8 #[vr te] [(.ref b2),(.ref te)])) ..
  refine oS (fun _=>XS.dup X2.here hx rfl (dE hby D12 4 rfl) rfl rfl) ?_
  obtain ⟨_,T6,L6,X6,⟨rfl,N6q,K6_,bv,kb,gb,HB⟩,st6⟩:=own_cI X2 hx hZ hown (own_sbI l Z a0 hw [] b2 w1 h2 O4 S1 hw1 (by omega) A2 F2_value F2_coder F2_count F2_maybeLatin1) (oW hw 17 rfl) (oW hw 18 rfl) (a:=b2) rfl rfl (oW hw 16 rfl) (oW hw 19 rfl) (W:=2) (g:=(mkF m 9 #[vr te] [(.ref b2),(.ref b2),(.ref te)])) rfl (by rw [hml]; rfl) (argsL:=[]) (rest:=[(.ref b2),(.ref te)]) (lenOf own_pd14 rfl) rfl (dE hby D12 5 rfl) rfl e2 (by decide) (by decide)
  have N6:=Fr.app N0 N6q
  refine oS st6 ?_
  have z7:=K6_.1
  have O8:=Old.keep O4 K6_ (allS (by omega) all0)
  have K9:=K5.trans K6_ (allS (Or.inr (by omega)) all0)
  have HB2:=HB.2
  have ltbv:=oL HB2.lt
  have HB:=HB.1
  have q10:=((Ea.ext E2).keep K6_)
  have q11:=((F1.ext E2).keep K6_ (ninS (show @Ne Nat te b2 by omega) nin0))
  obtain ⟨T12,h12,X12,e12,W12,st12⟩:=putF X6 hx hZ hown (host:="") (Or.inl (oW hw 33 rfl)) Via.refl rfl q11 q10 (Or.inr ⟨(oW hw 34 rfl),rfl,hnm⟩) (oW hw 6 rfl) (ty:=(.object "java/lang/StringBuilder")) (by decide) rfl rfl (g:=(mkF m 12 #[vr te] [(.ref b2),(.ref te)])) rfl rfl (dE hby D12 6 rfl)
  refine oS st12 ?_
  have z13:=W12.size
  have O14:=Old.wr O8 W12 (by omega)
  have K15:=K9.wr W12 (Or.inl (by simp))
  have N12:=Fr.snoc X12 N6 (by omega : Z.heap.size≤te)
  have Fw12:=q11.same W12
  show gH (T12.setTop (mkF m 15 #[vr te] [])) ..
  have q16:=(q10.wr W12)
  have q17:=(HB.1.wr W12)
  have q18:=(HB.2.1.other W12 (Or.inl (show @Ne Nat b2 te by omega)))
  have q19:=(HB.2.2.1.other W12 (Or.inl (show @Ne Nat b2 te by omega)))
  have q20:=(HB.2.2.2.1.other W12 (Or.inl (show @Ne Nat b2 te by omega)))
  have q21:=(HB.2.2.2.2.other W12 (Or.inl (show @Ne Nat b2 te by omega)))
  have q22:=(HB2.other W12 (show @Ne Nat bv te by omega))
  exact own_ret0 X12 hx hret hlk (dE hby D12 7 rfl) (by rw [e12]; exact ⟨rfl,N12,K15,b2,bv,kb,by omega,by omega,(by omega),q16,Fw12,⟨q17,q18,q19,q20,q21⟩,q22⟩) (by decide) (by decide)
def L13 : List (Nat × Instr × Nat):=[(0,.aload_n 0,1),(1,.getfield 15,3),(4,.areturn,1)]
theorem D13 : ∀ q∈L13,decode jdk_68_method_64_code q.1 = .ok q.2:=by decide +kernel
theorem own_gv (l:Launch) (Z:State) (a0:Array Value) (hw:∀ d∈tables_1,d.before a0 Z = true) (ws:List Jvm.Cond) (sb:Addr) (bv:Addr) (h0:Heap) (O0:Old Z Z.heap.size h0) (Fv:Fld Z h0 sb "java/lang/AbstractStringBuilder" "value" "[B" (.ref bv)) :
    own_Met l Z (⟨"java/lang/AbstractStringBuilder","getValue","()[B"⟩ : MethodName) jdk_68_method_64_code 1 (some (.array .byte)) ws (⟨0,0,0,0⟩ : Room) #[(.ref sb)] h0 (fun v h L=>v = some (.ref bv)∧Fr Z.heap.size L∧h = h0) 0 0:=by
  refine own_bodyA (ef:=fun m=>mkF m 0 #[.val (.ref sb)] []) (plainFor_of_name own_pn10) ?_
  intro p e s m below meth c T0 hx hZ hby hml hown hnm hret hlk X0 e0
  have N0:=Fr.nil Z.heap.size
  show gH (T0.setTop (mkF m 0 #[vr sb] [])) ..
  refine oS (fun _=>XS.aloadN X0.here hx rfl (dE hby D13 0 rfl) rfl rfl) ?_
  obtain ⟨T1,X1,e1,st1⟩:=getF X0 hx hZ hown (host:="") (Or.inl (oW hw 29 rfl)) Via.refl e0 Fv (g:=(mkF m 1 #[vr sb] [(.ref sb)])) rfl rfl (dE hby D13 1 rfl)
  refine oS st1 ?_
  show gH (T1.setTop (mkF m 4 #[vr sb] [(.ref bv)])) ..
  exact own_retA X1 hx hret rfl rfl hlk (dE hby D13 2 rfl) (by rw [e1]; exact ⟨rfl,N0,rfl⟩) (by decide) (by decide)
def L14 : List (Nat × Instr × Nat):=[(0,.aload_n 0,1),(1,.getfield 79,3),(4,.ireturn,1)]
theorem D14 : ∀ q∈L14,decode jdk_68_method_6_code q.1 = .ok q.2:=by decide +kernel
theorem own_alen (l:Launch) (Z:State) (a0:Array Value) (hw:∀ d∈tables_1,d.before a0 Z = true) (ws:List Jvm.Cond) (sb:Addr) (n:Int32) (h0:Heap) (O0:Old Z Z.heap.size h0) (Fn:Fld Z h0 sb "java/lang/AbstractStringBuilder" "count" "I" (.int n)) :
    own_Met l Z (⟨"java/lang/AbstractStringBuilder","length","()I"⟩ : MethodName) jdk_68_method_6_code 1 (some .int) ws (⟨0,0,0,0⟩ : Room) #[(.ref sb)] h0 (fun v h L=>v = some (.int n)∧Fr Z.heap.size L∧h = h0) 0 0:=by
  refine own_bodyA (ef:=fun m=>mkF m 0 #[.val (.ref sb)] []) (plainFor_of_name own_pn10) ?_
  intro p e s m below meth c T0 hx hZ hby hml hown hnm hret hlk X0 e0
  have N0:=Fr.nil Z.heap.size
  show gH (T0.setTop (mkF m 0 #[vr sb] [])) ..
  refine oS (fun _=>XS.aloadN X0.here hx rfl (dE hby D14 0 rfl) rfl rfl) ?_
  obtain ⟨T1,X1,e1,st1⟩:=getF X0 hx hZ hown (host:="") (Or.inl (oW hw 69 rfl)) Via.refl e0 Fn (g:=(mkF m 1 #[vr sb] [(.ref sb)])) rfl rfl (dE hby D14 1 rfl)
  refine oS st1 ?_
  show gH (T1.setTop (mkF m 4 #[vr sb] [(.int n)])) ..
  exact own_retI X1 hx hret hlk (dE hby D14 2 rfl) (by rw [e1]; exact ⟨rfl,N0,rfl⟩) (by decide) (by decide)
def L15 : List (Nat × Instr × Nat):=[(0,.aload_n 0,1),(1,.invokespecial 343,3),(4,.ireturn,1)]
theorem D15 : ∀ q∈L15,decode jdk_67_method_93_code q.1 = .ok q.2:=by decide +kernel
theorem own_pd15 : parseMethodDescriptor "()I" = some ⟨[],some .int⟩:=by decide +kernel
theorem own_slen (l:Launch) (Z:State) (a0:Array Value) (hw:∀ d∈tables_1,d.before a0 Z = true) (ws:List Jvm.Cond) (sb:Addr) (n:Int32) (h0:Heap) (O0:Old Z Z.heap.size h0) (Ea:Exa Z h0 sb "java/lang/StringBuilder") (Fn:Fld Z h0 sb "java/lang/AbstractStringBuilder" "count" "I" (.int n)) :
    own_Met l Z (⟨"java/lang/StringBuilder","length","()I"⟩ : MethodName) jdk_67_method_93_code 1 (some .int) ws (⟨1,0,0,14⟩ : Room) #[(.ref sb)] h0 (fun v h L=>v = some (.int n)∧Fr Z.heap.size L∧h = h0) 0 0:=by
  refine own_bodyA (ef:=fun m=>mkF m 0 #[.val (.ref sb)] []) (plainFor_of_name own_pn11) ?_
  intro p e s m below meth c T0 hx hZ hby hml hown hnm hret hlk X0 e0
  have N0:=Fr.nil Z.heap.size
  show gH (T0.setTop (mkF m 0 #[vr sb] [])) ..
  refine oS (fun _=>XS.aloadN X0.here hx rfl (dE hby D15 0 rfl) rfl rfl) ?_
  obtain ⟨_,T1,L1,X1,⟨rfl,N1q,eh1⟩,st1⟩:=own_cU X0 hx hZ hown (own_alen l Z a0 hw [] sb n h0 O0 Fn) (oW hw 66 rfl) (oW hw 62 rfl) (own_sameM (own_clsP (y:=(⟨"java/lang/AbstractStringBuilder","getValue","()[B"⟩ : MethodName)) (oW hw 58 rfl)) (oW hw 62 rfl) (by decide)) (oW hw 67 rfl) (by decide) Ea (oW hw 24 rfl) (oW hw 68 rfl) (W:=0) (g:=(mkF m 1 #[vr sb] [(.ref sb)])) rfl (by rw [hml]; rfl) (argsL:=[]) (rest:=[]) (lenOf own_pd15 rfl) rfl (dE hby D15 1 rfl) rfl e0 (by decide) (by decide)
  have N1:=Fr.app N0 N1q
  refine oS st1 ?_
  show gH (T1.setTop (mkF m 4 #[vr sb] [(.int n)])) ..
  exact own_retI X1 hx hret hlk (dE hby D15 2 rfl) (by rw [eh1]; exact ⟨rfl,N1,rfl⟩) (by decide) (by decide)
def L16 : List (Nat × Instr × Nat):=[(0,.getstatic 18,3),(3,.ifCond .eq 14,3),(6,.aload_n 0,1),(7,.getfield 22,3),(10,.ifCond .ne 7,3),(13,.iconst 1,1),(14,.goto 4,3),(18,.ireturn,1),(17,.iconst 0,1)]
theorem D16 : ∀ q∈L16,decode jdk_68_method_68_code q.1 = .ok q.2:=by decide +kernel
theorem own_isl0 (l:Launch) (Z:State) (a0:Array Value) (hw:∀ d∈tables_1,d.before a0 Z = true) (ws:List Jvm.Cond) (sb:Addr) (w1:Int32) (h0:Heap) (O0:Old Z Z.heap.size h0) (S1:Sta Z Z.heap "java/lang/String" "COMPACT_STRINGS" "Z" (.int w1)) (hw1:¬ (w1 = (0:Int32))) (Fc:Fld Z h0 sb "java/lang/AbstractStringBuilder" "coder" "B" (.int 0)) :
    own_Met l Z (⟨"java/lang/AbstractStringBuilder","isLatin1","()Z"⟩ : MethodName) jdk_68_method_68_code 1 (some .boolean) ws (⟨0,0,0,0⟩ : Room) #[(.ref sb)] h0 (fun v h L=>v = some (.int 1)∧Fr Z.heap.size L∧h = h0) 0 0:=by
  refine own_bodyA (ef:=fun m=>mkF m 0 #[.val (.ref sb)] []) (plainFor_of_name own_pn10) ?_
  intro p e s m below meth c T0 hx hZ hby hml hown hnm hret hlk X0 e0
  have N0:=Fr.nil Z.heap.size
  obtain ⟨T1,X1,e1,st1⟩:=getS2 X0 hx hZ hown (host:="") (Or.inl (oW hw 27 rfl)) Via.refl e0 (Sta.ext O0.2 S1) (g:=(mkF m 0 #[vr sb] [])) rfl (dE hby D16 0 rfl)
  refine oS st1 ?_
  show gH (T1.setTop (mkF m 3 #[vr sb] [(.int w1)])) ..
  refine oS (fun _=>XS.ifNo X1.here hx rfl (dE hby D16 1 rfl) rfl ((if0 _ _).trans (feq hw1).1)) ?_
  refine oS (fun _=>XS.aloadN X1.here hx rfl (dE hby D16 2 rfl) rfl rfl) ?_
  obtain ⟨T2,X2,e2,st2⟩:=getF X1 hx hZ hown (host:="") (Or.inl (oW hw 31 rfl)) Via.refl e1 Fc (g:=(mkF m 7 #[vr sb] [(.ref sb)])) rfl rfl (dE hby D16 3 rfl)
  refine oS st2 ?_
  show gH (T2.setTop (mkF m 10 #[vr sb] [(.int 0)])) ..
  refine oS (fun _=>XS.ifNo X2.here hx rfl (dE hby D16 4 rfl) rfl ((if0 _ _).trans (teq rfl).2)) ?_
  refine oS (fun _=>XS.iconst X2.here hx rfl (dE hby D16 5 rfl)) ?_
  refine oS (fun _=>XS.goto X2.here hx rfl (pc0:=14) (pc':=18) rfl (dE hby D16 6 rfl) (by decide) (by decide)) ?_
  show gH (T2.setTop (mkF m 18 #[vr sb] [(.int 1)])) ..
  exact own_retN X2 hx hret hlk (by simp) (dE hby D16 7 rfl) (by rw [e2]; exact ⟨rfl,N0,rfl⟩) (by decide) (by decide)
theorem own_isl1 (l:Launch) (Z:State) (a0:Array Value) (hw:∀ d∈tables_1,d.before a0 Z = true) (ws:List Jvm.Cond) (sb:Addr) (w1:Int32) (h0:Heap) (O0:Old Z Z.heap.size h0) (S1:Sta Z Z.heap "java/lang/String" "COMPACT_STRINGS" "Z" (.int w1)) (hw1:¬ (w1 = (0:Int32))) (Fc:Fld Z h0 sb "java/lang/AbstractStringBuilder" "coder" "B" (.int 1)) :
    own_Met l Z (⟨"java/lang/AbstractStringBuilder","isLatin1","()Z"⟩ : MethodName) jdk_68_method_68_code 1 (some .boolean) ws (⟨0,0,0,0⟩ : Room) #[(.ref sb)] h0 (fun v h L=>v = some (.int 0)∧Fr Z.heap.size L∧h = h0) 0 0:=by
  refine own_bodyA (ef:=fun m=>mkF m 0 #[.val (.ref sb)] []) (plainFor_of_name own_pn10) ?_
  intro p e s m below meth c T0 hx hZ hby hml hown hnm hret hlk X0 e0
  have N0:=Fr.nil Z.heap.size
  obtain ⟨T1,X1,e1,st1⟩:=getS2 X0 hx hZ hown (host:="") (Or.inl (oW hw 27 rfl)) Via.refl e0 (Sta.ext O0.2 S1) (g:=(mkF m 0 #[vr sb] [])) rfl (dE hby D16 0 rfl)
  refine oS st1 ?_
  show gH (T1.setTop (mkF m 3 #[vr sb] [(.int w1)])) ..
  refine oS (fun _=>XS.ifNo X1.here hx rfl (dE hby D16 1 rfl) rfl ((if0 _ _).trans (feq hw1).1)) ?_
  refine oS (fun _=>XS.aloadN X1.here hx rfl (dE hby D16 2 rfl) rfl rfl) ?_
  obtain ⟨T2,X2,e2,st2⟩:=getF X1 hx hZ hown (host:="") (Or.inl (oW hw 31 rfl)) Via.refl e1 Fc (g:=(mkF m 7 #[vr sb] [(.ref sb)])) rfl rfl (dE hby D16 3 rfl)
  refine oS st2 ?_
  show gH (T2.setTop (mkF m 10 #[vr sb] [(.int 1)])) ..
  refine oS (fun _=>XS.ifYes X2.here hx rfl (pc0:=10) (pc':=17) rfl (dE hby D16 4 rfl) rfl ((if0 _ _).trans (feq (by decide)).2) (by decide) (by decide)) ?_
  refine oS (fun _=>XS.iconst X2.here hx rfl (dE hby D16 8 rfl)) ?_
  show gH (T2.setTop (mkF m 18 #[vr sb] [(.int 0)])) ..
  exact own_retN X2 hx hret hlk (by simp) (dE hby D16 7 rfl) (by rw [e2]; exact ⟨rfl,N0,rfl⟩) (by decide) (by decide)
theorem own_pn16 : plainName "java/util/Arrays" = true:=by first | (simp [plainName,overriddenIn]; done) | decide +kernel
def L17 : List (Nat × Instr × Nat):=[(0,.iload_n 1,1),(1,.iload_n 0,1),(2,.if_icmp .ge 35,3),(37,.return_,1)]
theorem D17 : ∀ q∈L17,decode jdk_65_method_131_code q.1 = .ok q.2:=by decide +kernel
theorem own_ckl (l:Launch) (Z:State) (a0:Array Value) (hw:∀ d∈tables_1,d.before a0 Z = true) (ws:List Jvm.Cond)  (n:Nat) (h0:Heap) (O0:Old Z Z.heap.size h0) (hn:n≤1000) :
    own_Met l Z (⟨"java/util/Arrays","checkLength","(II)V"⟩ : MethodName) jdk_65_method_131_code 2 none ws (⟨0,0,0,0⟩ : Room) #[(.int 0),(.int (.ofNat n))] h0 (fun v h L=>v = none∧Fr Z.heap.size L∧h = h0) 0 0:=by
  refine own_bodyA (ef:=fun m=>mkF m 0 #[.val (.int (0:Int32)),.val (.int (Int32.ofNat n))] []) (plainFor_of_name own_pn16) ?_
  intro p e s m below meth c T0 hx hZ hby hml hown hnm hret hlk X0 e0
  have N0:=Fr.nil Z.heap.size
  have z0 : Z.heap.size≤h0.size:=O0.2.1
  show gH (T0.setTop (mkF m 0 #[vi 0,vi (.ofNat n)] [])) ..
  refine oS (fun _=>XS.iloadN X0.here hx rfl (dE hby D17 0 rfl) rfl) ?_
  refine oS (fun _=>XS.iloadN X0.here hx rfl (dE hby D17 1 rfl) rfl) ?_
  refine oS (fun _=>XS.icmpYes X0.here hx rfl (pc0:=2) (pc':=37) rfl (dE hby D17 2 rfl) rfl (flt (oN (by omega))).2.1 (by decide) (by decide)) ?_
  show gH (T0.setTop (mkF m 37 #[vi 0,vi (.ofNat n)] [])) ..
  exact own_ret0 X0 hx hret hlk (dE hby D17 3 rfl) (by rw [e0]; exact ⟨rfl,N0,rfl⟩) (by decide) (by decide)
theorem own_pn17 : plainFor (⟨"java/lang/Math","min","(II)I"⟩ : MethodName) = true:=by decide +kernel
def L18 : List (Nat × Instr × Nat):=[(0,.iload_n 0,1),(1,.iload_n 1,1),(2,.if_icmp .gt 7,3),(9,.iload_n 1,1),(10,.ireturn,1),(5,.iload_n 0,1),(6,.goto 4,3)]
theorem D18 : ∀ q∈L18,decode jdk_29_method_69_code q.1 = .ok q.2:=by decide +kernel
theorem own_min (l:Launch) (Z:State) (a0:Array Value) (hw:∀ d∈tables_1,d.before a0 Z = true) (ws:List Jvm.Cond)  (a b : Nat) (h0:Heap) (O0:Old Z Z.heap.size h0) (hba:b≤a) (ha:a≤1000) :
    own_Met l Z (⟨"java/lang/Math","min","(II)I"⟩ : MethodName) jdk_29_method_69_code 2 (some .int) ws (⟨0,0,0,0⟩ : Room) #[(.int (.ofNat a)),(.int (.ofNat b))] h0 (fun v h L=>v = some (.int (.ofNat b))∧Fr Z.heap.size L∧h = h0) 0 0:=by
  refine own_bodyA (ef:=fun m=>mkF m 0 #[.val (.int (Int32.ofNat a)),.val (.int (Int32.ofNat b))] []) own_pn17 ?_
  intro p e s m below meth c T0 hx hZ hby hml hown hnm hret hlk X0 e0
  have N0:=Fr.nil Z.heap.size
  have z0 : Z.heap.size≤h0.size:=O0.2.1
  show gH (T0.setTop (mkF m 0 #[vi (.ofNat a),vi (.ofNat b)] [])) ..
  refine oS (fun _=>XS.iloadN X0.here hx rfl (dE hby D18 0 rfl) rfl) ?_
  refine oS (fun _=>XS.iloadN X0.here hx rfl (dE hby D18 1 rfl) rfl) ?_
  show gH (T0.setTop (mkF m 2 #[vi (.ofNat a),vi (.ofNat b)] [(.int (.ofNat b)),(.int (.ofNat a))])) ..
  by_cases hab : b < a
  · skip
    refine oS (fun _=>XS.icmpYes X0.here hx rfl (pc0:=2) (pc':=9) rfl (dE hby D18 2 rfl) rfl (tlt (own_lt hab (by omega))).2.2.1 (by decide) (by decide)) ?_
    refine oS (fun _=>XS.iloadN X0.here hx rfl (dE hby D18 3 rfl) rfl) ?_
    show gH (T0.setTop (mkF m 10 #[vi (.ofNat a),vi (.ofNat b)] [(.int (.ofNat b))])) ..
    exact own_retI X0 hx hret hlk (dE hby D18 4 rfl) (by rw [e0]; exact ⟨rfl,N0,rfl⟩) (by decide) (by decide)
  · skip
    refine oS (fun _=>XS.icmpNo X0.here hx rfl (dE hby D18 2 rfl) rfl (flt (own_nlt2 (by omega) (by omega))).2.2.1) ?_
    refine oS (fun _=>XS.iloadN X0.here hx rfl (dE hby D18 5 rfl) rfl) ?_
    refine oS (fun _=>XS.goto X0.here hx rfl (pc0:=6) (pc':=10) rfl (dE hby D18 6 rfl) (by decide) (by decide)) ?_
    show gH (T0.setTop (mkF m 10 #[vi (.ofNat a),vi (.ofNat b)] [(.int (.ofNat a))])) ..
    exact own_retI X0 hx hret hlk (dE hby D18 4 rfl) (by rw [e0]; exact ⟨by rw [show a = b by omega],N0,rfl⟩) (by decide) (by decide)
def L19 : List (Nat × Instr × Nat):=[(0,.iload_n 1,1),(1,.iload_n 2,1),(2,.invokestatic 343,3),(5,.iload_n 2,1),(6,.iload_n 1,1),(7,.isub,1),(8,.istore_n 3,1),(9,.iload_n 3,1),(10,.newarray .byte,2),(12,.astore 4,2),(14,.aload_n 0,1),(15,.iload_n 1,1),(16,.aload 4,2),(18,.iconst 0,1),(19,.aload_n 0,1),(20,.arraylength,1),(21,.iload_n 1,1),(22,.isub,1),(23,.iload_n 3,1),(24,.invokestatic 304,3),(27,.invokestatic 150,3),(30,.aload 4,2),(32,.areturn,1)]
theorem D19 : ∀ q∈L19,decode jdk_65_method_133_code q.1 = .ok q.2:=by decide +kernel
theorem own_pd18 : parseMethodDescriptor "(II)V" = some ⟨[.int,.int],none⟩:=by decide +kernel
theorem own_pd19 : parseMethodDescriptor "(II)I" = some ⟨[.int,.int],some .int⟩:=by decide +kernel
theorem own_crb (l:Launch) (Z:State) (a0:Array Value) (hw:∀ d∈tables_1,d.before a0 Z = true) (ws:List Jvm.Cond) (a1:Addr) (N n : Nat) (vs:List Value) (ka:ClassId) (h0:Heap) (O0:Old Z Z.heap.size h0) (hn:n≤12) (hnN:n < N) (hN:N≤100) (hl:vs.length = n) (Va:Arv Z h0 a1 ka .byte (Int32.ofNat N) vs (.int 0)) :
    own_Met l Z (⟨"java/util/Arrays","copyOfRangeByte","([BII)[B"⟩ : MethodName) jdk_65_method_133_code 5 (some (.array .byte)) ws (⟨2,1,12,40⟩ : Room) #[(.ref a1),(.int 0),(.int (.ofNat n))] h0 (fun v h L=>∃ b kb,v = some (.ref b)∧Fr Z.heap.size L∧Keep h0 h []∧h0.size≤b∧Exa Z h b "[B"∧Arv Z h b kb .byte (Int32.ofNat n) vs (.int 0)) 1 12:=by
  refine own_bodyA (ef:=fun m=>mkF m 0 #[.val (.ref a1),.val (.int (0:Int32)),.val (.int (Int32.ofNat n)),.unset,.unset] []) (plainFor_of_name own_pn16) ?_
  intro p e s m below meth c T0 hx hZ hby hml hown hnm hret hlk X0 e0
  have N0:=Fr.nil Z.heap.size
  have z0 : Z.heap.size≤h0.size:=O0.2.1
  have Kr:=Keep.refl h0 []
  show gH (T0.setTop (mkF m 0 #[vr a1,vi 0,vi (.ofNat n),.unset,.unset] [])) ..
  have lta:=oL Va.lt
  refine oS (fun _=>XS.iloadN X0.here hx rfl (dE hby D19 0 rfl) rfl) ?_
  refine oS (fun _=>XS.iloadN X0.here hx rfl (dE hby D19 1 rfl) rfl) ?_
  obtain ⟨_,T1,L1,X1,⟨rfl,N1q,eh1⟩,st1⟩:=own_cS X0 hx hZ hown (own_ckl l Z a0 hw [] n h0 O0 (by omega)) (oW hw 85 rfl) (oW hw 86 rfl) (oW hw 80 rfl) (oW hw 87 rfl) (W:=0) (g:=(mkF m 2 #[vr a1,vi 0,vi (.ofNat n),.unset,.unset] [(.int (.ofNat n)),(.int 0)])) rfl (by rw [hml]; rfl) (argsL:=[(.int 0),(.int (.ofNat n))]) (rest:=[]) (lenOf own_pd18 rfl) rfl (dE hby D19 2 rfl) rfl e0 (by decide) (by decide)
  have N1:=Fr.app N0 N1q
  refine oS st1 ?_
  show gH (T1.setTop (mkF m 5 #[vr a1,vi 0,vi (.ofNat n),.unset,.unset] [])) ..
  refine oS (fun _=>XS.iloadN X1.here hx rfl (dE hby D19 3 rfl) rfl) ?_
  refine oS (fun _=>XS.iloadN X1.here hx rfl (dE hby D19 4 rfl) rfl) ?_
  refine oS (fun _=>XS.isub X1.here hx rfl (dE hby D19 5 rfl) rfl) ?_
  show gH (T1.setTop (mkF m 8 #[vr a1,vi 0,vi (.ofNat n),.unset,.unset] [(.int ((Int32.ofNat n) - (0:Int32)))])) ..
  rw [own_sub0]
  show gH (T1.setTop (mkF m 8 #[vr a1,vi 0,vi (.ofNat n),.unset,.unset] [(.int (.ofNat n))])) ..
  refine oS (fun _=>XS.istoreN X1.here hx rfl (dE hby D19 6 rfl) rfl (l':=#[vr a1,vi 0,vi (.ofNat n),vi (.ofNat n),.unset]) rfl) ?_
  refine oS (fun _=>XS.iloadN X1.here hx rfl (dE hby D19 7 rfl) rfl) ?_
  obtain ⟨T2,h2,k2,X2,e2,E2,A2,Ex2,st2⟩:=newPE X1 hx hZ (oW hw 3 rfl) eh1 (g:=(mkF m 10 #[vr a1,vi 0,vi (.ofNat n),vi (.ofNat n),.unset] [(.int (.ofNat n))])) rfl (dE hby D19 8 rfl) rfl (oN (by omega)) (cap:=12) (by rw [oC (by omega)]; omega) (by decide) (by decide) (by decide) (ad:="[B") (by decide)
  obtain ⟨b2,g2⟩ : ∃ z,z = h0.size:=⟨_,rfl⟩
  rw [← g2] at A2 Ex2 st2
  refine oS st2 ?_
  have z3:=E2.1
  have O4:=Old.ext O0 E2
  have K5:=Kr.ext E2
  have V2 : Arv Z h2 b2 k2 .byte (Int32.ofNat n) [] (.int 0):=Arv.new A2 (oN (by omega))
  have lt2:=oL A2.lt
  show gH (T2.setTop (mkF m 12 #[vr a1,vi 0,vi (.ofNat n),vi (.ofNat n),.unset] [(.ref b2)])) ..
  refine oS (fun _=>XS.astore X2.here hx rfl (dE hby D19 9 rfl) rfl rfl (l':=#[vr a1,vi 0,vi (.ofNat n),vi (.ofNat n),vr b2]) rfl) ?_
  refine oS (fun _=>XS.aloadN X2.here hx rfl (dE hby D19 10 rfl) rfl rfl) ?_
  refine oS (fun _=>XS.iloadN X2.here hx rfl (dE hby D19 11 rfl) rfl) ?_
  refine oS (fun _=>XS.aload X2.here hx rfl (dE hby D19 12 rfl) rfl rfl) ?_
  refine oS (fun _=>XS.iconst X2.here hx rfl (dE hby D19 13 rfl)) ?_
  refine oS (fun _=>XS.aloadN X2.here hx rfl (dE hby D19 14 rfl) rfl rfl) ?_
  show gH (T2.setTop (mkF m 20 #[vr a1,vi 0,vi (.ofNat n),vi (.ofNat n),vr b2] [(.ref a1),(.int 0),(.ref b2),(.int 0),(.ref a1)])) ..
  have q6:=(Va.ext E2)
  obtain ⟨cl7,Ar7,qk7,Sz7,Mz7,Hz7,Uz7⟩:=id q6
  refine oS (X2.arraylength hx (by rw [e2]; exact Ar7.1) (State.isArrayOf_alike hZ.alike Ar7.2.1) (g:=(mkF m 20 #[vr a1,vi 0,vi (.ofNat n),vi (.ofNat n),vr b2] [(.ref a1),(.int 0),(.ref b2),(.int 0),(.ref a1)])) rfl rfl (dE hby D19 15 rfl)) ?_
  rw [len_of Sz7 Mz7]
  show gH (T2.setTop (mkF m 21 #[vr a1,vi 0,vi (.ofNat n),vi (.ofNat n),vr b2] [(.int (.ofNat N)),(.int 0),(.ref b2),(.int 0),(.ref a1)])) ..
  refine oS (fun _=>XS.iloadN X2.here hx rfl (dE hby D19 16 rfl) rfl) ?_
  refine oS (fun _=>XS.isub X2.here hx rfl (dE hby D19 17 rfl) rfl) ?_
  show gH (T2.setTop (mkF m 23 #[vr a1,vi 0,vi (.ofNat n),vi (.ofNat n),vr b2] [(.int ((Int32.ofNat N) - (0:Int32))),(.int 0),(.ref b2),(.int 0),(.ref a1)])) ..
  rw [own_sub0]
  show gH (T2.setTop (mkF m 23 #[vr a1,vi 0,vi (.ofNat n),vi (.ofNat n),vr b2] [(.int (.ofNat N)),(.int 0),(.ref b2),(.int 0),(.ref a1)])) ..
  refine oS (fun _=>XS.iloadN X2.here hx rfl (dE hby D19 18 rfl) rfl) ?_
  obtain ⟨_,T8,L8,X8,⟨rfl,N8q,eh8⟩,st8⟩:=own_cS X2 hx hZ hown (own_min l Z a0 hw [] N n h2 O4 (by omega) (by omega)) (oW hw 88 rfl) (oW hw 89 rfl) (oW hw 90 rfl) (oW hw 91 rfl) (W:=4) (g:=(mkF m 24 #[vr a1,vi 0,vi (.ofNat n),vi (.ofNat n),vr b2] [(.int (.ofNat n)),(.int (.ofNat N)),(.int 0),(.ref b2),(.int 0),(.ref a1)])) rfl (by rw [hml]; rfl) (argsL:=[(.int (.ofNat N)),(.int (.ofNat n))]) (rest:=[(.int 0),(.ref b2),(.int 0),(.ref a1)]) (lenOf own_pd19 rfl) rfl (dE hby D19 19 rfl) rfl e2 (by decide) (by decide)
  have N8:=Fr.app N1 N8q
  refine oS st8 ?_
  have Vp9 : Arv Z h2 b2 k2 .byte (Int32.ofNat n) ([]++List.replicate (n) (.int 0)) (.int 0):=V2.pad (pad_rep _ _ (n))
  obtain ⟨T9,h9,L9,X9,e9,N9,K9_,V9,st9⟩:=cpA X8 hx hZ hown (oW hw 92 rfl) (oW hw 95 rfl) (oW hw 93 rfl) (oW hw 94 rfl) eh8 q6 Vp9 (Or.inl ⟨rfl,rfl⟩) (by decide) (by decide) (oN (by omega)) (by rw [oC (by omega)]; first | (show 0+_≤_; omega) | (rw [oC (by omega)]; show 0+_≤_; omega)) (by rw [oC (by omega)]; first | (show 0+_≤_; omega) | (rw [oC (by omega)]; show 0+_≤_; omega)) (us:=(List.range (n)).map fun i=>(vs).getD (0+i) (.int 0)) (by rw [oC (by omega)]; rfl) (by rw [oC (by omega),List.length_append,List.length_replicate]; show 0+_≤_+_; omega) N8 (by omega) (g:=(mkF m 27 #[vr a1,vi 0,vi (.ofNat n),vi (.ofNat n),vr b2] [(.int (.ofNat n)),(.int 0),(.ref b2),(.int 0),(.ref a1)])) rfl (by rw [hml]; rfl) rfl (dE hby D19 20 rfl) (by decide) (W:=0) (by show 2 * 0+_≤_; exact Nat.le_of_eq rfl) (by decide)
  refine oS st9 ?_
  have z10:=K9_.1
  have O11:=Old.keep O4 K9_ (allS (by omega) all0)
  have K12:=K5.trans K9_ (allS (Or.inr (by omega)) all0)
  have V9' : Arv Z h9 b2 k2 .byte (Int32.ofNat n) ([]++vs) (.int 0):=own_acp (d:=0) (k:=n) (by omega) (rfl) (hl) (by have q:=V9; rw [oC (n:=n) (by omega)] at q; exact q)
  show gH (T9.setTop (mkF m 30 #[vr a1,vi 0,vi (.ofNat n),vi (.ofNat n),vr b2] [])) ..
  refine oS (fun _=>XS.aload X9.here hx rfl (dE hby D19 21 rfl) rfl rfl) ?_
  show gH (T9.setTop (mkF m 32 #[vr a1,vi 0,vi (.ofNat n),vi (.ofNat n),vr b2] [(.ref b2)])) ..
  have q13:=(Ex2.keep K9_)
  exact own_retA X9 hx hret rfl rfl hlk (dE hby D19 22 rfl) (by rw [e9]; exact ⟨b2,k2,rfl,N9,K12,by omega,q13,V9'⟩) (by decide) (by decide)
def L20 : List (Nat × Instr × Nat):=[(0,.iload_n 1,1),(1,.ifCond .ne 9,3),(4,.iload_n 2,1),(5,.aload_n 0,1),(6,.arraylength,1),(7,.if_icmp .eq 10,3),(10,.aload_n 0,1),(11,.iload_n 1,1),(12,.iload_n 2,1),(13,.invokestatic 339,3),(16,.areturn,1)]
theorem D20 : ∀ q∈L20,decode jdk_65_method_132_code q.1 = .ok q.2:=by decide +kernel
theorem own_pd20 : parseMethodDescriptor "([BII)[B" = some ⟨[(.array .byte),.int,.int],some (.array .byte)⟩:=by decide +kernel
theorem own_cor (l:Launch) (Z:State) (a0:Array Value) (hw:∀ d∈tables_1,d.before a0 Z = true) (ws:List Jvm.Cond) (a1:Addr) (N n : Nat) (vs:List Value) (ka:ClassId) (h0:Heap) (O0:Old Z Z.heap.size h0) (hn:n≤12) (hnN:n < N) (hN:N≤100) (hl:vs.length = n) (Va:Arv Z h0 a1 ka .byte (Int32.ofNat N) vs (.int 0)) :
    own_Met l Z (⟨"java/util/Arrays","copyOfRange","([BII)[B"⟩ : MethodName) jdk_65_method_132_code 3 (some (.array .byte)) ws (⟨3,1,12,60⟩ : Room) #[(.ref a1),(.int 0),(.int (.ofNat n))] h0 (fun v h L=>∃ b kb,v = some (.ref b)∧Fr Z.heap.size L∧Keep h0 h []∧h0.size≤b∧Exa Z h b "[B"∧Arv Z h b kb .byte (Int32.ofNat n) vs (.int 0)) 1 12:=by
  refine own_bodyA (ef:=fun m=>mkF m 0 #[.val (.ref a1),.val (.int (0:Int32)),.val (.int (Int32.ofNat n))] []) (plainFor_of_name own_pn16) ?_
  intro p e s m below meth c T0 hx hZ hby hml hown hnm hret hlk X0 e0
  have N0:=Fr.nil Z.heap.size
  have z0 : Z.heap.size≤h0.size:=O0.2.1
  have Kr:=Keep.refl h0 []
  show gH (T0.setTop (mkF m 0 #[vr a1,vi 0,vi (.ofNat n)] [])) ..
  refine oS (fun _=>XS.iloadN X0.here hx rfl (dE hby D20 0 rfl) rfl) ?_
  refine oS (fun _=>XS.ifNo X0.here hx rfl (dE hby D20 1 rfl) rfl ((if0 _ _).trans (teq rfl).2)) ?_
  refine oS (fun _=>XS.iloadN X0.here hx rfl (dE hby D20 2 rfl) rfl) ?_
  refine oS (fun _=>XS.aloadN X0.here hx rfl (dE hby D20 3 rfl) rfl rfl) ?_
  show gH (T0.setTop (mkF m 6 #[vr a1,vi 0,vi (.ofNat n)] [(.ref a1),(.int (.ofNat n))])) ..
  obtain ⟨cl1,Ar1,qk1,Sz1,Mz1,Hz1,Uz1⟩:=id Va
  refine oS (X0.arraylength hx (by rw [e0]; exact Ar1.1) (State.isArrayOf_alike hZ.alike Ar1.2.1) (g:=(mkF m 6 #[vr a1,vi 0,vi (.ofNat n)] [(.ref a1),(.int (.ofNat n))])) rfl rfl (dE hby D20 4 rfl)) ?_
  rw [len_of Sz1 Mz1]
  show gH (T0.setTop (mkF m 7 #[vr a1,vi 0,vi (.ofNat n)] [(.int (.ofNat N)),(.int (.ofNat n))])) ..
  refine oS (fun _=>XS.icmpNo X0.here hx rfl (dE hby D20 5 rfl) rfl (feq (own_ne (by omega) (by omega) (by omega))).1) ?_
  refine oS (fun _=>XS.aloadN X0.here hx rfl (dE hby D20 6 rfl) rfl rfl) ?_
  refine oS (fun _=>XS.iloadN X0.here hx rfl (dE hby D20 7 rfl) rfl) ?_
  refine oS (fun _=>XS.iloadN X0.here hx rfl (dE hby D20 8 rfl) rfl) ?_
  obtain ⟨_,T2,L2,X2,⟨b,kb,rfl,N2q,K2_,gb,Eb,Vb⟩,st2⟩:=own_cS X0 hx hZ hown (own_crb l Z a0 hw [] a1 N n vs ka h0 O0 hn hnN hN hl Va) (oW hw 82 rfl) (oW hw 83 rfl) (oW hw 80 rfl) (oW hw 84 rfl) (W:=0) (g:=(mkF m 13 #[vr a1,vi 0,vi (.ofNat n)] [(.int (.ofNat n)),(.int 0),(.ref a1)])) rfl (by rw [hml]; rfl) (argsL:=[(.ref a1),(.int 0),(.int (.ofNat n))]) (rest:=[]) (lenOf own_pd20 rfl) rfl (dE hby D20 9 rfl) rfl e0 (by decide) (by decide)
  have N2:=Fr.app N0 N2q
  refine oS st2 ?_
  have z3:=K2_.1
  have O4:=Old.keep O0 K2_ all0
  have K5:=Kr.trans K2_ all0
  show gH (T2.setTop (mkF m 16 #[vr a1,vi 0,vi (.ofNat n)] [(.ref b)])) ..
  exact own_retA X2 hx hret rfl rfl hlk (dE hby D20 10 rfl) ⟨b,kb,rfl,N2,K5,gb,Eb,Vb⟩ (by decide) (by decide)
def L21 : List (Nat × Instr × Nat):=[(0,.iload_n 1,1),(1,.aload_n 0,1),(2,.arraylength,1),(3,.if_icmp .ne 11,3),(14,.iload_n 1,1),(15,.newarray .byte,2),(17,.astore_n 2,1),(18,.aload_n 0,1),(19,.iconst 0,1),(20,.aload_n 2,1),(21,.iconst 0,1),(22,.aload_n 0,1),(23,.arraylength,1),(24,.iload_n 1,1),(25,.invokestatic 304,3),(28,.invokestatic 150,3),(31,.aload_n 2,1),(32,.areturn,1)]
theorem D21 : ∀ q∈L21,decode jdk_65_method_121_code q.1 = .ok q.2:=by decide +kernel
theorem own_cof (l:Launch) (Z:State) (a0:Array Value) (hw:∀ d∈tables_1,d.before a0 Z = true) (ws:List Jvm.Cond) (a1:Addr) (N n : Nat) (vs:List Value) (ka:ClassId) (h0:Heap) (O0:Old Z Z.heap.size h0) (hn:n≤12) (hnN:n < N) (hN:N≤100) (hl:vs.length = n) (Va:Arv Z h0 a1 ka .byte (Int32.ofNat N) vs (.int 0)) :
    own_Met l Z (⟨"java/util/Arrays","copyOf","([BI)[B"⟩ : MethodName) jdk_65_method_121_code 3 (some (.array .byte)) ws (⟨2,1,12,40⟩ : Room) #[(.ref a1),(.int (.ofNat n))] h0 (fun v h L=>∃ b kb,v = some (.ref b)∧Fr Z.heap.size L∧Keep h0 h []∧h0.size≤b∧Exa Z h b "[B"∧Arv Z h b kb .byte (Int32.ofNat n) vs (.int 0)) 1 12:=by
  refine own_bodyA (ef:=fun m=>mkF m 0 #[.val (.ref a1),.val (.int (Int32.ofNat n)),.unset] []) (plainFor_of_name own_pn16) ?_
  intro p e s m below meth c T0 hx hZ hby hml hown hnm hret hlk X0 e0
  have N0:=Fr.nil Z.heap.size
  have z0 : Z.heap.size≤h0.size:=O0.2.1
  have Kr:=Keep.refl h0 []
  show gH (T0.setTop (mkF m 0 #[vr a1,vi (.ofNat n),.unset] [])) ..
  have lta:=oL Va.lt
  refine oS (fun _=>XS.iloadN X0.here hx rfl (dE hby D21 0 rfl) rfl) ?_
  refine oS (fun _=>XS.aloadN X0.here hx rfl (dE hby D21 1 rfl) rfl rfl) ?_
  show gH (T0.setTop (mkF m 2 #[vr a1,vi (.ofNat n),.unset] [(.ref a1),(.int (.ofNat n))])) ..
  obtain ⟨cl1,Ar1,qk1,Sz1,Mz1,Hz1,Uz1⟩:=id Va
  refine oS (X0.arraylength hx (by rw [e0]; exact Ar1.1) (State.isArrayOf_alike hZ.alike Ar1.2.1) (g:=(mkF m 2 #[vr a1,vi (.ofNat n),.unset] [(.ref a1),(.int (.ofNat n))])) rfl rfl (dE hby D21 2 rfl)) ?_
  rw [len_of Sz1 Mz1]
  show gH (T0.setTop (mkF m 3 #[vr a1,vi (.ofNat n),.unset] [(.int (.ofNat N)),(.int (.ofNat n))])) ..
  refine oS (fun _=>XS.icmpYes X0.here hx rfl (pc0:=3) (pc':=14) rfl (dE hby D21 3 rfl) rfl (feq (own_ne (by omega) (by omega) (by omega))).2 (by decide) (by decide)) ?_
  refine oS (fun _=>XS.iloadN X0.here hx rfl (dE hby D21 4 rfl) rfl) ?_
  obtain ⟨T2,h2,k2,X2,e2,E2,A2,Ex2,st2⟩:=newPE X0 hx hZ (oW hw 3 rfl) e0 (g:=(mkF m 15 #[vr a1,vi (.ofNat n),.unset] [(.int (.ofNat n))])) rfl (dE hby D21 5 rfl) rfl (oN (by omega)) (cap:=12) (by rw [oC (by omega)]; omega) (by decide) (by decide) (by decide) (ad:="[B") (by decide)
  obtain ⟨b2,g2⟩ : ∃ z,z = h0.size:=⟨_,rfl⟩
  rw [← g2] at A2 Ex2 st2
  refine oS st2 ?_
  have z3:=E2.1
  have O4:=Old.ext O0 E2
  have K5:=Kr.ext E2
  have V2 : Arv Z h2 b2 k2 .byte (Int32.ofNat n) [] (.int 0):=Arv.new A2 (oN (by omega))
  have lt2:=oL A2.lt
  show gH (T2.setTop (mkF m 17 #[vr a1,vi (.ofNat n),.unset] [(.ref b2)])) ..
  refine oS (fun _=>XS.astoreN X2.here hx rfl (dE hby D21 6 rfl) rfl rfl (l':=#[vr a1,vi (.ofNat n),vr b2]) rfl) ?_
  refine oS (fun _=>XS.aloadN X2.here hx rfl (dE hby D21 7 rfl) rfl rfl) ?_
  refine oS (fun _=>XS.iconst X2.here hx rfl (dE hby D21 8 rfl)) ?_
  refine oS (fun _=>XS.aloadN X2.here hx rfl (dE hby D21 9 rfl) rfl rfl) ?_
  refine oS (fun _=>XS.iconst X2.here hx rfl (dE hby D21 10 rfl)) ?_
  refine oS (fun _=>XS.aloadN X2.here hx rfl (dE hby D21 11 rfl) rfl rfl) ?_
  show gH (T2.setTop (mkF m 23 #[vr a1,vi (.ofNat n),vr b2] [(.ref a1),(.int 0),(.ref b2),(.int 0),(.ref a1)])) ..
  have q6:=(Va.ext E2)
  obtain ⟨cl7,Ar7,qk7,Sz7,Mz7,Hz7,Uz7⟩:=id q6
  refine oS (X2.arraylength hx (by rw [e2]; exact Ar7.1) (State.isArrayOf_alike hZ.alike Ar7.2.1) (g:=(mkF m 23 #[vr a1,vi (.ofNat n),vr b2] [(.ref a1),(.int 0),(.ref b2),(.int 0),(.ref a1)])) rfl rfl (dE hby D21 12 rfl)) ?_
  rw [len_of Sz7 Mz7]
  show gH (T2.setTop (mkF m 24 #[vr a1,vi (.ofNat n),vr b2] [(.int (.ofNat N)),(.int 0),(.ref b2),(.int 0),(.ref a1)])) ..
  refine oS (fun _=>XS.iloadN X2.here hx rfl (dE hby D21 13 rfl) rfl) ?_
  obtain ⟨_,T8,L8,X8,⟨rfl,N8q,eh8⟩,st8⟩:=own_cS X2 hx hZ hown (own_min l Z a0 hw [] N n h2 O4 (by omega) (by omega)) (oW hw 88 rfl) (oW hw 89 rfl) (oW hw 90 rfl) (oW hw 91 rfl) (W:=4) (g:=(mkF m 25 #[vr a1,vi (.ofNat n),vr b2] [(.int (.ofNat n)),(.int (.ofNat N)),(.int 0),(.ref b2),(.int 0),(.ref a1)])) rfl (by rw [hml]; rfl) (argsL:=[(.int (.ofNat N)),(.int (.ofNat n))]) (rest:=[(.int 0),(.ref b2),(.int 0),(.ref a1)]) (lenOf own_pd19 rfl) rfl (dE hby D21 14 rfl) rfl e2 (by decide) (by decide)
  have N8:=Fr.app N0 N8q
  refine oS st8 ?_
  have Vp9 : Arv Z h2 b2 k2 .byte (Int32.ofNat n) ([]++List.replicate (n) (.int 0)) (.int 0):=V2.pad (pad_rep _ _ (n))
  obtain ⟨T9,h9,L9,X9,e9,N9,K9_,V9,st9⟩:=cpA X8 hx hZ hown (oW hw 92 rfl) (oW hw 95 rfl) (oW hw 93 rfl) (oW hw 94 rfl) eh8 q6 Vp9 (Or.inl ⟨rfl,rfl⟩) (by decide) (by decide) (oN (by omega)) (by rw [oC (by omega)]; first | (show 0+_≤_; omega) | (rw [oC (by omega)]; show 0+_≤_; omega)) (by rw [oC (by omega)]; first | (show 0+_≤_; omega) | (rw [oC (by omega)]; show 0+_≤_; omega)) (us:=(List.range (n)).map fun i=>(vs).getD (0+i) (.int 0)) (by rw [oC (by omega)]; rfl) (by rw [oC (by omega),List.length_append,List.length_replicate]; show 0+_≤_+_; omega) N8 (by omega) (g:=(mkF m 28 #[vr a1,vi (.ofNat n),vr b2] [(.int (.ofNat n)),(.int 0),(.ref b2),(.int 0),(.ref a1)])) rfl (by rw [hml]; rfl) rfl (dE hby D21 15 rfl) (by decide) (W:=0) (by show 2 * 0+_≤_; exact Nat.le_of_eq rfl) (by decide)
  refine oS st9 ?_
  have z10:=K9_.1
  have O11:=Old.keep O4 K9_ (allS (by omega) all0)
  have K12:=K5.trans K9_ (allS (Or.inr (by omega)) all0)
  have V9' : Arv Z h9 b2 k2 .byte (Int32.ofNat n) ([]++vs) (.int 0):=own_acp (d:=0) (k:=n) (by omega) (rfl) (hl) (by have q:=V9; rw [oC (n:=n) (by omega)] at q; exact q)
  show gH (T9.setTop (mkF m 31 #[vr a1,vi (.ofNat n),vr b2] [])) ..
  refine oS (fun _=>XS.aloadN X9.here hx rfl (dE hby D21 16 rfl) rfl rfl) ?_
  show gH (T9.setTop (mkF m 32 #[vr a1,vi (.ofNat n),vr b2] [(.ref b2)])) ..
  have q13:=(Ex2.keep K9_)
  exact own_retA X9 hx hret rfl rfl hlk (dE hby D21 17 rfl) (by rw [e9]; exact ⟨b2,k2,rfl,N9,K12,by omega,q13,V9'⟩) (by decide) (by decide)
def L22 : List (Nat × Instr × Nat):=[(0,.aload_n 0,1),(1,.invokespecial 1,3),(4,.aload_n 1,1),(5,.invokevirtual 552,3),(8,.astore_n 3,1),(9,.aload_n 1,1),(10,.invokevirtual 549,3),(13,.istore 4,2),(15,.aload_n 1,1),(16,.invokevirtual 1047,3),(19,.ifCond .eq 22,3),(22,.aload_n 0,1),(23,.iconst 0,1),(24,.putfield 15,3),(27,.aload_n 0,1),(28,.aload_n 3,1),(29,.iconst 0,1),(30,.iload 4,2),(32,.invokestatic 54,3),(35,.putfield 9,3),(38,.goto 59,3),(97,.return_,1),(41,.getstatic 38,3),(44,.ifCond .eq 35,3),(47,.aload_n 1,1),(48,.getfield 1048,3),(51,.ifCond .eq 28,3),(79,.aload_n 0,1),(80,.iconst 1,1),(81,.putfield 15,3),(84,.aload_n 0,1),(85,.aload_n 3,1),(86,.iconst 0,1),(87,.iload 4,2),(89,.iconst 1,1),(90,.ishl,1),(91,.invokestatic 54,3),(94,.putfield 9,3)]
theorem D22 : ∀ q∈L22,decode jdk_42_method_150_code q.1 = .ok q.2:=by decide +kernel
theorem own_pd21 : parseMethodDescriptor "()[B" = some ⟨[],some (.array .byte)⟩:=by decide +kernel
theorem own_pd22 : parseMethodDescriptor "()Z" = some ⟨[],some .boolean⟩:=by decide +kernel
theorem own_siL (l:Launch) (Z:State) (a0:Array Value) (hw:∀ d∈tables_1,d.before a0 Z = true) (ws:List Jvm.Cond) (st:Addr) (sb:Addr) (bv:Addr) (kb:ClassId) (cs:List Int32) (w1:Int32) (h0:Heap) (O0:Old Z Z.heap.size h0) (S1:Sta Z Z.heap "java/lang/String" "COMPACT_STRINGS" "Z" (.int w1)) (hw1:¬ (w1 = (0:Int32))) (ga:Z.heap.size≤st) (Es:Exa Z h0 st "java/lang/String") (G1:Fld Z h0 st "java/lang/String" "value" "[B" .null) (G2:Fld Z h0 st "java/lang/String" "coder" "B" (.int 0)) (nbs:@Ne Nat bv st) (hcs:cs.length≤6) (HB:own_SBL Z h0 sb bv kb cs) :
    own_Met l Z (⟨"java/lang/String","<init>","(Ljava/lang/AbstractStringBuilder;Ljava/lang/Void;)V"⟩ : MethodName) jdk_42_method_150_code 5 none ws (⟨4,1,12,90⟩ : Room) #[(.ref st),(.ref sb),.null] h0 (fun v h L=>v = none∧Fr Z.heap.size L∧Keep h0 h [st]∧∃ t kt,h0.size≤t∧own_StL Z h st t kt cs∧Exa Z h t "[B") 1 12:=by
  refine own_bodyA (ef:=fun m=>mkF m 0 #[.val (.ref st),.val (.ref sb),.val .null,.unset,.unset] []) (plainFor_of_name own_pn7) ?_
  intro p e s m below meth c T0 hx hZ hby hml hown hnm hret hlk X0 e0
  have N0:=Fr.nil Z.heap.size
  have z0 : Z.heap.size≤h0.size:=O0.2.1
  have Kr:=Keep.refl h0 [st]
  show gH (T0.setTop (mkF m 0 #[vr st,vr sb,.val .null,.unset,.unset] [])) ..
  have lta:=oL Es.lt
  have Vb:=HB.2
  have ltb:=oL Vb.lt
  have HB:=HB.1
  refine oS (fun _=>XS.aloadN X0.here hx rfl (dE hby D22 0 rfl) rfl rfl) ?_
  obtain ⟨T1,X1,e1,st1⟩:=initO X0 hx hZ hown (oW hw 54 rfl) (oW hw 12 rfl) (oW hw 13 rfl) e0 (g:=(mkF m 1 #[vr st,vr sb,.val .null,.unset,.unset] [(.ref st)])) rfl (by rw [hml]; rfl) rfl (dE hby D22 1 rfl) (by decide) (W:=0) (by show 2 * 0+_≤_; exact Nat.le_of_eq rfl) (by decide)
  refine oS st1 ?_
  show gH (T1.setTop (mkF m 4 #[vr st,vr sb,.val .null,.unset,.unset] [])) ..
  refine oS (fun _=>XS.aloadN X1.here hx rfl (dE hby D22 2 rfl) rfl rfl) ?_
  obtain ⟨_,T2,L2,X2,⟨rfl,N2q,eh2⟩,st2⟩:=own_cV X1 hx hZ hown (own_gv l Z a0 hw [] sb bv h0 O0 HB.2.2.2.1) (oW hw 55 rfl) (oW hw 56 rfl) (oW hw 58 rfl) (oW hw 57 rfl) (own_clsP (y:=(⟨"java/lang/AbstractStringBuilder","getValue","()[B"⟩ : MethodName)) (oW hw 58 rfl)) HB.1 (oW hw 24 rfl) (oW hw 59 rfl) (W:=0) (g:=(mkF m 5 #[vr st,vr sb,.val .null,.unset,.unset] [(.ref sb)])) rfl (by rw [hml]; rfl) (argsL:=[]) (rest:=[]) (lenOf own_pd21 rfl) rfl (dE hby D22 3 rfl) rfl e1 (by decide) (by decide)
  have N2:=Fr.app N0 N2q
  refine oS st2 ?_
  show gH (T2.setTop (mkF m 8 #[vr st,vr sb,.val .null,.unset,.unset] [(.ref bv)])) ..
  refine oS (fun _=>XS.astoreN X2.here hx rfl (dE hby D22 4 rfl) rfl rfl (l':=#[vr st,vr sb,.val .null,vr bv,.unset]) rfl) ?_
  refine oS (fun _=>XS.aloadN X2.here hx rfl (dE hby D22 5 rfl) rfl rfl) ?_
  obtain ⟨_,T3,L3,X3,⟨rfl,N3q,eh3⟩,st3⟩:=own_cV X2 hx hZ hown (own_slen l Z a0 hw [] sb (Int32.ofNat cs.length) h0 O0 HB.1 HB.2.2.1) (oW hw 60 rfl) (oW hw 61 rfl) (oW hw 63 rfl) (oW hw 64 rfl) (own_clsP (y:=(⟨"java/lang/AbstractStringBuilder","getValue","()[B"⟩ : MethodName)) (oW hw 58 rfl)) HB.1 (oW hw 16 rfl) (oW hw 65 rfl) (W:=0) (g:=(mkF m 10 #[vr st,vr sb,.val .null,vr bv,.unset] [(.ref sb)])) rfl (by rw [hml]; rfl) (argsL:=[]) (rest:=[]) (lenOf own_pd15 rfl) rfl (dE hby D22 6 rfl) rfl eh2 (by decide) (by decide)
  have N3:=Fr.app N2 N3q
  refine oS st3 ?_
  show gH (T3.setTop (mkF m 13 #[vr st,vr sb,.val .null,vr bv,.unset] [(.int (.ofNat cs.length))])) ..
  refine oS (fun _=>XS.istore X3.here hx rfl (dE hby D22 7 rfl) rfl (l':=#[vr st,vr sb,.val .null,vr bv,vi (.ofNat cs.length)]) rfl) ?_
  refine oS (fun _=>XS.aloadN X3.here hx rfl (dE hby D22 8 rfl) rfl rfl) ?_
  obtain ⟨_,T4,L4,X4,⟨rfl,N4q,eh4⟩,st4⟩:=own_cV X3 hx hZ hown (own_isl0 l Z a0 hw [] sb w1 h0 O0 S1 hw1 HB.2.1) (oW hw 71 rfl) (oW hw 72 rfl) (oW hw 74 rfl) (oW hw 73 rfl) (own_clsP (y:=(⟨"java/lang/AbstractStringBuilder","isLatin1","()Z"⟩ : MethodName)) (oW hw 74 rfl)) HB.1 (oW hw 24 rfl) (oW hw 75 rfl) (W:=0) (g:=(mkF m 16 #[vr st,vr sb,.val .null,vr bv,vi (.ofNat cs.length)] [(.ref sb)])) rfl (by rw [hml]; rfl) (argsL:=[]) (rest:=[]) (lenOf own_pd22 rfl) rfl (dE hby D22 9 rfl) rfl eh3 (by decide) (by decide)
  have N4:=Fr.app N3 N4q
  refine oS st4 ?_
  show gH (T4.setTop (mkF m 19 #[vr st,vr sb,.val .null,vr bv,vi (.ofNat cs.length)] [(.int 1)])) ..
  refine oS (fun _=>XS.ifNo X4.here hx rfl (dE hby D22 10 rfl) rfl ((if0 _ _).trans (feq (by decide)).1)) ?_
  refine oS (fun _=>XS.aloadN X4.here hx rfl (dE hby D22 11 rfl) rfl rfl) ?_
  refine oS (fun _=>XS.iconst X4.here hx rfl (dE hby D22 12 rfl)) ?_
  obtain ⟨T5,h5,X5,e5,W5,st5⟩:=putFN X4 hx hZ hown (oW hw 76 rfl) Via.refl eh4 G2 Es (Or.inr ⟨(oW hw 77 rfl),rfl,hnm⟩) (oW hw 46 rfl) (ty:=.byte) (v':=(.int (nar .byte (0:Int32)))) (by decide) rfl (fits_nar_byte _) (g:=(mkF m 24 #[vr st,vr sb,.val .null,vr bv,vi (.ofNat cs.length)] [(.int 0),(.ref st)])) rfl rfl (dE hby D22 13 rfl)
  refine oS st5 ?_
  have z6:=W5.size
  have O7:=Old.wr O0 W5 (by omega)
  have K8:=Kr.wr W5 (Or.inl (by simp))
  have N5:=Fr.snoc X5 N4 (by omega : Z.heap.size≤st)
  have Fw5:=G2.same W5
  show gH (T5.setTop (mkF m 27 #[vr st,vr sb,.val .null,vr bv,vi (.ofNat cs.length)] [])) ..
  refine oS (fun _=>XS.aloadN X5.here hx rfl (dE hby D22 14 rfl) rfl rfl) ?_
  refine oS (fun _=>XS.aloadN X5.here hx rfl (dE hby D22 15 rfl) rfl rfl) ?_
  refine oS (fun _=>XS.iconst X5.here hx rfl (dE hby D22 16 rfl)) ?_
  refine oS (fun _=>XS.iload X5.here hx rfl (dE hby D22 17 rfl) rfl) ?_
  have q9:=(Vb.other W5 (show @Ne Nat bv st by omega))
  obtain ⟨_,T10,L10,X10,⟨t,kt,rfl,N10q,K10_,gt,Et,Vt⟩,st10⟩:=own_cS X5 hx hZ hown (own_cor l Z a0 hw [] bv 16 cs.length (own_L1 cs) kb h5 O7 (by omega) (by omega) (by decide) (own_L1_len cs) q9) (oW hw 78 rfl) (oW hw 79 rfl) (oW hw 80 rfl) (oW hw 81 rfl) (W:=1) (g:=(mkF m 32 #[vr st,vr sb,.val .null,vr bv,vi (.ofNat cs.length)] [(.int (.ofNat cs.length)),(.int 0),(.ref bv),(.ref st)])) rfl (by rw [hml]; rfl) (argsL:=[(.ref bv),(.int 0),(.int (.ofNat cs.length))]) (rest:=[(.ref st)]) (lenOf own_pd20 rfl) rfl (dE hby D22 18 rfl) rfl e5 (by decide) (by decide)
  have N10:=Fr.app N5 N10q
  refine oS st10 ?_
  have z11:=K10_.1
  have O12:=Old.keep O7 K10_ all0
  have K13:=K8.trans K10_ all0
  have ltt:=oL Vt.lt
  have q14:=((Es.wr W5).keep K10_)
  have q15:=((G1.other W5 (Or.inr (slot_ne (Or.inr (oW hw 97 rfl)) (Or.inr (oW hw 77 rfl)) (by decide) (t:=(.array .byte)) (t':=.byte) (by decide) (by decide)))).keep K10_ nin0)
  obtain ⟨T16,h16,X16,e16,W16,st16⟩:=putF X10 hx hZ hown (host:="") (Or.inl (oW hw 96 rfl)) Via.refl rfl q15 q14 (Or.inr ⟨(oW hw 97 rfl),rfl,hnm⟩) (oW hw 46 rfl) (ty:=(.array .byte)) (by decide) rfl rfl (g:=(mkF m 35 #[vr st,vr sb,.val .null,vr bv,vi (.ofNat cs.length)] [(.ref t),(.ref st)])) rfl rfl (dE hby D22 19 rfl)
  refine oS st16 ?_
  have z17:=W16.size
  have O18:=Old.wr O12 W16 (by omega)
  have K19:=K13.wr W16 (Or.inl (by simp))
  have N16:=Fr.snoc X16 N10 (by omega : Z.heap.size≤st)
  have Fw16:=q15.same W16
  show gH (T16.setTop (mkF m 38 #[vr st,vr sb,.val .null,vr bv,vi (.ofNat cs.length)] [])) ..
  refine oS (fun _=>XS.goto X16.here hx rfl (pc0:=38) (pc':=97) rfl (dE hby D22 20 rfl) (by decide) (by decide)) ?_
  show gH (T16.setTop (mkF m 97 #[vr st,vr sb,.val .null,vr bv,vi (.ofNat cs.length)] [])) ..
  have q20:=(q14.wr W16)
  have q21:=((Fw5.keep K10_ nin0).other W16 (Or.inr (slot_ne (Or.inr (oW hw 77 rfl)) (Or.inr (oW hw 97 rfl)) (by decide) (t:=.byte) (t':=(.array .byte)) (by decide) (by decide))))
  have q22:=(Vt.other W16 (show @Ne Nat t st by omega))
  have q23:=(Et.wr W16)
  exact own_ret0 X16 hx hret hlk (dE hby D22 21 rfl) (by rw [e16]; exact ⟨rfl,N16,K19,t,kt,by omega,⟨q20,q21,Fw16,q22⟩,q23⟩) (by decide) (by decide)
def L23 : List (Nat × Instr × Nat):=[(0,.aload_n 0,1),(1,.aload_n 1,1),(2,.aconst_null,1),(3,.invokespecial 489,3),(6,.return_,1)]
theorem D23 : ∀ q∈L23,decode jdk_42_method_53_code q.1 = .ok q.2:=by decide +kernel
theorem own_pd23 : parseMethodDescriptor "(Ljava/lang/AbstractStringBuilder;Ljava/lang/Void;)V" = some ⟨[(.object "java/lang/AbstractStringBuilder"),(.object "java/lang/Void")],none⟩:=by decide +kernel
theorem own_sjL (l:Launch) (Z:State) (a0:Array Value) (hw:∀ d∈tables_1,d.before a0 Z = true) (ws:List Jvm.Cond) (st:Addr) (sb:Addr) (bv:Addr) (kb:ClassId) (cs:List Int32) (w1:Int32) (h0:Heap) (O0:Old Z Z.heap.size h0) (S1:Sta Z Z.heap "java/lang/String" "COMPACT_STRINGS" "Z" (.int w1)) (hw1:¬ (w1 = (0:Int32))) (ga:Z.heap.size≤st) (Es:Exa Z h0 st "java/lang/String") (G1:Fld Z h0 st "java/lang/String" "value" "[B" .null) (G2:Fld Z h0 st "java/lang/String" "coder" "B" (.int 0)) (nbs:@Ne Nat bv st) (hcs:cs.length≤6) (HB:own_SBL Z h0 sb bv kb cs) :
    own_Met l Z (⟨"java/lang/String","<init>","(Ljava/lang/StringBuilder;)V"⟩ : MethodName) jdk_42_method_53_code 2 none ws (⟨5,1,12,110⟩ : Room) #[(.ref st),(.ref sb)] h0 (fun v h L=>v = none∧Fr Z.heap.size L∧Keep h0 h [st]∧∃ t kt,h0.size≤t∧own_StL Z h st t kt cs∧Exa Z h t "[B") 1 12:=by
  refine own_bodyA (ef:=fun m=>mkF m 0 #[.val (.ref st),.val (.ref sb)] []) (plainFor_of_name own_pn7) ?_
  intro p e s m below meth c T0 hx hZ hby hml hown hnm hret hlk X0 e0
  have N0:=Fr.nil Z.heap.size
  have z0 : Z.heap.size≤h0.size:=O0.2.1
  have Kr:=Keep.refl h0 [st]
  show gH (T0.setTop (mkF m 0 #[vr st,vr sb] [])) ..
  have lta:=oL Es.lt
  refine oS (fun _=>XS.aloadN X0.here hx rfl (dE hby D23 0 rfl) rfl rfl) ?_
  refine oS (fun _=>XS.aloadN X0.here hx rfl (dE hby D23 1 rfl) rfl rfl) ?_
  refine oS (fun _=>XS.aconstNull X0.here hx rfl (dE hby D23 2 rfl)) ?_
  obtain ⟨_,T1,L1,X1,⟨rfl,N1q,K1_,Q_⟩,st1⟩:=own_cI X0 hx hZ hown (own_siL l Z a0 hw [] st sb bv kb cs w1 h0 O0 S1 hw1 ga Es G1 G2 nbs hcs HB) (oW hw 51 rfl) (oW hw 52 rfl) (a:=st) rfl rfl (oW hw 28 rfl) (oW hw 53 rfl) (W:=0) (g:=(mkF m 3 #[vr st,vr sb] [.null,(.ref sb),(.ref st)])) rfl (by rw [hml]; rfl) (argsL:=[(.ref sb),.null]) (rest:=[]) (lenOf own_pd23 rfl) rfl (dE hby D23 3 rfl) rfl e0 (by decide) (by decide)
  have N1:=Fr.app N0 N1q
  refine oS st1 ?_
  have z2:=K1_.1
  have O3:=Old.keep O0 K1_ (allS (by omega) all0)
  have K4:=Kr.trans K1_ (allS (Or.inl (by simp)) all0)
  show gH (T1.setTop (mkF m 6 #[vr st,vr sb] [])) ..
  exact own_ret0 X1 hx hret hlk (dE hby D23 4 rfl) ⟨rfl,N1,K4,Q_⟩ (by decide) (by decide)
def L24 : List (Nat × Instr × Nat):=[(0,.new 18,3),(3,.dup,1),(4,.aload_n 0,1),(5,.invokespecial 137,3),(8,.areturn,1)]
theorem D24 : ∀ q∈L24,decode jdk_67_method_42_code q.1 = .ok q.2:=by decide +kernel
theorem own_pd24 : parseMethodDescriptor "(Ljava/lang/StringBuilder;)V" = some ⟨[(.object "java/lang/StringBuilder")],none⟩:=by decide +kernel
theorem own_tsL (l:Launch) (Z:State) (a0:Array Value) (hw:∀ d∈tables_1,d.before a0 Z = true) (ws:List Jvm.Cond) (sb:Addr) (bv:Addr) (kb:ClassId) (cs:List Int32) (w1:Int32) (h0:Heap) (O0:Old Z Z.heap.size h0) (S1:Sta Z Z.heap "java/lang/String" "COMPACT_STRINGS" "Z" (.int w1)) (hw1:¬ (w1 = (0:Int32))) (hcs:cs.length≤6) (HB:own_SBL Z h0 sb bv kb cs) :
    own_Met l Z (⟨"java/lang/StringBuilder","toString","()Ljava/lang/String;"⟩ : MethodName) jdk_67_method_42_code 1 (some (.object "java/lang/String")) ws (⟨6,2,16,130⟩ : Room) #[(.ref sb)] h0 (fun v h L=>∃ a t kt,v = some (.ref a)∧Fr Z.heap.size L∧Keep h0 h []∧h0.size≤a∧h0.size≤t∧own_StL Z h a t kt cs∧Exa Z h t "[B") 2 16:=by
  refine own_bodyA (ef:=fun m=>mkF m 0 #[.val (.ref sb)] []) (plainFor_of_name own_pn11) ?_
  intro p e s m below meth c T0 hx hZ hby hml hown hnm hret hlk X0 e0
  have N0:=Fr.nil Z.heap.size
  have z0 : Z.heap.size≤h0.size:=O0.2.1
  have Kr:=Keep.refl h0 []
  have Vb:=HB.2
  have ltb:=oL Vb.lt
  have ltsb:=oL HB.1.1.lt
  have HBx:=HB.1
  obtain ⟨T1,h1,X1,e1,E1,A1,D1,-,st1⟩:=newO X0 hx hZ hown (oW hw 45 rfl) (oW hw 46 rfl) (oW hw 28 rfl) e0 (g:=(mkF m 0 #[vr sb] [])) rfl (dE hby D24 0 rfl) (by decide) (by decide)
  obtain ⟨b1,g1⟩ : ∃ z,z = h0.size:=⟨_,rfl⟩
  rw [← g1] at A1 D1 st1
  refine oS st1 ?_
  have z2:=E1.1
  have O3:=Old.ext O0 E1
  have K4:=Kr.ext E1
  have F1_coder : Fld Z h1 b1 "java/lang/String" "coder" "B" (.int 0):=D1 (Or.inr (oW hw 77 rfl)) (ty:=.byte) (by decide)
  have F1_value : Fld Z h1 b1 "java/lang/String" "value" "[B" .null:=D1 (Or.inr (oW hw 97 rfl)) (ty:=(.array .byte)) (by decide)
  have lt1:=oL A1.lt
  show gH (T1.setTop (mkF m 3 #[vr sb] [(.ref b1)])) ..
  refine oS (fun _=>XS.dup X1.here hx rfl (dE hby D24 1 rfl) rfl rfl) ?_
  refine oS (fun _=>XS.aloadN X1.here hx rfl (dE hby D24 2 rfl) rfl rfl) ?_
  have q5:=(HBx.1.ext E1)
  have q6:=(HBx.2.1.ext E1)
  have q7:=(HBx.2.2.1.ext E1)
  have q8:=(HBx.2.2.2.1.ext E1)
  have q9:=(HBx.2.2.2.2.ext E1)
  have q10:=(Vb.ext E1)
  obtain ⟨_,T11,L11,X11,⟨rfl,N11q,K11_,t,kt,gt,Hs⟩,st11⟩:=own_cI X1 hx hZ hown (own_sjL l Z a0 hw [] b1 sb bv kb cs w1 h1 O3 S1 hw1 (by omega) A1 F1_value F1_coder (show @Ne Nat bv b1 by omega) hcs ⟨⟨q5,q6,q7,q8,q9⟩,q10⟩) (oW hw 47 rfl) (oW hw 48 rfl) (a:=b1) rfl rfl (oW hw 28 rfl) (oW hw 50 rfl) (W:=1) (g:=(mkF m 5 #[vr sb] [(.ref sb),(.ref b1),(.ref b1)])) rfl (by rw [hml]; rfl) (argsL:=[(.ref sb)]) (rest:=[(.ref b1)]) (lenOf own_pd24 rfl) rfl (dE hby D24 3 rfl) rfl e1 (by decide) (by decide)
  have N11:=Fr.app N0 N11q
  refine oS st11 ?_
  have z12:=K11_.1
  have O13:=Old.keep O3 K11_ (allS (by omega) all0)
  have K14:=K4.trans K11_ (allS (Or.inr (by omega)) all0)
  show gH (T11.setTop (mkF m 8 #[vr sb] [(.ref b1)])) ..
  exact own_retA X11 hx hret rfl rfl hlk (dE hby D24 4 rfl) ⟨b1,t,kt,rfl,N11,K14,by omega,by omega,Hs⟩ (by decide) (by decide)
theorem own_siU (l:Launch) (Z:State) (a0:Array Value) (hw:∀ d∈tables_1,d.before a0 Z = true) (ws:List Jvm.Cond) (st:Addr) (sb:Addr) (bv:Addr) (kb:ClassId) (cs:List Int32) (w1:Int32) (h0:Heap) (O0:Old Z Z.heap.size h0) (S1:Sta Z Z.heap "java/lang/String" "COMPACT_STRINGS" "Z" (.int w1)) (hw1:¬ (w1 = (0:Int32))) (ga:Z.heap.size≤st) (Es:Exa Z h0 st "java/lang/String") (G1:Fld Z h0 st "java/lang/String" "value" "[B" .null) (G2:Fld Z h0 st "java/lang/String" "coder" "B" (.int 0)) (nbs:@Ne Nat bv st) (hcs:cs.length≤6) (HB:own_SBU Z h0 sb bv kb cs) :
    own_Met l Z (⟨"java/lang/String","<init>","(Ljava/lang/AbstractStringBuilder;Ljava/lang/Void;)V"⟩ : MethodName) jdk_42_method_150_code 5 none ws (⟨4,1,12,90⟩ : Room) #[(.ref st),(.ref sb),.null] h0 (fun v h L=>v = none∧Fr Z.heap.size L∧Keep h0 h [st]∧∃ t kt,h0.size≤t∧own_StU Z h st t kt cs∧Exa Z h t "[B") 1 12:=by
  refine own_bodyA (ef:=fun m=>mkF m 0 #[.val (.ref st),.val (.ref sb),.val .null,.unset,.unset] []) (plainFor_of_name own_pn7) ?_
  intro p e s m below meth c T0 hx hZ hby hml hown hnm hret hlk X0 e0
  have N0:=Fr.nil Z.heap.size
  have z0 : Z.heap.size≤h0.size:=O0.2.1
  have Kr:=Keep.refl h0 [st]
  show gH (T0.setTop (mkF m 0 #[vr st,vr sb,.val .null,.unset,.unset] [])) ..
  have lta:=oL Es.lt
  have Vb:=HB.2
  have ltb:=oL Vb.lt
  have HB:=HB.1
  refine oS (fun _=>XS.aloadN X0.here hx rfl (dE hby D22 0 rfl) rfl rfl) ?_
  obtain ⟨T1,X1,e1,st1⟩:=initO X0 hx hZ hown (oW hw 54 rfl) (oW hw 12 rfl) (oW hw 13 rfl) e0 (g:=(mkF m 1 #[vr st,vr sb,.val .null,.unset,.unset] [(.ref st)])) rfl (by rw [hml]; rfl) rfl (dE hby D22 1 rfl) (by decide) (W:=0) (by show 2 * 0+_≤_; exact Nat.le_of_eq rfl) (by decide)
  refine oS st1 ?_
  show gH (T1.setTop (mkF m 4 #[vr st,vr sb,.val .null,.unset,.unset] [])) ..
  refine oS (fun _=>XS.aloadN X1.here hx rfl (dE hby D22 2 rfl) rfl rfl) ?_
  obtain ⟨_,T2,L2,X2,⟨rfl,N2q,eh2⟩,st2⟩:=own_cV X1 hx hZ hown (own_gv l Z a0 hw [] sb bv h0 O0 HB.2.2.2.1) (oW hw 55 rfl) (oW hw 56 rfl) (oW hw 58 rfl) (oW hw 57 rfl) (own_clsP (y:=(⟨"java/lang/AbstractStringBuilder","getValue","()[B"⟩ : MethodName)) (oW hw 58 rfl)) HB.1 (oW hw 24 rfl) (oW hw 59 rfl) (W:=0) (g:=(mkF m 5 #[vr st,vr sb,.val .null,.unset,.unset] [(.ref sb)])) rfl (by rw [hml]; rfl) (argsL:=[]) (rest:=[]) (lenOf own_pd21 rfl) rfl (dE hby D22 3 rfl) rfl e1 (by decide) (by decide)
  have N2:=Fr.app N0 N2q
  refine oS st2 ?_
  show gH (T2.setTop (mkF m 8 #[vr st,vr sb,.val .null,.unset,.unset] [(.ref bv)])) ..
  refine oS (fun _=>XS.astoreN X2.here hx rfl (dE hby D22 4 rfl) rfl rfl (l':=#[vr st,vr sb,.val .null,vr bv,.unset]) rfl) ?_
  refine oS (fun _=>XS.aloadN X2.here hx rfl (dE hby D22 5 rfl) rfl rfl) ?_
  obtain ⟨_,T3,L3,X3,⟨rfl,N3q,eh3⟩,st3⟩:=own_cV X2 hx hZ hown (own_slen l Z a0 hw [] sb (Int32.ofNat cs.length) h0 O0 HB.1 HB.2.2.1) (oW hw 60 rfl) (oW hw 61 rfl) (oW hw 63 rfl) (oW hw 64 rfl) (own_clsP (y:=(⟨"java/lang/AbstractStringBuilder","getValue","()[B"⟩ : MethodName)) (oW hw 58 rfl)) HB.1 (oW hw 16 rfl) (oW hw 65 rfl) (W:=0) (g:=(mkF m 10 #[vr st,vr sb,.val .null,vr bv,.unset] [(.ref sb)])) rfl (by rw [hml]; rfl) (argsL:=[]) (rest:=[]) (lenOf own_pd15 rfl) rfl (dE hby D22 6 rfl) rfl eh2 (by decide) (by decide)
  have N3:=Fr.app N2 N3q
  refine oS st3 ?_
  show gH (T3.setTop (mkF m 13 #[vr st,vr sb,.val .null,vr bv,.unset] [(.int (.ofNat cs.length))])) ..
  refine oS (fun _=>XS.istore X3.here hx rfl (dE hby D22 7 rfl) rfl (l':=#[vr st,vr sb,.val .null,vr bv,vi (.ofNat cs.length)]) rfl) ?_
  refine oS (fun _=>XS.aloadN X3.here hx rfl (dE hby D22 8 rfl) rfl rfl) ?_
  obtain ⟨_,T4,L4,X4,⟨rfl,N4q,eh4⟩,st4⟩:=own_cV X3 hx hZ hown (own_isl1 l Z a0 hw [] sb w1 h0 O0 S1 hw1 HB.2.1) (oW hw 71 rfl) (oW hw 72 rfl) (oW hw 74 rfl) (oW hw 73 rfl) (own_clsP (y:=(⟨"java/lang/AbstractStringBuilder","isLatin1","()Z"⟩ : MethodName)) (oW hw 74 rfl)) HB.1 (oW hw 24 rfl) (oW hw 75 rfl) (W:=0) (g:=(mkF m 16 #[vr st,vr sb,.val .null,vr bv,vi (.ofNat cs.length)] [(.ref sb)])) rfl (by rw [hml]; rfl) (argsL:=[]) (rest:=[]) (lenOf own_pd22 rfl) rfl (dE hby D22 9 rfl) rfl eh3 (by decide) (by decide)
  have N4:=Fr.app N3 N4q
  refine oS st4 ?_
  show gH (T4.setTop (mkF m 19 #[vr st,vr sb,.val .null,vr bv,vi (.ofNat cs.length)] [(.int 0)])) ..
  refine oS (fun _=>XS.ifYes X4.here hx rfl (pc0:=19) (pc':=41) rfl (dE hby D22 10 rfl) rfl ((if0 _ _).trans (teq rfl).1) (by decide) (by decide)) ?_
  obtain ⟨T5,X5,e5,st5⟩:=getS2 X4 hx hZ hown (host:="") (Or.inl (oW hw 110 rfl)) Via.refl eh4 (Sta.ext O0.2 S1) (g:=(mkF m 41 #[vr st,vr sb,.val .null,vr bv,vi (.ofNat cs.length)] [])) rfl (dE hby D22 22 rfl)
  refine oS st5 ?_
  show gH (T5.setTop (mkF m 44 #[vr st,vr sb,.val .null,vr bv,vi (.ofNat cs.length)] [(.int w1)])) ..
  refine oS (fun _=>XS.ifNo X5.here hx rfl (dE hby D22 23 rfl) rfl ((if0 _ _).trans (feq hw1).1)) ?_
  refine oS (fun _=>XS.aloadN X5.here hx rfl (dE hby D22 24 rfl) rfl rfl) ?_
  obtain ⟨T6,X6,e6,st6⟩:=getF X5 hx hZ hown (host:="") (Or.inl (oW hw 313 rfl)) Via.refl e5 HB.2.2.2.2 (g:=(mkF m 48 #[vr st,vr sb,.val .null,vr bv,vi (.ofNat cs.length)] [(.ref sb)])) rfl rfl (dE hby D22 25 rfl)
  refine oS st6 ?_
  show gH (T6.setTop (mkF m 51 #[vr st,vr sb,.val .null,vr bv,vi (.ofNat cs.length)] [(.int 0)])) ..
  refine oS (fun _=>XS.ifYes X6.here hx rfl (pc0:=51) (pc':=79) rfl (dE hby D22 26 rfl) rfl ((if0 _ _).trans (teq rfl).1) (by decide) (by decide)) ?_
  refine oS (fun _=>XS.aloadN X6.here hx rfl (dE hby D22 27 rfl) rfl rfl) ?_
  refine oS (fun _=>XS.iconst X6.here hx rfl (dE hby D22 28 rfl)) ?_
  obtain ⟨T7,h7,X7,e7,W7,st7⟩:=putFN X6 hx hZ hown (oW hw 76 rfl) Via.refl e6 G2 Es (Or.inr ⟨(oW hw 77 rfl),rfl,hnm⟩) (oW hw 46 rfl) (ty:=.byte) (v':=(.int (nar .byte (1:Int32)))) (by decide) rfl (fits_nar_byte _) (g:=(mkF m 81 #[vr st,vr sb,.val .null,vr bv,vi (.ofNat cs.length)] [(.int 1),(.ref st)])) rfl rfl (dE hby D22 29 rfl)
  refine oS st7 ?_
  have z8:=W7.size
  have O9:=Old.wr O0 W7 (by omega)
  have K10:=Kr.wr W7 (Or.inl (by simp))
  have N7:=Fr.snoc X7 N4 (by omega : Z.heap.size≤st)
  have Fw7:=G2.same W7
  show gH (T7.setTop (mkF m 84 #[vr st,vr sb,.val .null,vr bv,vi (.ofNat cs.length)] [])) ..
  refine oS (fun _=>XS.aloadN X7.here hx rfl (dE hby D22 30 rfl) rfl rfl) ?_
  refine oS (fun _=>XS.aloadN X7.here hx rfl (dE hby D22 31 rfl) rfl rfl) ?_
  refine oS (fun _=>XS.iconst X7.here hx rfl (dE hby D22 32 rfl)) ?_
  refine oS (fun _=>XS.iload X7.here hx rfl (dE hby D22 33 rfl) rfl) ?_
  refine oS (fun _=>XS.iconst X7.here hx rfl (dE hby D22 34 rfl)) ?_
  refine oS (fun _=>XS.ishl X7.here hx rfl (dE hby D22 35 rfl) rfl) ?_
  show gH (T7.setTop (mkF m 91 #[vr st,vr sb,.val .null,vr bv,vi (.ofNat cs.length)] [(.int ((Int32.ofNat cs.length)<<<((1:Int32)&&&31))),(.int 0),(.ref bv),(.ref st)])) ..
  rw [own_shl1 (by omega)]
  have q11:=(Vb.other W7 (show @Ne Nat bv st by omega))
  obtain ⟨_,T12,L12,X12,⟨t,kt,rfl,N12q,K12_,gt,Et,Vt⟩,st12⟩:=own_cS X7 hx hZ hown (own_cor l Z a0 hw [] bv 32 (2 * cs.length) (own_U2 cs) kb h7 O9 (by omega) (by omega) (by decide) (own_U2_len cs) q11) (oW hw 78 rfl) (oW hw 79 rfl) (oW hw 80 rfl) (oW hw 81 rfl) (W:=1) (g:=(mkF m 91 #[vr st,vr sb,.val .null,vr bv,vi (.ofNat cs.length)] [(.int (.ofNat (2 * cs.length))),(.int 0),(.ref bv),(.ref st)])) rfl (by rw [hml]; rfl) (argsL:=[(.ref bv),(.int 0),(.int (.ofNat (2 * cs.length)))]) (rest:=[(.ref st)]) (lenOf own_pd20 rfl) rfl (dE hby D22 36 rfl) rfl e7 (by decide) (by decide)
  have N12:=Fr.app N7 N12q
  refine oS st12 ?_
  have z13:=K12_.1
  have O14:=Old.keep O9 K12_ all0
  have K15:=K10.trans K12_ all0
  have ltt:=oL Vt.lt
  have q16:=((Es.wr W7).keep K12_)
  have q17:=((G1.other W7 (Or.inr (slot_ne (Or.inr (oW hw 97 rfl)) (Or.inr (oW hw 77 rfl)) (by decide) (t:=(.array .byte)) (t':=.byte) (by decide) (by decide)))).keep K12_ nin0)
  obtain ⟨T18,h18,X18,e18,W18,st18⟩:=putF X12 hx hZ hown (host:="") (Or.inl (oW hw 96 rfl)) Via.refl rfl q17 q16 (Or.inr ⟨(oW hw 97 rfl),rfl,hnm⟩) (oW hw 46 rfl) (ty:=(.array .byte)) (by decide) rfl rfl (g:=(mkF m 94 #[vr st,vr sb,.val .null,vr bv,vi (.ofNat cs.length)] [(.ref t),(.ref st)])) rfl rfl (dE hby D22 37 rfl)
  refine oS st18 ?_
  have z19:=W18.size
  have O20:=Old.wr O14 W18 (by omega)
  have K21:=K15.wr W18 (Or.inl (by simp))
  have N18:=Fr.snoc X18 N12 (by omega : Z.heap.size≤st)
  have Fw18:=q17.same W18
  show gH (T18.setTop (mkF m 97 #[vr st,vr sb,.val .null,vr bv,vi (.ofNat cs.length)] [])) ..
  have q22:=(q16.wr W18)
  have q23:=((Fw7.keep K12_ nin0).other W18 (Or.inr (slot_ne (Or.inr (oW hw 77 rfl)) (Or.inr (oW hw 97 rfl)) (by decide) (t:=.byte) (t':=(.array .byte)) (by decide) (by decide))))
  have q24:=(Vt.other W18 (show @Ne Nat t st by omega))
  have q25:=(Et.wr W18)
  exact own_ret0 X18 hx hret hlk (dE hby D22 21 rfl) (by rw [e18]; exact ⟨rfl,N18,K21,t,kt,by omega,⟨q22,q23,Fw18,q24⟩,q25⟩) (by decide) (by decide)
theorem own_sjU (l:Launch) (Z:State) (a0:Array Value) (hw:∀ d∈tables_1,d.before a0 Z = true) (ws:List Jvm.Cond) (st:Addr) (sb:Addr) (bv:Addr) (kb:ClassId) (cs:List Int32) (w1:Int32) (h0:Heap) (O0:Old Z Z.heap.size h0) (S1:Sta Z Z.heap "java/lang/String" "COMPACT_STRINGS" "Z" (.int w1)) (hw1:¬ (w1 = (0:Int32))) (ga:Z.heap.size≤st) (Es:Exa Z h0 st "java/lang/String") (G1:Fld Z h0 st "java/lang/String" "value" "[B" .null) (G2:Fld Z h0 st "java/lang/String" "coder" "B" (.int 0)) (nbs:@Ne Nat bv st) (hcs:cs.length≤6) (HB:own_SBU Z h0 sb bv kb cs) :
    own_Met l Z (⟨"java/lang/String","<init>","(Ljava/lang/StringBuilder;)V"⟩ : MethodName) jdk_42_method_53_code 2 none ws (⟨5,1,12,110⟩ : Room) #[(.ref st),(.ref sb)] h0 (fun v h L=>v = none∧Fr Z.heap.size L∧Keep h0 h [st]∧∃ t kt,h0.size≤t∧own_StU Z h st t kt cs∧Exa Z h t "[B") 1 12:=by
  refine own_bodyA (ef:=fun m=>mkF m 0 #[.val (.ref st),.val (.ref sb)] []) (plainFor_of_name own_pn7) ?_
  intro p e s m below meth c T0 hx hZ hby hml hown hnm hret hlk X0 e0
  have N0:=Fr.nil Z.heap.size
  have z0 : Z.heap.size≤h0.size:=O0.2.1
  have Kr:=Keep.refl h0 [st]
  show gH (T0.setTop (mkF m 0 #[vr st,vr sb] [])) ..
  have lta:=oL Es.lt
  refine oS (fun _=>XS.aloadN X0.here hx rfl (dE hby D23 0 rfl) rfl rfl) ?_
  refine oS (fun _=>XS.aloadN X0.here hx rfl (dE hby D23 1 rfl) rfl rfl) ?_
  refine oS (fun _=>XS.aconstNull X0.here hx rfl (dE hby D23 2 rfl)) ?_
  obtain ⟨_,T1,L1,X1,⟨rfl,N1q,K1_,Q_⟩,st1⟩:=own_cI X0 hx hZ hown (own_siU l Z a0 hw [] st sb bv kb cs w1 h0 O0 S1 hw1 ga Es G1 G2 nbs hcs HB) (oW hw 51 rfl) (oW hw 52 rfl) (a:=st) rfl rfl (oW hw 28 rfl) (oW hw 53 rfl) (W:=0) (g:=(mkF m 3 #[vr st,vr sb] [.null,(.ref sb),(.ref st)])) rfl (by rw [hml]; rfl) (argsL:=[(.ref sb),.null]) (rest:=[]) (lenOf own_pd23 rfl) rfl (dE hby D23 3 rfl) rfl e0 (by decide) (by decide)
  have N1:=Fr.app N0 N1q
  refine oS st1 ?_
  have z2:=K1_.1
  have O3:=Old.keep O0 K1_ (allS (by omega) all0)
  have K4:=Kr.trans K1_ (allS (Or.inl (by simp)) all0)
  show gH (T1.setTop (mkF m 6 #[vr st,vr sb] [])) ..
  exact own_ret0 X1 hx hret hlk (dE hby D23 4 rfl) ⟨rfl,N1,K4,Q_⟩ (by decide) (by decide)
theorem own_tsU (l:Launch) (Z:State) (a0:Array Value) (hw:∀ d∈tables_1,d.before a0 Z = true) (ws:List Jvm.Cond) (sb:Addr) (bv:Addr) (kb:ClassId) (cs:List Int32) (w1:Int32) (h0:Heap) (O0:Old Z Z.heap.size h0) (S1:Sta Z Z.heap "java/lang/String" "COMPACT_STRINGS" "Z" (.int w1)) (hw1:¬ (w1 = (0:Int32))) (hcs:cs.length≤6) (HB:own_SBU Z h0 sb bv kb cs) :
    own_Met l Z (⟨"java/lang/StringBuilder","toString","()Ljava/lang/String;"⟩ : MethodName) jdk_67_method_42_code 1 (some (.object "java/lang/String")) ws (⟨6,2,16,130⟩ : Room) #[(.ref sb)] h0 (fun v h L=>∃ a t kt,v = some (.ref a)∧Fr Z.heap.size L∧Keep h0 h []∧h0.size≤a∧h0.size≤t∧own_StU Z h a t kt cs∧Exa Z h t "[B") 2 16:=by
  refine own_bodyA (ef:=fun m=>mkF m 0 #[.val (.ref sb)] []) (plainFor_of_name own_pn11) ?_
  intro p e s m below meth c T0 hx hZ hby hml hown hnm hret hlk X0 e0
  have N0:=Fr.nil Z.heap.size
  have z0 : Z.heap.size≤h0.size:=O0.2.1
  have Kr:=Keep.refl h0 []
  have Vb:=HB.2
  have ltb:=oL Vb.lt
  have ltsb:=oL HB.1.1.lt
  have HBx:=HB.1
  obtain ⟨T1,h1,X1,e1,E1,A1,D1,-,st1⟩:=newO X0 hx hZ hown (oW hw 45 rfl) (oW hw 46 rfl) (oW hw 28 rfl) e0 (g:=(mkF m 0 #[vr sb] [])) rfl (dE hby D24 0 rfl) (by decide) (by decide)
  obtain ⟨b1,g1⟩ : ∃ z,z = h0.size:=⟨_,rfl⟩
  rw [← g1] at A1 D1 st1
  refine oS st1 ?_
  have z2:=E1.1
  have O3:=Old.ext O0 E1
  have K4:=Kr.ext E1
  have F1_coder : Fld Z h1 b1 "java/lang/String" "coder" "B" (.int 0):=D1 (Or.inr (oW hw 77 rfl)) (ty:=.byte) (by decide)
  have F1_value : Fld Z h1 b1 "java/lang/String" "value" "[B" .null:=D1 (Or.inr (oW hw 97 rfl)) (ty:=(.array .byte)) (by decide)
  have lt1:=oL A1.lt
  show gH (T1.setTop (mkF m 3 #[vr sb] [(.ref b1)])) ..
  refine oS (fun _=>XS.dup X1.here hx rfl (dE hby D24 1 rfl) rfl rfl) ?_
  refine oS (fun _=>XS.aloadN X1.here hx rfl (dE hby D24 2 rfl) rfl rfl) ?_
  have q5:=(HBx.1.ext E1)
  have q6:=(HBx.2.1.ext E1)
  have q7:=(HBx.2.2.1.ext E1)
  have q8:=(HBx.2.2.2.1.ext E1)
  have q9:=(HBx.2.2.2.2.ext E1)
  have q10:=(Vb.ext E1)
  obtain ⟨_,T11,L11,X11,⟨rfl,N11q,K11_,t,kt,gt,Hs⟩,st11⟩:=own_cI X1 hx hZ hown (own_sjU l Z a0 hw [] b1 sb bv kb cs w1 h1 O3 S1 hw1 (by omega) A1 F1_value F1_coder (show @Ne Nat bv b1 by omega) hcs ⟨⟨q5,q6,q7,q8,q9⟩,q10⟩) (oW hw 47 rfl) (oW hw 48 rfl) (a:=b1) rfl rfl (oW hw 28 rfl) (oW hw 50 rfl) (W:=1) (g:=(mkF m 5 #[vr sb] [(.ref sb),(.ref b1),(.ref b1)])) rfl (by rw [hml]; rfl) (argsL:=[(.ref sb)]) (rest:=[(.ref b1)]) (lenOf own_pd24 rfl) rfl (dE hby D24 3 rfl) rfl e1 (by decide) (by decide)
  have N11:=Fr.app N0 N11q
  refine oS st11 ?_
  have z12:=K11_.1
  have O13:=Old.keep O3 K11_ (allS (by omega) all0)
  have K14:=K4.trans K11_ (allS (Or.inr (by omega)) all0)
  show gH (T11.setTop (mkF m 8 #[vr sb] [(.ref b1)])) ..
  exact own_retA X11 hx hret rfl rfl hlk (dE hby D24 4 rfl) ⟨b1,t,kt,rfl,N11,K14,by omega,by omega,Hs⟩ (by decide) (by decide)
def L25 : List (Nat × Instr × Nat):=[(0,.getstatic 38,3),(3,.ifCond .eq 10,3),(6,.aload_n 0,1),(7,.getfield 15,3),(10,.goto 4,3),(14,.ireturn,1)]
theorem D25 : ∀ q∈L25,decode jdk_42_method_152_code q.1 = .ok q.2:=by decide +kernel
theorem own_co0 (l:Launch) (Z:State) (a0:Array Value) (hw:∀ d∈tables_1,d.before a0 Z = true) (ws:List Jvm.Cond) (a1:Addr) (w1:Int32) (h0:Heap) (O0:Old Z Z.heap.size h0) (S1:Sta Z Z.heap "java/lang/String" "COMPACT_STRINGS" "Z" (.int w1)) (hw1:¬ (w1 = (0:Int32))) (Fc:Fld Z h0 a1 "java/lang/String" "coder" "B" (.int 0)) :
    own_Met l Z (⟨"java/lang/String","coder","()B"⟩ : MethodName) jdk_42_method_152_code 1 (some .byte) ws (⟨0,0,0,0⟩ : Room) #[(.ref a1)] h0 (fun v h L=>v = some (.int 0)∧Fr Z.heap.size L∧h = h0) 0 0:=by
  refine own_bodyA (ef:=fun m=>mkF m 0 #[.val (.ref a1)] []) (plainFor_of_name own_pn7) ?_
  intro p e s m below meth c T0 hx hZ hby hml hown hnm hret hlk X0 e0
  have N0:=Fr.nil Z.heap.size
  obtain ⟨T1,X1,e1,st1⟩:=getS2 X0 hx hZ hown (host:="") (Or.inl (oW hw 110 rfl)) Via.refl e0 (Sta.ext O0.2 S1) (g:=(mkF m 0 #[vr a1] [])) rfl (dE hby D25 0 rfl)
  refine oS st1 ?_
  show gH (T1.setTop (mkF m 3 #[vr a1] [(.int w1)])) ..
  refine oS (fun _=>XS.ifNo X1.here hx rfl (dE hby D25 1 rfl) rfl ((if0 _ _).trans (feq hw1).1)) ?_
  refine oS (fun _=>XS.aloadN X1.here hx rfl (dE hby D25 2 rfl) rfl rfl) ?_
  obtain ⟨T2,X2,e2,st2⟩:=getF X1 hx hZ hown (host:="") (Or.inl (oW hw 76 rfl)) Via.refl e1 Fc (g:=(mkF m 7 #[vr a1] [(.ref a1)])) rfl rfl (dE hby D25 3 rfl)
  refine oS st2 ?_
  show gH (T2.setTop (mkF m 10 #[vr a1] [(.int 0)])) ..
  refine oS (fun _=>XS.goto X2.here hx rfl (pc0:=10) (pc':=14) rfl (dE hby D25 4 rfl) (by decide) (by decide)) ?_
  show gH (T2.setTop (mkF m 14 #[vr a1] [(.int 0)])) ..
  exact own_retN X2 hx hret hlk (by simp) (dE hby D25 5 rfl) (by rw [e2]; exact ⟨rfl,N0,rfl⟩) (by decide) (by decide)
theorem own_co1 (l:Launch) (Z:State) (a0:Array Value) (hw:∀ d∈tables_1,d.before a0 Z = true) (ws:List Jvm.Cond) (a1:Addr) (w1:Int32) (h0:Heap) (O0:Old Z Z.heap.size h0) (S1:Sta Z Z.heap "java/lang/String" "COMPACT_STRINGS" "Z" (.int w1)) (hw1:¬ (w1 = (0:Int32))) (Fc:Fld Z h0 a1 "java/lang/String" "coder" "B" (.int 1)) :
    own_Met l Z (⟨"java/lang/String","coder","()B"⟩ : MethodName) jdk_42_method_152_code 1 (some .byte) ws (⟨0,0,0,0⟩ : Room) #[(.ref a1)] h0 (fun v h L=>v = some (.int 1)∧Fr Z.heap.size L∧h = h0) 0 0:=by
  refine own_bodyA (ef:=fun m=>mkF m 0 #[.val (.ref a1)] []) (plainFor_of_name own_pn7) ?_
  intro p e s m below meth c T0 hx hZ hby hml hown hnm hret hlk X0 e0
  have N0:=Fr.nil Z.heap.size
  obtain ⟨T1,X1,e1,st1⟩:=getS2 X0 hx hZ hown (host:="") (Or.inl (oW hw 110 rfl)) Via.refl e0 (Sta.ext O0.2 S1) (g:=(mkF m 0 #[vr a1] [])) rfl (dE hby D25 0 rfl)
  refine oS st1 ?_
  show gH (T1.setTop (mkF m 3 #[vr a1] [(.int w1)])) ..
  refine oS (fun _=>XS.ifNo X1.here hx rfl (dE hby D25 1 rfl) rfl ((if0 _ _).trans (feq hw1).1)) ?_
  refine oS (fun _=>XS.aloadN X1.here hx rfl (dE hby D25 2 rfl) rfl rfl) ?_
  obtain ⟨T2,X2,e2,st2⟩:=getF X1 hx hZ hown (host:="") (Or.inl (oW hw 76 rfl)) Via.refl e1 Fc (g:=(mkF m 7 #[vr a1] [(.ref a1)])) rfl rfl (dE hby D25 3 rfl)
  refine oS st2 ?_
  show gH (T2.setTop (mkF m 10 #[vr a1] [(.int 1)])) ..
  refine oS (fun _=>XS.goto X2.here hx rfl (pc0:=10) (pc':=14) rfl (dE hby D25 4 rfl) (by decide) (by decide)) ?_
  show gH (T2.setTop (mkF m 14 #[vr a1] [(.int 1)])) ..
  exact own_retN X2 hx hret hlk (by simp) (dE hby D25 5 rfl) (by rw [e2]; exact ⟨rfl,N0,rfl⟩) (by decide) (by decide)
def own_u1 (c:Int32) : List Value:=if c < (128:Int32) then [.int (own_lo c)] else if c < (2048:Int32) then [.int (own_lo ((192:Int32)|||(c>>>((6:Int32)&&&31)))),.int (own_lo ((128:Int32)|||(c&&&(63:Int32))))] else [.int (own_lo ((224:Int32)|||(c>>>((12:Int32)&&&31)))),.int (own_lo ((128:Int32)|||((c>>>((6:Int32)&&&31))&&&(63:Int32)))),.int (own_lo ((128:Int32)|||(c&&&(63:Int32))))]
def own_u4 (u:Int32) : List Value:=[.int (own_lo ((240:Int32)|||(u>>>((18:Int32)&&&31)))),.int (own_lo ((128:Int32)|||((u>>>((12:Int32)&&&31))&&&(63:Int32)))),.int (own_lo ((128:Int32)|||((u>>>((6:Int32)&&&31))&&&(63:Int32)))),.int (own_lo ((128:Int32)|||(u&&&(63:Int32))))]
def own_cpt (c d : Int32) : Int32:=((c<<<((10:Int32)&&&31))+d)+(-56613888:Int32)
def own_sur (c:Int32) : Prop:=55296≤c.toInt∧c.toInt < 57344
def own_hs (c:Int32) : Prop:=55296≤c.toInt∧c.toInt < 56320
def own_ls (c:Int32) : Prop:=56320≤c.toInt∧c.toInt < 57344
instance (c:Int32) : Decidable (own_sur c):=inferInstanceAs (Decidable (_∧_))
/-- a text's bytes in UTF-8 -/
def own_u8 : List Int32→List Value
  | []=>[]
  | [c]=>own_u1 c
  | c :: d :: r=>if own_sur c then own_u4 (own_cpt c d)++own_u8 r else own_u1 c++own_u8 (d :: r)
/-- no surrogate stands alone -/
def own_wf : List Int32→Prop
  | []=>True
  | [c]=>¬ own_sur c
  | c :: d :: r=>(own_sur c→own_hs c∧own_ls d∧own_wf r)∧(¬ own_sur c→own_wf (d :: r))
theorem own_u8_cons {c:Int32} (h:¬ own_sur c) : ∀ r,own_u8 (c :: r) = own_u1 c++own_u8 r
  | []=>(List.append_nil _).symm
  | d :: r=>if_neg h
theorem own_u8_pair {c d : Int32} (h:own_sur c) (r:List Int32) : own_u8 (c :: d :: r) = own_u4 (own_cpt c d)++own_u8 r:=if_pos h
theorem own_wf_cons {c:Int32} (h:¬ own_sur c) : ∀ {r},own_wf (c :: r)→own_wf r
  | [],_=>trivial
  | _ :: _,q=>q.2 h
theorem own_wf_sur {c:Int32} (h:own_sur c) : ∀ {r},own_wf (c :: r)→∃ d r',r = d :: r'∧own_hs c∧own_ls d∧own_wf r'
  | [],q=>absurd h q
  | d :: r',q=>⟨d,r',rfl,q.1 h⟩
theorem own_low {c:Int32} (h:c < (128:Int32)) : ¬ own_sur c:=by
  rw [Int32.lt_iff_toInt_lt,show (128:Int32).toInt = 128 from rfl] at h
  exact fun q=>by have:=q.1; omega
theorem own_mid {c:Int32} (h:c < (2048:Int32)) : ¬ own_sur c:=by
  rw [Int32.lt_iff_toInt_lt,show (2048:Int32).toInt = 2048 from rfl] at h
  exact fun q=>by have:=q.1; omega
theorem own_u1a {c:Int32} (h:c < (128:Int32)) : own_u1 c = [.int (own_lo c)]:=if_pos h
theorem own_u1b {c:Int32} (h:¬ c < (128:Int32)) (h2:c < (2048:Int32)) : own_u1 c = [.int (own_lo ((192:Int32)|||(c>>>((6:Int32)&&&31)))),.int (own_lo ((128:Int32)|||(c&&&(63:Int32))))]:=by unfold own_u1; rw [if_neg h,if_pos h2]
theorem own_u1c {c:Int32} (h:¬ c < (128:Int32)) (h2:¬ c < (2048:Int32)) : own_u1 c = [.int (own_lo ((224:Int32)|||(c>>>((12:Int32)&&&31)))),.int (own_lo ((128:Int32)|||((c>>>((6:Int32)&&&31))&&&(63:Int32)))),.int (own_lo ((128:Int32)|||(c&&&(63:Int32))))]:=by unfold own_u1; rw [if_neg h,if_neg h2]
theorem own_cpt_ge {a b : Int32} (ha:own_hs a) (hb:own_ls b) : 65536≤(own_cpt a b).toInt:=by
  unfold own_cpt
  have h1:=c_ishl a 10 10 rfl
  have h2:=c_iadd (a<<<((10:Int32)&&&31)) b
  have h3:=c_iadd ((a<<<((10:Int32)&&&31))+b) (-56613888)
  have r1:=rng32 (a<<<((10:Int32)&&&31))
  have r2:=rng32 ((a<<<((10:Int32)&&&31))+b)
  have r3:=rng32 (((a<<<((10:Int32)&&&31))+b)+(-56613888:Int32))
  have e : (-56613888:Int32).toInt = -56613888:=rfl
  rw [e] at h3
  have ha1:=ha.1
  have ha2:=ha.2
  have hb1:=hb.1
  have hb2:=hb.2
  omega
theorem own_lo_spec (c:Int32) : ((own_lo c).toInt - c.toInt) % 256 = 0∧-128≤(own_lo c).toInt∧(own_lo c).toInt < 128:=by
  have a:=c_i2b c
  have b : ((own_lo c).toInt - (c.toInt8.toInt32).toInt) % 256 = 0∧-128≤(own_lo c).toInt∧(own_lo c).toInt < 128:=c_i2b (c.toInt8.toInt32)
  omega
theorem own_lo_lo (c:Int32) : nar .byte (own_lo c) = own_lo c:=by
  apply Int32.toInt_inj.mp
  have b:=own_lo_spec c
  have d : ((nar .byte (own_lo c)).toInt - (own_lo c).toInt) % 256 = 0∧-128≤(nar .byte (own_lo c)).toInt∧(nar .byte (own_lo c)).toInt < 128:=c_i2b (own_lo c)
  omega
theorem own_lo_lo' (c:Int32) : (own_lo c).toInt8.toInt32 = own_lo c:=own_lo_lo c
theorem own_lo_mask {c:Int32} (h0:0≤c.toInt) (h1:¬ (255:Int32) < c) : own_lo c&&&(255:Int32) = c:=by
  apply Int32.toInt_inj.mp
  simp only [Int32.lt_iff_toInt_lt,Int32.reduceToInt] at h1
  rw [c_mask (own_lo c) 255 8 (by decide) rfl]
  have b:=own_lo_spec c
  omega
theorem own_lo_63 (c:Int32) : own_lo c&&&(63:Int32) = c&&&(63:Int32):=by
  apply Int32.toInt_inj.mp
  rw [c_mask (own_lo c) 63 6 (by decide) rfl,c_mask c 63 6 (by decide) rfl]
  have b:=own_lo_spec c
  omega
theorem own_lo_neg {c:Int32} (h0:0≤c.toInt) (h1:¬ (255:Int32) < c) : own_lo c < (0:Int32) ↔ ¬ c < (128:Int32):=by
  simp only [Int32.lt_iff_toInt_lt,Int32.reduceToInt] at h1 ⊢
  have b:=own_lo_spec c
  omega
theorem own_pn25 : plainName "java/lang/Character" = true:=by first | (simp [plainName,overriddenIn]; done) | decide +kernel
def L26 : List (Nat × Instr × Nat):=[(0,.iload_n 0,1),(1,.ldc 75,2),(3,.if_icmp .lt 13,3),(16,.iconst 0,1),(17,.ireturn,1),(6,.iload_n 0,1),(7,.ldc 77,2),(9,.if_icmp .ge 7,3),(12,.iconst 1,1),(13,.goto 4,3)]
theorem D26 : ∀ q∈L26,decode jdk_89_method_16_code q.1 = .ok q.2:=by decide +kernel
theorem own_surS (l:Launch) (Z:State) (a0:Array Value) (hw:∀ d∈tables_1,d.before a0 Z = true) (ws:List Jvm.Cond) (c0:Int32)  (h0:Heap) (O0:Old Z Z.heap.size h0)  :
    own_Met l Z (⟨"java/lang/Character","isSurrogate","(C)Z"⟩ : MethodName) jdk_89_method_16_code 1 (some .boolean) ws (⟨0,0,0,0⟩ : Room) #[(.int c0)] h0 (fun v h L=>∃ r : Int32,v = some (.int r)∧Fr Z.heap.size L∧h = h0∧((r = 1∧own_sur c0) ∨ (r = 0∧¬ own_sur c0))) 0 0:=by
  refine own_bodyA (ef:=fun m=>mkF m 0 #[.val (.int c0)] []) (plainFor_of_name own_pn25) ?_
  intro p e s m below meth c T0 hx hZ hby hml hown hnm hret hlk X0 e0
  have N0:=Fr.nil Z.heap.size
  have z0 : Z.heap.size≤h0.size:=O0.2.1
  show gH (T0.setTop (mkF m 0 #[vi c0] [])) ..
  refine oS (fun _=>XS.iloadN X0.here hx rfl (dE hby D26 0 rfl) rfl) ?_
  show gH (T0.setTop (mkF m 1 #[vi c0] [(.int c0)])) ..
  refine oS (X0.ldcInt hx hown (mvT hZ (oW hw 323 rfl)) (g:=(mkF m 1 #[vi c0] [(.int c0)])) rfl (dE hby D26 1 rfl)) ?_
  show gH (T0.setTop (mkF m 3 #[vi c0] [(.int 55296),(.int c0)])) ..
  by_cases h1 : c0 < (55296:Int32)
  · skip
    refine oS (fun _=>XS.icmpYes X0.here hx rfl (pc0:=3) (pc':=16) rfl (dE hby D26 2 rfl) rfl (tlt h1).1 (by decide) (by decide)) ?_
    refine oS (fun _=>XS.iconst X0.here hx rfl (dE hby D26 3 rfl)) ?_
    show gH (T0.setTop (mkF m 17 #[vi c0] [(.int 0)])) ..
    exact own_retN X0 hx hret hlk (by simp) (dE hby D26 4 rfl) (by rw [e0]; exact ⟨0,rfl,N0,rfl,Or.inr ⟨rfl,fun q=>by simp only [Int32.lt_iff_toInt_lt,Int32.reduceToInt] at h1; have:=q.1; omega⟩⟩) (by decide) (by decide)
  · show gH (T0.setTop (mkF m 3 #[vi c0] [(.int 55296),(.int c0)])) ..
    refine oS (fun _=>XS.icmpNo X0.here hx rfl (dE hby D26 2 rfl) rfl (flt h1).1) ?_
    refine oS (fun _=>XS.iloadN X0.here hx rfl (dE hby D26 5 rfl) rfl) ?_
    show gH (T0.setTop (mkF m 7 #[vi c0] [(.int c0)])) ..
    refine oS (X0.ldcInt hx hown (mvT hZ (oW hw 324 rfl)) (g:=(mkF m 7 #[vi c0] [(.int c0)])) rfl (dE hby D26 6 rfl)) ?_
    show gH (T0.setTop (mkF m 9 #[vi c0] [(.int 57344),(.int c0)])) ..
    by_cases h2 : c0 < (57344:Int32)
    · skip
      refine oS (fun _=>XS.icmpNo X0.here hx rfl (dE hby D26 7 rfl) rfl (tlt h2).2.1) ?_
      refine oS (fun _=>XS.iconst X0.here hx rfl (dE hby D26 8 rfl)) ?_
      refine oS (fun _=>XS.goto X0.here hx rfl (pc0:=13) (pc':=17) rfl (dE hby D26 9 rfl) (by decide) (by decide)) ?_
      show gH (T0.setTop (mkF m 17 #[vi c0] [(.int 1)])) ..
      exact own_retN X0 hx hret hlk (by simp) (dE hby D26 4 rfl) (by rw [e0]; exact ⟨1,rfl,N0,rfl,Or.inl ⟨rfl,by simp only [Int32.lt_iff_toInt_lt,Int32.reduceToInt] at h1 h2; exact ⟨by omega,by omega⟩⟩⟩) (by decide) (by decide)
    · show gH (T0.setTop (mkF m 9 #[vi c0] [(.int 57344),(.int c0)])) ..
      refine oS (fun _=>XS.icmpYes X0.here hx rfl (pc0:=9) (pc':=16) rfl (dE hby D26 7 rfl) rfl (flt h2).2.1 (by decide) (by decide)) ?_
      refine oS (fun _=>XS.iconst X0.here hx rfl (dE hby D26 3 rfl)) ?_
      show gH (T0.setTop (mkF m 17 #[vi c0] [(.int 0)])) ..
      exact own_retN X0 hx hret hlk (by simp) (dE hby D26 4 rfl) (by rw [e0]; exact ⟨0,rfl,N0,rfl,Or.inr ⟨rfl,fun q=>by simp only [Int32.lt_iff_toInt_lt,Int32.reduceToInt] at h2; have:=q.2; omega⟩⟩) (by decide) (by decide)
def L27 : List (Nat × Instr × Nat):=[(0,.iload_n 0,1),(1,.ldc 75,2),(3,.if_icmp .lt 13,3),(16,.iconst 0,1),(17,.ireturn,1),(6,.iload_n 0,1),(7,.ldc 76,2),(9,.if_icmp .ge 7,3),(12,.iconst 1,1),(13,.goto 4,3)]
theorem D27 : ∀ q∈L27,decode jdk_89_method_14_code q.1 = .ok q.2:=by decide +kernel
theorem own_hiS (l:Launch) (Z:State) (a0:Array Value) (hw:∀ d∈tables_1,d.before a0 Z = true) (ws:List Jvm.Cond) (c0:Int32)  (h0:Heap) (O0:Old Z Z.heap.size h0)  :
    own_Met l Z (⟨"java/lang/Character","isHighSurrogate","(C)Z"⟩ : MethodName) jdk_89_method_14_code 1 (some .boolean) ws (⟨0,0,0,0⟩ : Room) #[(.int c0)] h0 (fun v h L=>∃ r : Int32,v = some (.int r)∧Fr Z.heap.size L∧h = h0∧((r = 1∧own_hs c0) ∨ (r = 0∧¬ own_hs c0))) 0 0:=by
  refine own_bodyA (ef:=fun m=>mkF m 0 #[.val (.int c0)] []) (plainFor_of_name own_pn25) ?_
  intro p e s m below meth c T0 hx hZ hby hml hown hnm hret hlk X0 e0
  have N0:=Fr.nil Z.heap.size
  have z0 : Z.heap.size≤h0.size:=O0.2.1
  show gH (T0.setTop (mkF m 0 #[vi c0] [])) ..
  refine oS (fun _=>XS.iloadN X0.here hx rfl (dE hby D27 0 rfl) rfl) ?_
  show gH (T0.setTop (mkF m 1 #[vi c0] [(.int c0)])) ..
  refine oS (X0.ldcInt hx hown (mvT hZ (oW hw 323 rfl)) (g:=(mkF m 1 #[vi c0] [(.int c0)])) rfl (dE hby D27 1 rfl)) ?_
  show gH (T0.setTop (mkF m 3 #[vi c0] [(.int 55296),(.int c0)])) ..
  by_cases h1 : c0 < (55296:Int32)
  · skip
    refine oS (fun _=>XS.icmpYes X0.here hx rfl (pc0:=3) (pc':=16) rfl (dE hby D27 2 rfl) rfl (tlt h1).1 (by decide) (by decide)) ?_
    refine oS (fun _=>XS.iconst X0.here hx rfl (dE hby D27 3 rfl)) ?_
    show gH (T0.setTop (mkF m 17 #[vi c0] [(.int 0)])) ..
    exact own_retN X0 hx hret hlk (by simp) (dE hby D27 4 rfl) (by rw [e0]; exact ⟨0,rfl,N0,rfl,Or.inr ⟨rfl,fun q=>by simp only [Int32.lt_iff_toInt_lt,Int32.reduceToInt] at h1; have:=q.1; omega⟩⟩) (by decide) (by decide)
  · show gH (T0.setTop (mkF m 3 #[vi c0] [(.int 55296),(.int c0)])) ..
    refine oS (fun _=>XS.icmpNo X0.here hx rfl (dE hby D27 2 rfl) rfl (flt h1).1) ?_
    refine oS (fun _=>XS.iloadN X0.here hx rfl (dE hby D27 5 rfl) rfl) ?_
    show gH (T0.setTop (mkF m 7 #[vi c0] [(.int c0)])) ..
    refine oS (X0.ldcInt hx hown (mvT hZ (oW hw 328 rfl)) (g:=(mkF m 7 #[vi c0] [(.int c0)])) rfl (dE hby D27 6 rfl)) ?_
    show gH (T0.setTop (mkF m 9 #[vi c0] [(.int 56320),(.int c0)])) ..
    by_cases h2 : c0 < (56320:Int32)
    · skip
      refine oS (fun _=>XS.icmpNo X0.here hx rfl (dE hby D27 7 rfl) rfl (tlt h2).2.1) ?_
      refine oS (fun _=>XS.iconst X0.here hx rfl (dE hby D27 8 rfl)) ?_
      refine oS (fun _=>XS.goto X0.here hx rfl (pc0:=13) (pc':=17) rfl (dE hby D27 9 rfl) (by decide) (by decide)) ?_
      show gH (T0.setTop (mkF m 17 #[vi c0] [(.int 1)])) ..
      exact own_retN X0 hx hret hlk (by simp) (dE hby D27 4 rfl) (by rw [e0]; exact ⟨1,rfl,N0,rfl,Or.inl ⟨rfl,by simp only [Int32.lt_iff_toInt_lt,Int32.reduceToInt] at h1 h2; exact ⟨by omega,by omega⟩⟩⟩) (by decide) (by decide)
    · show gH (T0.setTop (mkF m 9 #[vi c0] [(.int 56320),(.int c0)])) ..
      refine oS (fun _=>XS.icmpYes X0.here hx rfl (pc0:=9) (pc':=16) rfl (dE hby D27 7 rfl) rfl (flt h2).2.1 (by decide) (by decide)) ?_
      refine oS (fun _=>XS.iconst X0.here hx rfl (dE hby D27 3 rfl)) ?_
      show gH (T0.setTop (mkF m 17 #[vi c0] [(.int 0)])) ..
      exact own_retN X0 hx hret hlk (by simp) (dE hby D27 4 rfl) (by rw [e0]; exact ⟨0,rfl,N0,rfl,Or.inr ⟨rfl,fun q=>by simp only [Int32.lt_iff_toInt_lt,Int32.reduceToInt] at h2; have:=q.2; omega⟩⟩) (by decide) (by decide)
def L28 : List (Nat × Instr × Nat):=[(0,.iload_n 0,1),(1,.ldc 76,2),(3,.if_icmp .lt 13,3),(16,.iconst 0,1),(17,.ireturn,1),(6,.iload_n 0,1),(7,.ldc 77,2),(9,.if_icmp .ge 7,3),(12,.iconst 1,1),(13,.goto 4,3)]
theorem D28 : ∀ q∈L28,decode jdk_89_method_15_code q.1 = .ok q.2:=by decide +kernel
theorem own_loS (l:Launch) (Z:State) (a0:Array Value) (hw:∀ d∈tables_1,d.before a0 Z = true) (ws:List Jvm.Cond) (c0:Int32)  (h0:Heap) (O0:Old Z Z.heap.size h0)  :
    own_Met l Z (⟨"java/lang/Character","isLowSurrogate","(C)Z"⟩ : MethodName) jdk_89_method_15_code 1 (some .boolean) ws (⟨0,0,0,0⟩ : Room) #[(.int c0)] h0 (fun v h L=>∃ r : Int32,v = some (.int r)∧Fr Z.heap.size L∧h = h0∧((r = 1∧own_ls c0) ∨ (r = 0∧¬ own_ls c0))) 0 0:=by
  refine own_bodyA (ef:=fun m=>mkF m 0 #[.val (.int c0)] []) (plainFor_of_name own_pn25) ?_
  intro p e s m below meth c T0 hx hZ hby hml hown hnm hret hlk X0 e0
  have N0:=Fr.nil Z.heap.size
  have z0 : Z.heap.size≤h0.size:=O0.2.1
  show gH (T0.setTop (mkF m 0 #[vi c0] [])) ..
  refine oS (fun _=>XS.iloadN X0.here hx rfl (dE hby D28 0 rfl) rfl) ?_
  show gH (T0.setTop (mkF m 1 #[vi c0] [(.int c0)])) ..
  refine oS (X0.ldcInt hx hown (mvT hZ (oW hw 328 rfl)) (g:=(mkF m 1 #[vi c0] [(.int c0)])) rfl (dE hby D28 1 rfl)) ?_
  show gH (T0.setTop (mkF m 3 #[vi c0] [(.int 56320),(.int c0)])) ..
  by_cases h1 : c0 < (56320:Int32)
  · skip
    refine oS (fun _=>XS.icmpYes X0.here hx rfl (pc0:=3) (pc':=16) rfl (dE hby D28 2 rfl) rfl (tlt h1).1 (by decide) (by decide)) ?_
    refine oS (fun _=>XS.iconst X0.here hx rfl (dE hby D28 3 rfl)) ?_
    show gH (T0.setTop (mkF m 17 #[vi c0] [(.int 0)])) ..
    exact own_retN X0 hx hret hlk (by simp) (dE hby D28 4 rfl) (by rw [e0]; exact ⟨0,rfl,N0,rfl,Or.inr ⟨rfl,fun q=>by simp only [Int32.lt_iff_toInt_lt,Int32.reduceToInt] at h1; have:=q.1; omega⟩⟩) (by decide) (by decide)
  · show gH (T0.setTop (mkF m 3 #[vi c0] [(.int 56320),(.int c0)])) ..
    refine oS (fun _=>XS.icmpNo X0.here hx rfl (dE hby D28 2 rfl) rfl (flt h1).1) ?_
    refine oS (fun _=>XS.iloadN X0.here hx rfl (dE hby D28 5 rfl) rfl) ?_
    show gH (T0.setTop (mkF m 7 #[vi c0] [(.int c0)])) ..
    refine oS (X0.ldcInt hx hown (mvT hZ (oW hw 324 rfl)) (g:=(mkF m 7 #[vi c0] [(.int c0)])) rfl (dE hby D28 6 rfl)) ?_
    show gH (T0.setTop (mkF m 9 #[vi c0] [(.int 57344),(.int c0)])) ..
    by_cases h2 : c0 < (57344:Int32)
    · skip
      refine oS (fun _=>XS.icmpNo X0.here hx rfl (dE hby D28 7 rfl) rfl (tlt h2).2.1) ?_
      refine oS (fun _=>XS.iconst X0.here hx rfl (dE hby D28 8 rfl)) ?_
      refine oS (fun _=>XS.goto X0.here hx rfl (pc0:=13) (pc':=17) rfl (dE hby D28 9 rfl) (by decide) (by decide)) ?_
      show gH (T0.setTop (mkF m 17 #[vi c0] [(.int 1)])) ..
      exact own_retN X0 hx hret hlk (by simp) (dE hby D28 4 rfl) (by rw [e0]; exact ⟨1,rfl,N0,rfl,Or.inl ⟨rfl,by simp only [Int32.lt_iff_toInt_lt,Int32.reduceToInt] at h1 h2; exact ⟨by omega,by omega⟩⟩⟩) (by decide) (by decide)
    · show gH (T0.setTop (mkF m 9 #[vi c0] [(.int 57344),(.int c0)])) ..
      refine oS (fun _=>XS.icmpYes X0.here hx rfl (pc0:=9) (pc':=16) rfl (dE hby D28 7 rfl) rfl (flt h2).2.1 (by decide) (by decide)) ?_
      refine oS (fun _=>XS.iconst X0.here hx rfl (dE hby D28 3 rfl)) ?_
      show gH (T0.setTop (mkF m 17 #[vi c0] [(.int 0)])) ..
      exact own_retN X0 hx hret hlk (by simp) (dE hby D28 4 rfl) (by rw [e0]; exact ⟨0,rfl,N0,rfl,Or.inr ⟨rfl,fun q=>by simp only [Int32.lt_iff_toInt_lt,Int32.reduceToInt] at h2; have:=q.2; omega⟩⟩) (by decide) (by decide)
def L29 : List (Nat × Instr × Nat):=[(0,.iload_n 0,1),(1,.bipush 10,2),(3,.ishl,1),(4,.iload_n 1,1),(5,.iadd,1),(6,.ldc 85,2),(8,.iadd,1),(9,.ireturn,1)]
theorem D29 : ∀ q∈L29,decode jdk_89_method_19_code q.1 = .ok q.2:=by decide +kernel
theorem own_tcp (l:Launch) (Z:State) (a0:Array Value) (hw:∀ d∈tables_1,d.before a0 Z = true) (ws:List Jvm.Cond) (c1:Int32) (c2:Int32)  (h0:Heap) (O0:Old Z Z.heap.size h0)  :
    own_Met l Z (⟨"java/lang/Character","toCodePoint","(CC)I"⟩ : MethodName) jdk_89_method_19_code 2 (some .int) ws (⟨0,0,0,0⟩ : Room) #[(.int c1),(.int c2)] h0 (fun v h L=>v = some (.int (own_cpt c1 c2))∧Fr Z.heap.size L∧h = h0) 0 0:=by
  refine own_bodyA (ef:=fun m=>mkF m 0 #[.val (.int c1),.val (.int c2)] []) (plainFor_of_name own_pn25) ?_
  intro p e s m below meth c T0 hx hZ hby hml hown hnm hret hlk X0 e0
  have N0:=Fr.nil Z.heap.size
  show gH (T0.setTop (mkF m 0 #[vi c1,vi c2] [])) ..
  refine oS (fun _=>XS.iloadN X0.here hx rfl (dE hby D29 0 rfl) rfl) ?_
  refine oS (fun _=>XS.bipush X0.here hx rfl (dE hby D29 1 rfl)) ?_
  refine oS (fun _=>XS.ishl X0.here hx rfl (dE hby D29 2 rfl) rfl) ?_
  refine oS (fun _=>XS.iloadN X0.here hx rfl (dE hby D29 3 rfl) rfl) ?_
  refine oS (fun _=>XS.iadd X0.here hx rfl (dE hby D29 4 rfl) rfl) ?_
  show gH (T0.setTop (mkF m 6 #[vi c1,vi c2] [(.int ((c1<<<((10:Int32)&&&31))+c2))])) ..
  refine oS (X0.ldcInt hx hown (mvT hZ (oW hw 335 rfl)) (g:=(mkF m 6 #[vi c1,vi c2] [(.int ((c1<<<((10:Int32)&&&31))+c2))])) rfl (dE hby D29 5 rfl)) ?_
  show gH (T0.setTop (mkF m 8 #[vi c1,vi c2] [(.int (-56613888)),(.int ((c1<<<((10:Int32)&&&31))+c2))])) ..
  refine oS (fun _=>XS.iadd X0.here hx rfl (dE hby D29 6 rfl) rfl) ?_
  show gH (T0.setTop (mkF m 9 #[vi c1,vi c2] [(.int (((c1<<<((10:Int32)&&&31))+c2)+(-56613888:Int32)))])) ..
  exact own_retI X0 hx hret hlk (dE hby D29 7 rfl) (by rw [e0]; exact ⟨rfl,N0,rfl⟩) (by decide) (by decide)
theorem own_getC (l:Launch) (Z:State) (a0:Array Value) (hw:∀ d∈tables_1,d.before a0 Z = true) (ws:List Jvm.Cond) (a1:Addr) (i n : Nat) (c1:Int32) (vs:List Value) (kb:ClassId) (h0:Heap) (O0:Old Z Z.heap.size h0) (US:own_US Z) (hi:i < n) (hn:n≤16) (hc:0≤c1.toInt∧c1.toInt < 65536) (v0:vs.getD (2 * i) (.int 0) = .int (own_b0 c1)) (v1:vs.getD (2 * i+1) (.int 0) = .int (own_b1 c1)) (V1:Arv Z h0 a1 kb .byte (Int32.ofNat (2 * n)) vs (.int 0)) :
    own_Met l Z (⟨"java/lang/StringUTF16","getChar","([BI)C"⟩ : MethodName) jdk_52_method_5_code 2 (some .char) ws (⟨0,0,0,0⟩ : Room) #[(.ref a1),(.int (.ofNat i))] h0 (fun v h L=>v = some (.int c1)∧Fr Z.heap.size L∧h = h0) 0 0:=by
  refine own_bodyA (ef:=fun m=>mkF m 0 #[.val (.ref a1),.val (.int (Int32.ofNat i))] []) (plainFor_of_name own_pn0) ?_
  intro p e s m below meth c T0 hx hZ hby hml hown hnm hret hlk X0 e0
  have N0:=Fr.nil Z.heap.size
  have z0 : Z.heap.size≤h0.size:=O0.2.1
  show gH (T0.setTop (mkF m 0 #[vr a1,vi (.ofNat i)] [])) ..
  obtain ⟨U1,U2,U3⟩:=US
  obtain ⟨T1,X1,e1,st1⟩:=getS2 X0 hx hZ hown (host:="") (Or.inl (oW hw 163 rfl)) Via.refl e0 (Sta.ext O0.2 U1) (g:=(mkF m 0 #[vr a1,vi (.ofNat i)] [])) rfl (dE hby D0 0 rfl)
  refine oS st1 ?_
  show gH (T1.setTop (mkF m 3 #[vr a1,vi (.ofNat i)] [(.int 1)])) ..
  refine oS (fun _=>XS.ifYes X1.here hx rfl (pc0:=3) (pc':=28) rfl (dE hby D0 1 rfl) rfl ((if0 _ _).trans (feq (by decide)).2) (by decide) (by decide)) ?_
  refine oS (fun _=>XS.iloadN X1.here hx rfl (dE hby D0 2 rfl) rfl) ?_
  refine oS (fun _=>XS.iconst X1.here hx rfl (dE hby D0 3 rfl)) ?_
  refine oS (fun _=>XS.ishl X1.here hx rfl (dE hby D0 4 rfl) rfl) ?_
  show gH (T1.setTop (mkF m 31 #[vr a1,vi (.ofNat i)] [(.int ((Int32.ofNat i)<<<((1:Int32)&&&31)))])) ..
  rw [own_shl1 (by omega)]
  show gH (T1.setTop (mkF m 31 #[vr a1,vi (.ofNat i)] [(.int (.ofNat (2 * i)))])) ..
  refine oS (fun _=>XS.istoreN X1.here hx rfl (dE hby D0 5 rfl) rfl (l':=#[vr a1,vi (.ofNat (2 * i))]) rfl) ?_
  refine oS (fun _=>XS.aloadN X1.here hx rfl (dE hby D0 6 rfl) rfl rfl) ?_
  refine oS (fun _=>XS.iloadN X1.here hx rfl (dE hby D0 7 rfl) rfl) ?_
  refine oS (fun _=>XS.iinc X1.here hx rfl (dE hby D0 8 rfl) rfl (l':=#[vr a1,vi ((Int32.ofNat (2 * i))+(1:Int32))]) rfl) ?_
  show gH (T1.setTop (mkF m 37 #[vr a1,vi ((Int32.ofNat (2 * i))+(1:Int32))] [(.int (.ofNat (2 * i))),(.ref a1)])) ..
  obtain ⟨cl2,Ar2,qk2,Sz2,Mz2,Hz2,Uz2⟩:=id V1
  refine oS (X1.baloadBytes hx (j:=(Int32.ofNat (2 * i))) (v:=(.int (own_b0 c1))) (by rw [e1]; exact Ar2.1) (State.isArrayOf_alike hZ.alike Ar2.2.1) Ar2.2.2 (oI Sz2 (by omega) (by omega)) (oR Sz2 Hz2 (by omega) (by omega) v0) (g:=(mkF m 37 #[vr a1,vi ((Int32.ofNat (2 * i))+(1:Int32))] [(.int (.ofNat (2 * i))),(.ref a1)])) rfl rfl (dE hby D0 9 rfl)) ?_
  show gH (T1.setTop (mkF m 38 #[vr a1,vi ((Int32.ofNat (2 * i))+(1:Int32))] [(.int (own_b0 c1))])) ..
  rw [oO]
  show gH (T1.setTop (mkF m 38 #[vr a1,vi (.ofNat (2 * i+1))] [(.int (own_b0 c1))])) ..
  refine oS (fun _=>XS.sipush X1.here hx rfl (dE hby D0 10 rfl)) ?_
  refine oS (fun _=>XS.iand X1.here hx rfl (dE hby D0 11 rfl) rfl) ?_
  obtain ⟨T3,X3,e3,st3⟩:=getS2 X1 hx hZ hown (host:="") (Or.inl (oW hw 164 rfl)) Via.refl e1 (Sta.ext O0.2 U2) (g:=(mkF m 42 #[vr a1,vi (.ofNat (2 * i+1))] [(.int ((own_b0 c1)&&&(255:Int32)))])) rfl (dE hby D0 12 rfl)
  refine oS st3 ?_
  show gH (T3.setTop (mkF m 45 #[vr a1,vi (.ofNat (2 * i+1))] [(.int 0),(.int ((own_b0 c1)&&&(255:Int32)))])) ..
  refine oS (fun _=>XS.ishl X3.here hx rfl (dE hby D0 13 rfl) rfl) ?_
  refine oS (fun _=>XS.aloadN X3.here hx rfl (dE hby D0 14 rfl) rfl rfl) ?_
  refine oS (fun _=>XS.iloadN X3.here hx rfl (dE hby D0 15 rfl) rfl) ?_
  show gH (T3.setTop (mkF m 48 #[vr a1,vi (.ofNat (2 * i+1))] [(.int (.ofNat (2 * i+1))),(.ref a1),(.int (((own_b0 c1)&&&(255:Int32))<<<((0:Int32)&&&31)))])) ..
  obtain ⟨cl4,Ar4,qk4,Sz4,Mz4,Hz4,Uz4⟩:=id V1
  refine oS (X3.baloadBytes hx (j:=(Int32.ofNat (2 * i+1))) (v:=(.int (own_b1 c1))) (by rw [e3]; exact Ar4.1) (State.isArrayOf_alike hZ.alike Ar4.2.1) Ar4.2.2 (oI Sz4 (by omega) (by omega)) (oR Sz4 Hz4 (by omega) (by omega) v1) (g:=(mkF m 48 #[vr a1,vi (.ofNat (2 * i+1))] [(.int (.ofNat (2 * i+1))),(.ref a1),(.int (((own_b0 c1)&&&(255:Int32))<<<((0:Int32)&&&31)))])) rfl rfl (dE hby D0 16 rfl)) ?_
  show gH (T3.setTop (mkF m 49 #[vr a1,vi (.ofNat (2 * i+1))] [(.int (own_b1 c1)),(.int (((own_b0 c1)&&&(255:Int32))<<<((0:Int32)&&&31)))])) ..
  refine oS (fun _=>XS.sipush X3.here hx rfl (dE hby D0 17 rfl)) ?_
  refine oS (fun _=>XS.iand X3.here hx rfl (dE hby D0 18 rfl) rfl) ?_
  obtain ⟨T5,X5,e5,st5⟩:=getS2 X3 hx hZ hown (host:="") (Or.inl (oW hw 165 rfl)) Via.refl e3 (Sta.ext O0.2 U3) (g:=(mkF m 53 #[vr a1,vi (.ofNat (2 * i+1))] [(.int ((own_b1 c1)&&&(255:Int32))),(.int (((own_b0 c1)&&&(255:Int32))<<<((0:Int32)&&&31)))])) rfl (dE hby D0 19 rfl)
  refine oS st5 ?_
  show gH (T5.setTop (mkF m 56 #[vr a1,vi (.ofNat (2 * i+1))] [(.int 8),(.int ((own_b1 c1)&&&(255:Int32))),(.int (((own_b0 c1)&&&(255:Int32))<<<((0:Int32)&&&31)))])) ..
  refine oS (fun _=>XS.ishl X5.here hx rfl (dE hby D0 20 rfl) rfl) ?_
  refine oS (fun _=>XS.ior X5.here hx rfl (dE hby D0 21 rfl) rfl) ?_
  refine oS (fun _=>XS.i2c X5.here hx rfl (dE hby D0 22 rfl) rfl) ?_
  show gH (T5.setTop (mkF m 59 #[vr a1,vi (.ofNat (2 * i+1))] [(.int (((((own_b0 c1)&&&(255:Int32))<<<((0:Int32)&&&31))|||(((own_b1 c1)&&&(255:Int32))<<<((8:Int32)&&&31))).toUInt32.toUInt16.toUInt32.toInt32))])) ..
  exact own_retN X5 hx hret hlk (by simp) (dE hby D0 23 rfl) (by rw [e5]; exact ⟨by rw [own_pair hc.1 hc.2],N0,rfl⟩) (by decide) (by decide)
def L30 : List (Nat × Instr × Nat):=[(18,.iload_n 3,1),(19,.iload 4,2),(21,.if_icmp .ge 37,3),(24,.aload_n 0,1),(25,.iload_n 3,1),(26,.invokestatic 360,3),(29,.istore 6,2),(31,.iload 6,2),(33,.sipush 128,3),(36,.if_icmp .lt 6,3),(42,.aload 5,2),(44,.iload_n 2,1),(45,.iinc 2 1,3),(48,.iload 6,2),(50,.i2b,1),(51,.bastore,1),(52,.iinc 3 1,3),(55,.goto (-37),3),(39,.goto 19,3),(58,.iload_n 3,1),(59,.iload 4,2),(61,.if_icmp .ge 294,3),(64,.aload_n 0,1),(65,.iload_n 3,1),(66,.iinc 3 1,3),(69,.invokestatic 360,3),(72,.istore 6,2),(74,.iload 6,2),(76,.sipush 128,3),(79,.if_icmp .ge 16,3),(82,.aload 5,2),(84,.iload_n 2,1),(85,.iinc 2 1,3),(88,.iload 6,2),(90,.i2b,1),(91,.bastore,1),(92,.goto 260,3),(352,.goto (-294),3),(95,.iload 6,2),(97,.sipush 2048,3),(100,.if_icmp .ge 40,3),(103,.aload 5,2),(105,.iload_n 2,1),(106,.iinc 2 1,3),(109,.sipush 192,3),(112,.iload 6,2),(114,.bipush 6,2),(116,.ishr,1),(117,.ior,1),(118,.i2b,1),(119,.bastore,1),(120,.aload 5,2),(122,.iload_n 2,1),(123,.iinc 2 1,3),(126,.sipush 128,3),(129,.iload 6,2),(131,.bipush 63,2),(133,.iand,1),(134,.ior,1),(135,.i2b,1),(136,.bastore,1),(137,.goto 215,3),(140,.iload 6,2),(142,.invokestatic 404,3),(145,.ifCond .eq 153,3),(298,.aload 5,2),(300,.iload_n 2,1),(301,.iinc 2 1,3),(304,.sipush 224,3),(307,.iload 6,2),(309,.bipush 12,2),(311,.ishr,1),(312,.ior,1),(313,.i2b,1),(314,.bastore,1),(315,.aload 5,2),(317,.iload_n 2,1),(318,.iinc 2 1,3),(321,.sipush 128,3),(324,.iload 6,2),(326,.bipush 6,2),(328,.ishr,1),(329,.bipush 63,2),(331,.iand,1),(332,.ior,1),(333,.i2b,1),(334,.bastore,1),(335,.aload 5,2),(337,.iload_n 2,1),(338,.iinc 2 1,3),(341,.sipush 128,3),(344,.iload 6,2),(346,.bipush 63,2),(348,.iand,1),(349,.ior,1),(350,.i2b,1),(351,.bastore,1),(148,.iconst (-1),1),(149,.istore 7,2),(151,.iload 6,2),(153,.invokestatic 364,3),(156,.ifCond .eq 32,3),(159,.iload_n 3,1),(160,.iload 4,2),(162,.if_icmp .ge 26,3),(165,.aload_n 0,1),(166,.iload_n 3,1),(167,.invokestatic 360,3),(170,.dup,1),(171,.istore 8,2),(173,.invokestatic 370,3),(176,.ifCond .eq 12,3),(179,.iload 6,2),(181,.iload 8,2),(183,.invokestatic 477,3),(186,.istore 7,2),(188,.iload 7,2),(190,.ifCond .ge 28,3),(218,.aload 5,2),(220,.iload_n 2,1),(221,.iinc 2 1,3),(224,.sipush 240,3),(227,.iload 7,2),(229,.bipush 18,2),(231,.ishr,1),(232,.ior,1),(233,.i2b,1),(234,.bastore,1),(235,.aload 5,2),(237,.iload_n 2,1),(238,.iinc 2 1,3),(241,.sipush 128,3),(244,.iload 7,2),(246,.bipush 12,2),(248,.ishr,1),(249,.bipush 63,2),(251,.iand,1),(252,.ior,1),(253,.i2b,1),(254,.bastore,1),(255,.aload 5,2),(257,.iload_n 2,1),(258,.iinc 2 1,3),(261,.sipush 128,3),(264,.iload 7,2),(266,.bipush 6,2),(268,.ishr,1),(269,.bipush 63,2),(271,.iand,1),(272,.ior,1),(273,.i2b,1),(274,.bastore,1),(275,.aload 5,2),(277,.iload_n 2,1),(278,.iinc 2 1,3),(281,.sipush 128,3),(284,.iload 7,2),(286,.bipush 63,2),(288,.iand,1),(289,.ior,1),(290,.i2b,1),(291,.bastore,1),(292,.iinc 3 1,3),(295,.goto 57,3),(0,.iconst 0,1),(1,.istore_n 2,1),(2,.iconst 0,1),(3,.istore_n 3,1),(4,.aload_n 0,1),(5,.arraylength,1),(6,.iconst 1,1),(7,.ishr,1),(8,.istore 4,2),(10,.iload 4,2),(12,.iconst 3,1),(13,.imul,1),(14,.newarray .byte,2),(16,.astore 5,2),(355,.iload_n 2,1),(356,.aload 5,2),(358,.arraylength,1),(359,.if_icmp .ne 6,3),(365,.aload 5,2),(367,.iload_n 2,1),(368,.invokestatic 102,3),(371,.areturn,1)]
theorem D30 : ∀ q∈L30,decode jdk_42_method_47_code q.1 = .ok q.2:=by decide +kernel
theorem own_e1_turn {p:Program} {l:Launch} {e:Env} {s:State} {m:MethodId} {args:Array Value} {below:List Frame} {meth:Method} {c:Code} {Z:State} {a0:Array Value} {locs:List Loc} {cells slots : Nat} {T0:State} {h0:Heap} {F:State→Prop} (t d : Addr) (kt kd : ClassId) (n:Nat) (cs:List Int32) (full:List Value) (ds r : List Int32) (ch:Int32) (out:List Value) (o i : Nat) (s6 s7 s8 : Slot) (hx:p.tables.exec = Jvm.exec) (hZ:Z.Warmed39 s.vm) (hw:∀ d∈tables_1,d.before a0 Z = true) (hby:c.code = jdk_42_method_47_code) (hml:c.maxLocals = 9) (hown:s.vm.findClass "java/lang/String" = some m.cls) (X0:Stand p l e (⟨3,2,30,60⟩ : Room) s m args below meth c T0 locs cells slots) (e0:T0.heap = h0) (N0:Fr Z.heap.size locs) (O0:Old Z Z.heap.size h0) (US:own_US Z) (hcn:cs.length = n) (hn:n≤6) (hr:∀ c∈cs,0≤c.toInt∧c.toInt < 65536) (hne:t ≠ d) (gd:Z.heap.size≤d) (hcs:cells+0≤(⟨3,2,30,60⟩ : Room).cells) (hss:slots+0≤(⟨3,2,30,60⟩ : Room).slots) (h6:One s6) (h7:One s7) (h8:One s8) (hi:ds.length = i) (ho:out.length = o) (hcs_:cs = ds++ch :: r) (hwf:own_wf (ch :: r)) (hfull:out++own_u8 (ch :: r) = full) (hroom:o+3 * (ch :: r).length≤3 * n) (Vt:Arv Z h0 t kt .byte (Int32.ofNat (2 * n)) (own_U2 cs) (.int 0)) (Vd:Arv Z h0 d kd .byte (Int32.ofNat (3 * n)) out (.int 0))
    (k1_:∀ (ds:List Int32) (out:List Value) (o i : Nat) (s6 s7 s8 : Slot) (T':State) (h':Heap) (locs':List Loc),Stand p l e (⟨3,2,30,60⟩ : Room) s m args below meth c T' locs' cells slots→T'.heap = h'→Fr Z.heap.size locs'→Old Z Z.heap.size h'→Keep h0 h' [d]→One s6→One s7→One s8→ds.length = i→out.length = o→cs = ds++r→own_wf (r)→out++own_u8 (r) = full→o+3 * (r).length≤3 * n→Arv Z h' t kt .byte (Int32.ofNat (2 * n)) (own_U2 cs) (.int 0)→Arv Z h' d kd .byte (Int32.ofNat (3 * n)) out (.int 0)→own_G p.tables e below F (T'.setTop (mkF m 18 #[vr t,vi 1,vi (.ofNat (o)),vi (.ofNat (i)),vi (.ofNat n),vr d,s6,s7,s8] [])))
    (k2_:∀ (ds:List Int32) (out:List Value) (o i : Nat) (s6 s7 s8 : Slot) (T':State) (h':Heap) (locs':List Loc),Stand p l e (⟨3,2,30,60⟩ : Room) s m args below meth c T' locs' cells slots→T'.heap = h'→Fr Z.heap.size locs'→Old Z Z.heap.size h'→Keep h0 h' [d]→One s6→One s7→One s8→ds.length = i→out.length = o→cs = ds++ch :: r→own_wf (ch :: r)→out++own_u8 (ch :: r) = full→o+3 * (ch :: r).length≤3 * n→Arv Z h' t kt .byte (Int32.ofNat (2 * n)) (own_U2 cs) (.int 0)→Arv Z h' d kd .byte (Int32.ofNat (3 * n)) out (.int 0)→own_G p.tables e below F (T'.setTop (mkF m 58 #[vr t,vi 1,vi (.ofNat (o)),vi (.ofNat (i)),vi (.ofNat n),vr d,s6,s7,s8] []))) :
    own_G p.tables e below F (T0.setTop (mkF m 18 #[vr t,vi 1,vi (.ofNat (o)),vi (.ofNat (i)),vi (.ofNat n),vr d,s6,s7,s8] [])):=by
  have z0 : Z.heap.size≤h0.size:=O0.2.1
  have Kr:=Keep.refl h0 [d]
  show gH (T0.setTop (mkF m 18 #[vr t,vi 1,vi (.ofNat (o)),vi (.ofNat (i)),vi (.ofNat n),vr d,s6,s7,s8] [])) ..
  have ltt:=oL Vt.lt
  have ltd:=oL Vd.lt
  have hnN : @Ne Nat t d:=hne
  have hat0 : (own_U2 cs).getD (2 * i) (.int 0) = .int (own_b0 ch):=by rw [hcs_,← hi]; exact own_U2_at0 _ _ _ _
  have hat1 : (own_U2 cs).getD (2 * i+1) (.int 0) = .int (own_b1 ch):=by rw [hcs_,← hi]; exact own_U2_at1 _ _ _ _
  have hrc:=hr ch (by rw [hcs_]; simp)
  have hin : i < n:=by rw [← hcn,hcs_,← hi]; simp
  have hroom' : o+3 * r.length+3≤3 * n:=by have q:=hroom; simp only [List.length_cons] at q; omega
  refine oS (fun _=>XS.iloadN X0.here hx rfl (dE hby D30 0 rfl) rfl) ?_
  refine oS (fun _=>XS.iload X0.here hx rfl (dE hby D30 1 rfl) rfl) ?_
  refine oS (fun _=>XS.icmpNo X0.here hx rfl (dE hby D30 2 rfl) rfl (tlt (own_lt hin (by omega))).2.1) ?_
  refine oS (fun _=>XS.aloadN X0.here hx rfl (dE hby D30 3 rfl) rfl rfl) ?_
  refine oS (fun _=>XS.iloadN X0.here hx rfl (dE hby D30 4 rfl) rfl) ?_
  obtain ⟨_,T1,L1,X1,⟨rfl,N1q,eh1⟩,st1⟩:=own_cS X0 hx hZ hown (own_getC l Z a0 hw [] t i n ch (own_U2 cs) kt h0 O0 US (by omega) (by omega) hrc hat0 hat1 Vt) (oW hw 318 rfl) (oW hw 167 rfl) (oW hw 145 rfl) (oW hw 168 rfl) (W:=0) (g:=(mkF m 26 #[vr t,vi 1,vi (.ofNat (o)),vi (.ofNat (i)),vi (.ofNat n),vr d,s6,s7,s8] [(.int (.ofNat (i))),(.ref t)])) rfl (by rw [hml]; rfl) (argsL:=[(.ref t),(.int (.ofNat (i)))]) (rest:=[]) (lenOf own_pd6 rfl) rfl (dE hby D30 5 rfl) rfl e0 hcs hss
  have N1:=Fr.app N0 N1q
  refine oS st1 ?_
  show gH (T1.setTop (mkF m 29 #[vr t,vi 1,vi (.ofNat (o)),vi (.ofNat (i)),vi (.ofNat n),vr d,s6,s7,s8] [(.int ch)])) ..
  refine oS (fun _=>XS.istoreS X1.here hx rfl (dE hby D30 6 rfl) rfl rfl h6) ?_
  refine oS (fun _=>XS.iload X1.here hx rfl (dE hby D30 7 rfl) rfl) ?_
  refine oS (fun _=>XS.sipush X1.here hx rfl (dE hby D30 8 rfl)) ?_
  show gH (T1.setTop (mkF m 36 #[vr t,vi 1,vi (.ofNat (o)),vi (.ofNat (i)),vi (.ofNat n),vr d,vi ch,s7,s8] [(.int 128),(.int ch)])) ..
  by_cases hlow : ch < (128:Int32)
  · skip
    refine oS (fun _=>XS.icmpYes X1.here hx rfl (pc0:=36) (pc':=42) rfl (dE hby D30 9 rfl) rfl (tlt hlow).1 (by decide) (by decide)) ?_
    refine oS (fun _=>XS.aload X1.here hx rfl (dE hby D30 10 rfl) rfl rfl) ?_
    refine oS (fun _=>XS.iloadN X1.here hx rfl (dE hby D30 11 rfl) rfl) ?_
    refine oS (fun _=>XS.iinc X1.here hx rfl (dE hby D30 12 rfl) rfl (l':=#[vr t,vi 1,vi ((Int32.ofNat (o))+(1:Int32)),vi (.ofNat (i)),vi (.ofNat n),vr d,vi ch,s7,s8]) rfl) ?_
    refine oS (fun _=>XS.iload X1.here hx rfl (dE hby D30 13 rfl) rfl) ?_
    refine oS (fun _=>XS.i2b X1.here hx rfl (dE hby D30 14 rfl) rfl) ?_
    have V2p : Arv Z h0 d kd .byte (Int32.ofNat (3 * n)) (out++[(.int 0)]) (.int 0):=Vd.pad (pad_rep out (.int 0) 1)
    obtain ⟨cl3,Ar3,qk3,Sz3,Mz3,Hz3,Uz3⟩:=id V2p
    obtain ⟨T4,h4,X4,e4,W4,st4⟩:=stB X1 hx hZ eh1 Ar3 (j:=(Int32.ofNat (o))) (oI (i:=o) (n:=3 * n) Sz3 (by omega) (by omega)) (g:=(mkF m 51 #[vr t,vi 1,vi ((Int32.ofNat (o))+(1:Int32)),vi (.ofNat (i)),vi (.ofNat n),vr d,vi ch,s7,s8] [(.int (ch.toInt8.toInt32)),(.int (.ofNat (o))),(.ref d)])) rfl rfl (dE hby D30 15 rfl)
    refine oS st4 ?_
    have V4:=Arv.set Ar3 qk3 Sz3 Mz3 Hz3 Uz3 (fits_nar_byte _) W4 (out:List Value).length (by rw [oC (by omega)]; first | omega | (simp only [List.length_append,List.length_cons,List.length_nil]; omega)) (by simp)
    have z5:=W4.size
    have O6:=Old.wr O0 W4 (by omega)
    have K7:=Kr.wr W4 (Or.inl (by simp))
    have N4:=Fr.snoc X4 N1 (by omega : Z.heap.size≤d)
    have V4' : Arv Z h4 d kd .byte (Int32.ofNat (3 * n)) (out++[.int (own_lo ch)]) (.int 0):=by have q:=V4; rw [own_set] at q; exact q
    show gH (T4.setTop (mkF m 52 #[vr t,vi 1,vi ((Int32.ofNat (o))+(1:Int32)),vi (.ofNat (i)),vi (.ofNat n),vr d,vi ch,s7,s8] [])) ..
    refine oS (fun _=>XS.iinc X4.here hx rfl (dE hby D30 16 rfl) rfl (l':=#[vr t,vi 1,vi ((Int32.ofNat (o))+(1:Int32)),vi ((Int32.ofNat (i))+(1:Int32)),vi (.ofNat n),vr d,vi ch,s7,s8]) rfl) ?_
    refine oS (fun _=>XS.goto X4.here hx rfl (pc0:=55) (pc':=18) rfl (dE hby D30 17 rfl) (by decide) (by decide)) ?_
    show gH (T4.setTop (mkF m 18 #[vr t,vi 1,vi ((Int32.ofNat (o))+(1:Int32)),vi ((Int32.ofNat (i))+(1:Int32)),vi (.ofNat n),vr d,vi ch,s7,s8] [])) ..
    rw [oO o]
    show gH (T4.setTop (mkF m 18 #[vr t,vi 1,vi (.ofNat (o+1)),vi ((Int32.ofNat (i))+(1:Int32)),vi (.ofNat n),vr d,vi ch,s7,s8] [])) ..
    rw [oO i]
    show gH (T4.setTop (mkF m 18 #[vr t,vi 1,vi (.ofNat (o+1)),vi (.ofNat (i+1)),vi (.ofNat n),vr d,vi ch,s7,s8] [])) ..
    have h7_:=h7
    have h8_:=h8
    have hns:=own_low hlow
    have q8:=(Vt.other W4 (show @Ne Nat t d by omega))
    exact k1_ (ds++[ch]) (out++[.int (own_lo ch)]) (o+1) (i+1) _ _ _ _ _ _ X4 e4 N4 O6 K7 (One.val rfl) h7_ h8_ (by rw [List.length_append,hi]; rfl) (by simp only [List.length_append,List.length_cons,List.length_nil]; omega) (by rw [hcs_]; simp) (own_wf_cons hns hwf) (by rw [← hfull,own_u8_cons hns,own_u1a hlow]; simp) (by omega) q8 V4'
  · show gH (T1.setTop (mkF m 36 #[vr t,vi 1,vi (.ofNat (o)),vi (.ofNat (i)),vi (.ofNat n),vr d,vi ch,s7,s8] [(.int 128),(.int ch)])) ..
    refine oS (fun _=>XS.icmpNo X1.here hx rfl (dE hby D30 9 rfl) rfl (flt hlow).1) ?_
    refine oS (fun _=>XS.goto X1.here hx rfl (pc0:=39) (pc':=58) rfl (dE hby D30 18 rfl) (by decide) (by decide)) ?_
    show gH (T1.setTop (mkF m 58 #[vr t,vi 1,vi (.ofNat (o)),vi (.ofNat (i)),vi (.ofNat n),vr d,vi ch,s7,s8] [])) ..
    exact k2_ ds out o i _ _ _ _ _ _ X1 eh1 N1 O0 Kr (One.val rfl) h7 h8 hi ho hcs_ hwf hfull hroom Vt Vd
theorem own_e1_exit {p:Program} {l:Launch} {e:Env} {s:State} {m:MethodId} {args:Array Value} {below:List Frame} {meth:Method} {c:Code} {Z:State} {a0:Array Value} {locs:List Loc} {cells slots : Nat} {T0:State} {h0:Heap} {F:State→Prop} (t d : Addr) (kt kd : ClassId) (n o i : Nat) (cs:List Int32) (out:List Value) (s6 s7 s8 : Slot) (hx:p.tables.exec = Jvm.exec) (hZ:Z.Warmed39 s.vm) (hw:∀ d∈tables_1,d.before a0 Z = true) (hby:c.code = jdk_42_method_47_code) (hml:c.maxLocals = 9) (hown:s.vm.findClass "java/lang/String" = some m.cls) (X0:Stand p l e (⟨3,2,30,60⟩ : Room) s m args below meth c T0 locs cells slots) (e0:T0.heap = h0) (N0:Fr Z.heap.size locs) (O0:Old Z Z.heap.size h0) (hin:i = n) (hne:t ≠ d) (Vt:Arv Z h0 t kt .byte (Int32.ofNat (2 * n)) (own_U2 cs) (.int 0)) (Vd:Arv Z h0 d kd .byte (Int32.ofNat (3 * n)) out (.int 0))
    (kx:own_G p.tables e below F (T0.setTop (mkF m 58 #[vr t,vi 1,vi (.ofNat (o)),vi (.ofNat (i)),vi (.ofNat n),vr d,s6,s7,s8] []))) :
    own_G p.tables e below F (T0.setTop (mkF m 18 #[vr t,vi 1,vi (.ofNat (o)),vi (.ofNat (i)),vi (.ofNat n),vr d,s6,s7,s8] [])):=by
  show gH (T0.setTop (mkF m 18 #[vr t,vi 1,vi (.ofNat (o)),vi (.ofNat (i)),vi (.ofNat n),vr d,s6,s7,s8] [])) ..
  have ltt:=oL Vt.lt
  have ltd:=oL Vd.lt
  have hnN : @Ne Nat t d:=hne
  refine oS (fun _=>XS.iloadN X0.here hx rfl (dE hby D30 0 rfl) rfl) ?_
  refine oS (fun _=>XS.iload X0.here hx rfl (dE hby D30 1 rfl) rfl) ?_
  refine oS (fun _=>XS.icmpYes X0.here hx rfl (pc0:=21) (pc':=58) rfl (dE hby D30 2 rfl) rfl (flt (by rw [hin]; exact Int32.lt_irrefl)).2.1 (by decide) (by decide)) ?_
  show gH (T0.setTop (mkF m 58 #[vr t,vi 1,vi (.ofNat (o)),vi (.ofNat (i)),vi (.ofNat n),vr d,s6,s7,s8] [])) ..
  exact kx
theorem own_pd26 : parseMethodDescriptor "(C)Z" = some ⟨[.char],some .boolean⟩:=by decide +kernel
theorem own_e2_turn {p:Program} {l:Launch} {e:Env} {s:State} {m:MethodId} {args:Array Value} {below:List Frame} {meth:Method} {c:Code} {Z:State} {a0:Array Value} {locs:List Loc} {cells slots : Nat} {T0:State} {h0:Heap} {F:State→Prop} (t d : Addr) (kt kd : ClassId) (n:Nat) (cs:List Int32) (full:List Value) (ds r : List Int32) (ch:Int32) (out:List Value) (o i : Nat) (s6 s7 s8 : Slot) (hx:p.tables.exec = Jvm.exec) (hZ:Z.Warmed39 s.vm) (hw:∀ d∈tables_1,d.before a0 Z = true) (hby:c.code = jdk_42_method_47_code) (hml:c.maxLocals = 9) (hown:s.vm.findClass "java/lang/String" = some m.cls) (X0:Stand p l e (⟨3,2,30,60⟩ : Room) s m args below meth c T0 locs cells slots) (e0:T0.heap = h0) (N0:Fr Z.heap.size locs) (O0:Old Z Z.heap.size h0) (US:own_US Z) (hcn:cs.length = n) (hn:n≤6) (hr:∀ c∈cs,0≤c.toInt∧c.toInt < 65536) (hne:t ≠ d) (gd:Z.heap.size≤d) (hcs:cells+0≤(⟨3,2,30,60⟩ : Room).cells) (hss:slots+0≤(⟨3,2,30,60⟩ : Room).slots) (h6:One s6) (h7:One s7) (h8:One s8) (hi:ds.length = i) (ho:out.length = o) (hcs_:cs = ds++ch :: r) (hwf:own_wf (ch :: r)) (hfull:out++own_u8 (ch :: r) = full) (hroom:o+3 * (ch :: r).length≤3 * n) (Vt:Arv Z h0 t kt .byte (Int32.ofNat (2 * n)) (own_U2 cs) (.int 0)) (Vd:Arv Z h0 d kd .byte (Int32.ofNat (3 * n)) out (.int 0)) (hns:¬ own_sur ch)
    (k1_:∀ (ds:List Int32) (out:List Value) (o i : Nat) (s6 s7 s8 : Slot) (T':State) (h':Heap) (locs':List Loc),Stand p l e (⟨3,2,30,60⟩ : Room) s m args below meth c T' locs' cells slots→T'.heap = h'→Fr Z.heap.size locs'→Old Z Z.heap.size h'→Keep h0 h' [d]→One s6→One s7→One s8→ds.length = i→out.length = o→cs = ds++r→own_wf (r)→out++own_u8 (r) = full→o+3 * (r).length≤3 * n→Arv Z h' t kt .byte (Int32.ofNat (2 * n)) (own_U2 cs) (.int 0)→Arv Z h' d kd .byte (Int32.ofNat (3 * n)) out (.int 0)→own_G p.tables e below F (T'.setTop (mkF m 58 #[vr t,vi 1,vi (.ofNat (o)),vi (.ofNat (i)),vi (.ofNat n),vr d,s6,s7,s8] []))) :
    own_G p.tables e below F (T0.setTop (mkF m 58 #[vr t,vi 1,vi (.ofNat (o)),vi (.ofNat (i)),vi (.ofNat n),vr d,s6,s7,s8] [])):=by
  have z0 : Z.heap.size≤h0.size:=O0.2.1
  have Kr:=Keep.refl h0 [d]
  show gH (T0.setTop (mkF m 58 #[vr t,vi 1,vi (.ofNat (o)),vi (.ofNat (i)),vi (.ofNat n),vr d,s6,s7,s8] [])) ..
  have ltt:=oL Vt.lt
  have ltd:=oL Vd.lt
  have hnN : @Ne Nat t d:=hne
  have hat0 : (own_U2 cs).getD (2 * i) (.int 0) = .int (own_b0 ch):=by rw [hcs_,← hi]; exact own_U2_at0 _ _ _ _
  have hat1 : (own_U2 cs).getD (2 * i+1) (.int 0) = .int (own_b1 ch):=by rw [hcs_,← hi]; exact own_U2_at1 _ _ _ _
  have hrc:=hr ch (by rw [hcs_]; simp)
  have hin : i < n:=by rw [← hcn,hcs_,← hi]; simp
  have hroom' : o+3 * r.length+3≤3 * n:=by have q:=hroom; simp only [List.length_cons] at q; omega
  refine oS (fun _=>XS.iloadN X0.here hx rfl (dE hby D30 19 rfl) rfl) ?_
  refine oS (fun _=>XS.iload X0.here hx rfl (dE hby D30 20 rfl) rfl) ?_
  refine oS (fun _=>XS.icmpNo X0.here hx rfl (dE hby D30 21 rfl) rfl (tlt (own_lt hin (by omega))).2.1) ?_
  refine oS (fun _=>XS.aloadN X0.here hx rfl (dE hby D30 22 rfl) rfl rfl) ?_
  refine oS (fun _=>XS.iloadN X0.here hx rfl (dE hby D30 23 rfl) rfl) ?_
  refine oS (fun _=>XS.iinc X0.here hx rfl (dE hby D30 24 rfl) rfl (l':=#[vr t,vi 1,vi (.ofNat (o)),vi ((Int32.ofNat (i))+(1:Int32)),vi (.ofNat n),vr d,s6,s7,s8]) rfl) ?_
  show gH (T0.setTop (mkF m 69 #[vr t,vi 1,vi (.ofNat (o)),vi ((Int32.ofNat (i))+(1:Int32)),vi (.ofNat n),vr d,s6,s7,s8] [(.int (.ofNat (i))),(.ref t)])) ..
  rw [oO i]
  obtain ⟨_,T1,L1,X1,⟨rfl,N1q,eh1⟩,st1⟩:=own_cS X0 hx hZ hown (own_getC l Z a0 hw [] t i n ch (own_U2 cs) kt h0 O0 US (by omega) (by omega) hrc hat0 hat1 Vt) (oW hw 318 rfl) (oW hw 167 rfl) (oW hw 145 rfl) (oW hw 168 rfl) (W:=0) (g:=(mkF m 69 #[vr t,vi 1,vi (.ofNat (o)),vi (.ofNat (i+1)),vi (.ofNat n),vr d,s6,s7,s8] [(.int (.ofNat (i))),(.ref t)])) rfl (by rw [hml]; rfl) (argsL:=[(.ref t),(.int (.ofNat (i)))]) (rest:=[]) (lenOf own_pd6 rfl) rfl (dE hby D30 25 rfl) rfl e0 hcs hss
  have N1:=Fr.app N0 N1q
  refine oS st1 ?_
  show gH (T1.setTop (mkF m 72 #[vr t,vi 1,vi (.ofNat (o)),vi (.ofNat (i+1)),vi (.ofNat n),vr d,s6,s7,s8] [(.int ch)])) ..
  refine oS (fun _=>XS.istoreS X1.here hx rfl (dE hby D30 26 rfl) rfl rfl h6) ?_
  refine oS (fun _=>XS.iload X1.here hx rfl (dE hby D30 27 rfl) rfl) ?_
  refine oS (fun _=>XS.sipush X1.here hx rfl (dE hby D30 28 rfl)) ?_
  show gH (T1.setTop (mkF m 79 #[vr t,vi 1,vi (.ofNat (o)),vi (.ofNat (i+1)),vi (.ofNat n),vr d,vi ch,s7,s8] [(.int 128),(.int ch)])) ..
  by_cases hlow : ch < (128:Int32)
  · skip
    refine oS (fun _=>XS.icmpNo X1.here hx rfl (dE hby D30 29 rfl) rfl (tlt hlow).2.1) ?_
    refine oS (fun _=>XS.aload X1.here hx rfl (dE hby D30 30 rfl) rfl rfl) ?_
    refine oS (fun _=>XS.iloadN X1.here hx rfl (dE hby D30 31 rfl) rfl) ?_
    refine oS (fun _=>XS.iinc X1.here hx rfl (dE hby D30 32 rfl) rfl (l':=#[vr t,vi 1,vi ((Int32.ofNat (o))+(1:Int32)),vi (.ofNat (i+1)),vi (.ofNat n),vr d,vi ch,s7,s8]) rfl) ?_
    refine oS (fun _=>XS.iload X1.here hx rfl (dE hby D30 33 rfl) rfl) ?_
    refine oS (fun _=>XS.i2b X1.here hx rfl (dE hby D30 34 rfl) rfl) ?_
    show gH (T1.setTop (mkF m 91 #[vr t,vi 1,vi ((Int32.ofNat (o))+(1:Int32)),vi (.ofNat (i+1)),vi (.ofNat n),vr d,vi ch,s7,s8] [(.int (ch.toInt8.toInt32)),(.int (.ofNat (o))),(.ref d)])) ..
    rw [oO (o)]
    have V2p : Arv Z h0 d kd .byte (Int32.ofNat (3 * n)) (out++[(.int 0)]) (.int 0):=Vd.pad (pad_rep out (.int 0) 1)
    obtain ⟨cl3,Ar3,qk3,Sz3,Mz3,Hz3,Uz3⟩:=id V2p
    obtain ⟨T4,h4,X4,e4,W4,st4⟩:=stB X1 hx hZ eh1 Ar3 (j:=(Int32.ofNat (o))) (oI (i:=o) (n:=3 * n) Sz3 (by omega) (by omega)) (g:=(mkF m 91 #[vr t,vi 1,vi (.ofNat (o+1)),vi (.ofNat (i+1)),vi (.ofNat n),vr d,vi ch,s7,s8] [(.int (ch.toInt8.toInt32)),(.int (.ofNat (o))),(.ref d)])) rfl rfl (dE hby D30 35 rfl)
    refine oS st4 ?_
    have V4:=Arv.set Ar3 qk3 Sz3 Mz3 Hz3 Uz3 (fits_nar_byte _) W4 (out:List Value).length (by rw [oC (by omega)]; first | omega | (simp only [List.length_append,List.length_cons,List.length_nil]; omega)) (by simp)
    have z5:=W4.size
    have O6:=Old.wr O0 W4 (by omega)
    have K7:=Kr.wr W4 (Or.inl (by simp))
    have N4:=Fr.snoc X4 N1 (by omega : Z.heap.size≤d)
    have V4' : Arv Z h4 d kd .byte (Int32.ofNat (3 * n)) (out++[.int (own_lo ch)]) (.int 0):=by have q:=V4; rw [own_set] at q; exact q
    show gH (T4.setTop (mkF m 92 #[vr t,vi 1,vi (.ofNat (o+1)),vi (.ofNat (i+1)),vi (.ofNat n),vr d,vi ch,s7,s8] [])) ..
    refine oS (fun _=>XS.goto X4.here hx rfl (pc0:=92) (pc':=352) rfl (dE hby D30 36 rfl) (by decide) (by decide)) ?_
    refine oS (fun _=>XS.goto X4.here hx rfl (pc0:=352) (pc':=58) rfl (dE hby D30 37 rfl) (by decide) (by decide)) ?_
    show gH (T4.setTop (mkF m 58 #[vr t,vi 1,vi (.ofNat (o+1)),vi (.ofNat (i+1)),vi (.ofNat n),vr d,vi ch,s7,s8] [])) ..
    have h7_:=h7
    have h8_:=h8
    have q8:=(Vt.other W4 (show @Ne Nat t d by omega))
    exact k1_ (ds++[ch]) (out++[.int (own_lo ch)]) (o+1) (i+1) _ _ _ _ _ _ X4 e4 N4 O6 K7 (One.val rfl) h7_ h8_ (by rw [List.length_append,hi]; rfl) (by simp only [List.length_append,List.length_cons,List.length_nil]; omega) (by rw [hcs_]; simp) (own_wf_cons hns hwf) (by rw [← hfull,own_u8_cons hns,own_u1a hlow]; simp) (by omega) q8 V4'
  · show gH (T1.setTop (mkF m 79 #[vr t,vi 1,vi (.ofNat (o)),vi (.ofNat (i+1)),vi (.ofNat n),vr d,vi ch,s7,s8] [(.int 128),(.int ch)])) ..
    refine oS (fun _=>XS.icmpYes X1.here hx rfl (pc0:=79) (pc':=95) rfl (dE hby D30 29 rfl) rfl (flt hlow).2.1 (by decide) (by decide)) ?_
    refine oS (fun _=>XS.iload X1.here hx rfl (dE hby D30 38 rfl) rfl) ?_
    refine oS (fun _=>XS.sipush X1.here hx rfl (dE hby D30 39 rfl)) ?_
    show gH (T1.setTop (mkF m 100 #[vr t,vi 1,vi (.ofNat (o)),vi (.ofNat (i+1)),vi (.ofNat n),vr d,vi ch,s7,s8] [(.int 2048),(.int ch)])) ..
    by_cases hmid : ch < (2048:Int32)
    · skip
      refine oS (fun _=>XS.icmpNo X1.here hx rfl (dE hby D30 40 rfl) rfl (tlt hmid).2.1) ?_
      refine oS (fun _=>XS.aload X1.here hx rfl (dE hby D30 41 rfl) rfl rfl) ?_
      refine oS (fun _=>XS.iloadN X1.here hx rfl (dE hby D30 42 rfl) rfl) ?_
      refine oS (fun _=>XS.iinc X1.here hx rfl (dE hby D30 43 rfl) rfl (l':=#[vr t,vi 1,vi ((Int32.ofNat (o))+(1:Int32)),vi (.ofNat (i+1)),vi (.ofNat n),vr d,vi ch,s7,s8]) rfl) ?_
      refine oS (fun _=>XS.sipush X1.here hx rfl (dE hby D30 44 rfl)) ?_
      refine oS (fun _=>XS.iload X1.here hx rfl (dE hby D30 45 rfl) rfl) ?_
      refine oS (fun _=>XS.bipush X1.here hx rfl (dE hby D30 46 rfl)) ?_
      refine oS (fun _=>XS.ishr X1.here hx rfl (dE hby D30 47 rfl) rfl) ?_
      refine oS (fun _=>XS.ior X1.here hx rfl (dE hby D30 48 rfl) rfl) ?_
      refine oS (fun _=>XS.i2b X1.here hx rfl (dE hby D30 49 rfl) rfl) ?_
      show gH (T1.setTop (mkF m 119 #[vr t,vi 1,vi ((Int32.ofNat (o))+(1:Int32)),vi (.ofNat (i+1)),vi (.ofNat n),vr d,vi ch,s7,s8] [(.int (((192:Int32)|||(ch>>>((6:Int32)&&&31))).toInt8.toInt32)),(.int (.ofNat (o))),(.ref d)])) ..
      rw [oO (o)]
      have V9p : Arv Z h0 d kd .byte (Int32.ofNat (3 * n)) (out++[(.int 0)]) (.int 0):=Vd.pad (pad_rep out (.int 0) 1)
      obtain ⟨cl10,Ar10,qk10,Sz10,Mz10,Hz10,Uz10⟩:=id V9p
      obtain ⟨T11,h11,X11,e11,W11,st11⟩:=stB X1 hx hZ eh1 Ar10 (j:=(Int32.ofNat (o))) (oI (i:=o) (n:=3 * n) Sz10 (by omega) (by omega)) (g:=(mkF m 119 #[vr t,vi 1,vi (.ofNat (o+1)),vi (.ofNat (i+1)),vi (.ofNat n),vr d,vi ch,s7,s8] [(.int (((192:Int32)|||(ch>>>((6:Int32)&&&31))).toInt8.toInt32)),(.int (.ofNat (o))),(.ref d)])) rfl rfl (dE hby D30 50 rfl)
      refine oS st11 ?_
      have V11:=Arv.set Ar10 qk10 Sz10 Mz10 Hz10 Uz10 (fits_nar_byte _) W11 (out:List Value).length (by rw [oC (by omega)]; first | omega | (simp only [List.length_append,List.length_cons,List.length_nil]; omega)) (by simp)
      have z12:=W11.size
      have O13:=Old.wr O0 W11 (by omega)
      have K14:=Kr.wr W11 (Or.inl (by simp))
      have N11:=Fr.snoc X11 N1 (by omega : Z.heap.size≤d)
      have V11' : Arv Z h11 d kd .byte (Int32.ofNat (3 * n)) (out++[.int (own_lo ((192:Int32)|||(ch>>>((6:Int32)&&&31))))]) (.int 0):=by have q:=V11; rw [own_set] at q; exact q
      show gH (T11.setTop (mkF m 120 #[vr t,vi 1,vi (.ofNat (o+1)),vi (.ofNat (i+1)),vi (.ofNat n),vr d,vi ch,s7,s8] [])) ..
      refine oS (fun _=>XS.aload X11.here hx rfl (dE hby D30 51 rfl) rfl rfl) ?_
      refine oS (fun _=>XS.iloadN X11.here hx rfl (dE hby D30 52 rfl) rfl) ?_
      refine oS (fun _=>XS.iinc X11.here hx rfl (dE hby D30 53 rfl) rfl (l':=#[vr t,vi 1,vi ((Int32.ofNat (o+1))+(1:Int32)),vi (.ofNat (i+1)),vi (.ofNat n),vr d,vi ch,s7,s8]) rfl) ?_
      refine oS (fun _=>XS.sipush X11.here hx rfl (dE hby D30 54 rfl)) ?_
      refine oS (fun _=>XS.iload X11.here hx rfl (dE hby D30 55 rfl) rfl) ?_
      refine oS (fun _=>XS.bipush X11.here hx rfl (dE hby D30 56 rfl)) ?_
      refine oS (fun _=>XS.iand X11.here hx rfl (dE hby D30 57 rfl) rfl) ?_
      refine oS (fun _=>XS.ior X11.here hx rfl (dE hby D30 58 rfl) rfl) ?_
      refine oS (fun _=>XS.i2b X11.here hx rfl (dE hby D30 59 rfl) rfl) ?_
      show gH (T11.setTop (mkF m 136 #[vr t,vi 1,vi ((Int32.ofNat (o+1))+(1:Int32)),vi (.ofNat (i+1)),vi (.ofNat n),vr d,vi ch,s7,s8] [(.int (((128:Int32)|||(ch&&&(63:Int32))).toInt8.toInt32)),(.int (.ofNat (o+1))),(.ref d)])) ..
      rw [oO (o+1)]
      have V15p : Arv Z h11 d kd .byte (Int32.ofNat (3 * n)) ((out++[.int (own_lo ((192:Int32)|||(ch>>>((6:Int32)&&&31))))])++[(.int 0)]) (.int 0):=V11'.pad (pad_rep (out++[.int (own_lo ((192:Int32)|||(ch>>>((6:Int32)&&&31))))]) (.int 0) 1)
      obtain ⟨cl16,Ar16,qk16,Sz16,Mz16,Hz16,Uz16⟩:=id V15p
      obtain ⟨T17,h17,X17,e17,W17,st17⟩:=stB X11 hx hZ e11 Ar16 (j:=(Int32.ofNat (o+1))) (oI (i:=o+1) (n:=3 * n) Sz16 (by omega) (by omega)) (g:=(mkF m 136 #[vr t,vi 1,vi (.ofNat (o+2)),vi (.ofNat (i+1)),vi (.ofNat n),vr d,vi ch,s7,s8] [(.int (((128:Int32)|||(ch&&&(63:Int32))).toInt8.toInt32)),(.int (.ofNat (o+1))),(.ref d)])) rfl rfl (dE hby D30 60 rfl)
      refine oS st17 ?_
      have V17:=Arv.set Ar16 qk16 Sz16 Mz16 Hz16 Uz16 (fits_nar_byte _) W17 ((out++[.int (own_lo ((192:Int32)|||(ch>>>((6:Int32)&&&31))))]) : List Value).length (by rw [oC (by omega)]; first | omega | (simp only [List.length_append,List.length_cons,List.length_nil]; omega)) (by simp)
      have z18:=W17.size
      have O19:=Old.wr O13 W17 (by omega)
      have K20:=K14.wr W17 (Or.inl (by simp))
      have N17:=Fr.snoc X17 N11 (by omega : Z.heap.size≤d)
      have V17' : Arv Z h17 d kd .byte (Int32.ofNat (3 * n)) ((out++[.int (own_lo ((192:Int32)|||(ch>>>((6:Int32)&&&31))))])++[.int (own_lo ((128:Int32)|||(ch&&&(63:Int32))))]) (.int 0):=by have q:=V17; rw [own_set] at q; exact q
      show gH (T17.setTop (mkF m 137 #[vr t,vi 1,vi (.ofNat (o+2)),vi (.ofNat (i+1)),vi (.ofNat n),vr d,vi ch,s7,s8] [])) ..
      refine oS (fun _=>XS.goto X17.here hx rfl (pc0:=137) (pc':=352) rfl (dE hby D30 61 rfl) (by decide) (by decide)) ?_
      refine oS (fun _=>XS.goto X17.here hx rfl (pc0:=352) (pc':=58) rfl (dE hby D30 37 rfl) (by decide) (by decide)) ?_
      show gH (T17.setTop (mkF m 58 #[vr t,vi 1,vi (.ofNat (o+2)),vi (.ofNat (i+1)),vi (.ofNat n),vr d,vi ch,s7,s8] [])) ..
      have h7_:=h7
      have h8_:=h8
      have q21:=((Vt.other W11 (show @Ne Nat t d by omega)).other W17 (show @Ne Nat t d by omega))
      exact k1_ (ds++[ch]) ((out++[.int (own_lo ((192:Int32)|||(ch>>>((6:Int32)&&&31))))])++[.int (own_lo ((128:Int32)|||(ch&&&(63:Int32))))]) (o+2) (i+1) _ _ _ _ _ _ X17 e17 N17 O19 K20 (One.val rfl) h7_ h8_ (by rw [List.length_append,hi]; rfl) (by simp only [List.length_append,List.length_cons,List.length_nil]; omega) (by rw [hcs_]; simp) (own_wf_cons hns hwf) (by rw [← hfull,own_u8_cons hns,own_u1b hlow hmid]; simp) (by omega) q21 V17'
    · show gH (T1.setTop (mkF m 100 #[vr t,vi 1,vi (.ofNat (o)),vi (.ofNat (i+1)),vi (.ofNat n),vr d,vi ch,s7,s8] [(.int 2048),(.int ch)])) ..
      refine oS (fun _=>XS.icmpYes X1.here hx rfl (pc0:=100) (pc':=140) rfl (dE hby D30 40 rfl) rfl (flt hmid).2.1 (by decide) (by decide)) ?_
      refine oS (fun _=>XS.iload X1.here hx rfl (dE hby D30 62 rfl) rfl) ?_
      obtain ⟨_,T22,L22,X22,⟨r22,rfl,N22q,eh22,c22⟩,st22⟩:=own_cS X1 hx hZ hown (own_surS l Z a0 hw [] ch h0 O0) (oW hw 319 rfl) (oW hw 320 rfl) (oW hw 321 rfl) (oW hw 322 rfl) (W:=0) (g:=(mkF m 142 #[vr t,vi 1,vi (.ofNat (o)),vi (.ofNat (i+1)),vi (.ofNat n),vr d,vi ch,s7,s8] [(.int ch)])) rfl (by rw [hml]; rfl) (argsL:=[(.int ch)]) (rest:=[]) (lenOf own_pd26 rfl) rfl (dE hby D30 63 rfl) rfl eh1 hcs hss
      have N22:=Fr.app N1 N22q
      refine oS st22 ?_
      show gH (T22.setTop (mkF m 145 #[vr t,vi 1,vi (.ofNat (o)),vi (.ofNat (i+1)),vi (.ofNat n),vr d,vi ch,s7,s8] [(.int r22)])) ..
      obtain ⟨rfl,-⟩:=c22.resolve_left (fun z=>hns z.2)
      show gH (T22.setTop (mkF m 145 #[vr t,vi 1,vi (.ofNat (o)),vi (.ofNat (i+1)),vi (.ofNat n),vr d,vi ch,s7,s8] [(.int 0)])) ..
      refine oS (fun _=>XS.ifYes X22.here hx rfl (pc0:=145) (pc':=298) rfl (dE hby D30 64 rfl) rfl ((if0 _ _).trans (teq rfl).1) (by decide) (by decide)) ?_
      refine oS (fun _=>XS.aload X22.here hx rfl (dE hby D30 65 rfl) rfl rfl) ?_
      refine oS (fun _=>XS.iloadN X22.here hx rfl (dE hby D30 66 rfl) rfl) ?_
      refine oS (fun _=>XS.iinc X22.here hx rfl (dE hby D30 67 rfl) rfl (l':=#[vr t,vi 1,vi ((Int32.ofNat (o))+(1:Int32)),vi (.ofNat (i+1)),vi (.ofNat n),vr d,vi ch,s7,s8]) rfl) ?_
      refine oS (fun _=>XS.sipush X22.here hx rfl (dE hby D30 68 rfl)) ?_
      refine oS (fun _=>XS.iload X22.here hx rfl (dE hby D30 69 rfl) rfl) ?_
      refine oS (fun _=>XS.bipush X22.here hx rfl (dE hby D30 70 rfl)) ?_
      refine oS (fun _=>XS.ishr X22.here hx rfl (dE hby D30 71 rfl) rfl) ?_
      refine oS (fun _=>XS.ior X22.here hx rfl (dE hby D30 72 rfl) rfl) ?_
      refine oS (fun _=>XS.i2b X22.here hx rfl (dE hby D30 73 rfl) rfl) ?_
      show gH (T22.setTop (mkF m 314 #[vr t,vi 1,vi ((Int32.ofNat (o))+(1:Int32)),vi (.ofNat (i+1)),vi (.ofNat n),vr d,vi ch,s7,s8] [(.int (((224:Int32)|||(ch>>>((12:Int32)&&&31))).toInt8.toInt32)),(.int (.ofNat (o))),(.ref d)])) ..
      rw [oO (o)]
      have V23p : Arv Z h0 d kd .byte (Int32.ofNat (3 * n)) (out++[(.int 0)]) (.int 0):=Vd.pad (pad_rep out (.int 0) 1)
      obtain ⟨cl24,Ar24,qk24,Sz24,Mz24,Hz24,Uz24⟩:=id V23p
      obtain ⟨T25,h25,X25,e25,W25,st25⟩:=stB X22 hx hZ eh22 Ar24 (j:=(Int32.ofNat (o))) (oI (i:=o) (n:=3 * n) Sz24 (by omega) (by omega)) (g:=(mkF m 314 #[vr t,vi 1,vi (.ofNat (o+1)),vi (.ofNat (i+1)),vi (.ofNat n),vr d,vi ch,s7,s8] [(.int (((224:Int32)|||(ch>>>((12:Int32)&&&31))).toInt8.toInt32)),(.int (.ofNat (o))),(.ref d)])) rfl rfl (dE hby D30 74 rfl)
      refine oS st25 ?_
      have V25:=Arv.set Ar24 qk24 Sz24 Mz24 Hz24 Uz24 (fits_nar_byte _) W25 (out:List Value).length (by rw [oC (by omega)]; first | omega | (simp only [List.length_append,List.length_cons,List.length_nil]; omega)) (by simp)
      have z26:=W25.size
      have O27:=Old.wr O0 W25 (by omega)
      have K28:=Kr.wr W25 (Or.inl (by simp))
      have N25:=Fr.snoc X25 N22 (by omega : Z.heap.size≤d)
      have V25' : Arv Z h25 d kd .byte (Int32.ofNat (3 * n)) (out++[.int (own_lo ((224:Int32)|||(ch>>>((12:Int32)&&&31))))]) (.int 0):=by have q:=V25; rw [own_set] at q; exact q
      show gH (T25.setTop (mkF m 315 #[vr t,vi 1,vi (.ofNat (o+1)),vi (.ofNat (i+1)),vi (.ofNat n),vr d,vi ch,s7,s8] [])) ..
      refine oS (fun _=>XS.aload X25.here hx rfl (dE hby D30 75 rfl) rfl rfl) ?_
      refine oS (fun _=>XS.iloadN X25.here hx rfl (dE hby D30 76 rfl) rfl) ?_
      refine oS (fun _=>XS.iinc X25.here hx rfl (dE hby D30 77 rfl) rfl (l':=#[vr t,vi 1,vi ((Int32.ofNat (o+1))+(1:Int32)),vi (.ofNat (i+1)),vi (.ofNat n),vr d,vi ch,s7,s8]) rfl) ?_
      refine oS (fun _=>XS.sipush X25.here hx rfl (dE hby D30 78 rfl)) ?_
      refine oS (fun _=>XS.iload X25.here hx rfl (dE hby D30 79 rfl) rfl) ?_
      refine oS (fun _=>XS.bipush X25.here hx rfl (dE hby D30 80 rfl)) ?_
      refine oS (fun _=>XS.ishr X25.here hx rfl (dE hby D30 81 rfl) rfl) ?_
      refine oS (fun _=>XS.bipush X25.here hx rfl (dE hby D30 82 rfl)) ?_
      refine oS (fun _=>XS.iand X25.here hx rfl (dE hby D30 83 rfl) rfl) ?_
      refine oS (fun _=>XS.ior X25.here hx rfl (dE hby D30 84 rfl) rfl) ?_
      refine oS (fun _=>XS.i2b X25.here hx rfl (dE hby D30 85 rfl) rfl) ?_
      show gH (T25.setTop (mkF m 334 #[vr t,vi 1,vi ((Int32.ofNat (o+1))+(1:Int32)),vi (.ofNat (i+1)),vi (.ofNat n),vr d,vi ch,s7,s8] [(.int (((128:Int32)|||((ch>>>((6:Int32)&&&31))&&&(63:Int32))).toInt8.toInt32)),(.int (.ofNat (o+1))),(.ref d)])) ..
      rw [oO (o+1)]
      have V29p : Arv Z h25 d kd .byte (Int32.ofNat (3 * n)) ((out++[.int (own_lo ((224:Int32)|||(ch>>>((12:Int32)&&&31))))])++[(.int 0)]) (.int 0):=V25'.pad (pad_rep (out++[.int (own_lo ((224:Int32)|||(ch>>>((12:Int32)&&&31))))]) (.int 0) 1)
      obtain ⟨cl30,Ar30,qk30,Sz30,Mz30,Hz30,Uz30⟩:=id V29p
      obtain ⟨T31,h31,X31,e31,W31,st31⟩:=stB X25 hx hZ e25 Ar30 (j:=(Int32.ofNat (o+1))) (oI (i:=o+1) (n:=3 * n) Sz30 (by omega) (by omega)) (g:=(mkF m 334 #[vr t,vi 1,vi (.ofNat (o+2)),vi (.ofNat (i+1)),vi (.ofNat n),vr d,vi ch,s7,s8] [(.int (((128:Int32)|||((ch>>>((6:Int32)&&&31))&&&(63:Int32))).toInt8.toInt32)),(.int (.ofNat (o+1))),(.ref d)])) rfl rfl (dE hby D30 86 rfl)
      refine oS st31 ?_
      have V31:=Arv.set Ar30 qk30 Sz30 Mz30 Hz30 Uz30 (fits_nar_byte _) W31 ((out++[.int (own_lo ((224:Int32)|||(ch>>>((12:Int32)&&&31))))]) : List Value).length (by rw [oC (by omega)]; first | omega | (simp only [List.length_append,List.length_cons,List.length_nil]; omega)) (by simp)
      have z32:=W31.size
      have O33:=Old.wr O27 W31 (by omega)
      have K34:=K28.wr W31 (Or.inl (by simp))
      have N31:=Fr.snoc X31 N25 (by omega : Z.heap.size≤d)
      have V31' : Arv Z h31 d kd .byte (Int32.ofNat (3 * n)) ((out++[.int (own_lo ((224:Int32)|||(ch>>>((12:Int32)&&&31))))])++[.int (own_lo ((128:Int32)|||((ch>>>((6:Int32)&&&31))&&&(63:Int32))))]) (.int 0):=by have q:=V31; rw [own_set] at q; exact q
      show gH (T31.setTop (mkF m 335 #[vr t,vi 1,vi (.ofNat (o+2)),vi (.ofNat (i+1)),vi (.ofNat n),vr d,vi ch,s7,s8] [])) ..
      refine oS (fun _=>XS.aload X31.here hx rfl (dE hby D30 87 rfl) rfl rfl) ?_
      refine oS (fun _=>XS.iloadN X31.here hx rfl (dE hby D30 88 rfl) rfl) ?_
      refine oS (fun _=>XS.iinc X31.here hx rfl (dE hby D30 89 rfl) rfl (l':=#[vr t,vi 1,vi ((Int32.ofNat (o+2))+(1:Int32)),vi (.ofNat (i+1)),vi (.ofNat n),vr d,vi ch,s7,s8]) rfl) ?_
      refine oS (fun _=>XS.sipush X31.here hx rfl (dE hby D30 90 rfl)) ?_
      refine oS (fun _=>XS.iload X31.here hx rfl (dE hby D30 91 rfl) rfl) ?_
      refine oS (fun _=>XS.bipush X31.here hx rfl (dE hby D30 92 rfl)) ?_
      refine oS (fun _=>XS.iand X31.here hx rfl (dE hby D30 93 rfl) rfl) ?_
      refine oS (fun _=>XS.ior X31.here hx rfl (dE hby D30 94 rfl) rfl) ?_
      refine oS (fun _=>XS.i2b X31.here hx rfl (dE hby D30 95 rfl) rfl) ?_
      show gH (T31.setTop (mkF m 351 #[vr t,vi 1,vi ((Int32.ofNat (o+2))+(1:Int32)),vi (.ofNat (i+1)),vi (.ofNat n),vr d,vi ch,s7,s8] [(.int (((128:Int32)|||(ch&&&(63:Int32))).toInt8.toInt32)),(.int (.ofNat (o+2))),(.ref d)])) ..
      rw [oO (o+2)]
      have V35p : Arv Z h31 d kd .byte (Int32.ofNat (3 * n)) (((out++[.int (own_lo ((224:Int32)|||(ch>>>((12:Int32)&&&31))))])++[.int (own_lo ((128:Int32)|||((ch>>>((6:Int32)&&&31))&&&(63:Int32))))])++[(.int 0)]) (.int 0):=V31'.pad (pad_rep ((out++[.int (own_lo ((224:Int32)|||(ch>>>((12:Int32)&&&31))))])++[.int (own_lo ((128:Int32)|||((ch>>>((6:Int32)&&&31))&&&(63:Int32))))]) (.int 0) 1)
      obtain ⟨cl36,Ar36,qk36,Sz36,Mz36,Hz36,Uz36⟩:=id V35p
      obtain ⟨T37,h37,X37,e37,W37,st37⟩:=stB X31 hx hZ e31 Ar36 (j:=(Int32.ofNat (o+2))) (oI (i:=o+2) (n:=3 * n) Sz36 (by omega) (by omega)) (g:=(mkF m 351 #[vr t,vi 1,vi (.ofNat (o+3)),vi (.ofNat (i+1)),vi (.ofNat n),vr d,vi ch,s7,s8] [(.int (((128:Int32)|||(ch&&&(63:Int32))).toInt8.toInt32)),(.int (.ofNat (o+2))),(.ref d)])) rfl rfl (dE hby D30 96 rfl)
      refine oS st37 ?_
      have V37:=Arv.set Ar36 qk36 Sz36 Mz36 Hz36 Uz36 (fits_nar_byte _) W37 (((out++[.int (own_lo ((224:Int32)|||(ch>>>((12:Int32)&&&31))))])++[.int (own_lo ((128:Int32)|||((ch>>>((6:Int32)&&&31))&&&(63:Int32))))]) : List Value).length (by rw [oC (by omega)]; first | omega | (simp only [List.length_append,List.length_cons,List.length_nil]; omega)) (by simp)
      have z38:=W37.size
      have O39:=Old.wr O33 W37 (by omega)
      have K40:=K34.wr W37 (Or.inl (by simp))
      have N37:=Fr.snoc X37 N31 (by omega : Z.heap.size≤d)
      have V37' : Arv Z h37 d kd .byte (Int32.ofNat (3 * n)) (((out++[.int (own_lo ((224:Int32)|||(ch>>>((12:Int32)&&&31))))])++[.int (own_lo ((128:Int32)|||((ch>>>((6:Int32)&&&31))&&&(63:Int32))))])++[.int (own_lo ((128:Int32)|||(ch&&&(63:Int32))))]) (.int 0):=by have q:=V37; rw [own_set] at q; exact q
      show gH (T37.setTop (mkF m 352 #[vr t,vi 1,vi (.ofNat (o+3)),vi (.ofNat (i+1)),vi (.ofNat n),vr d,vi ch,s7,s8] [])) ..
      refine oS (fun _=>XS.goto X37.here hx rfl (pc0:=352) (pc':=58) rfl (dE hby D30 37 rfl) (by decide) (by decide)) ?_
      show gH (T37.setTop (mkF m 58 #[vr t,vi 1,vi (.ofNat (o+3)),vi (.ofNat (i+1)),vi (.ofNat n),vr d,vi ch,s7,s8] [])) ..
      have h7_:=h7
      have h8_:=h8
      have q41:=(((Vt.other W25 (show @Ne Nat t d by omega)).other W31 (show @Ne Nat t d by omega)).other W37 (show @Ne Nat t d by omega))
      exact k1_ (ds++[ch]) (((out++[.int (own_lo ((224:Int32)|||(ch>>>((12:Int32)&&&31))))])++[.int (own_lo ((128:Int32)|||((ch>>>((6:Int32)&&&31))&&&(63:Int32))))])++[.int (own_lo ((128:Int32)|||(ch&&&(63:Int32))))]) (o+3) (i+1) _ _ _ _ _ _ X37 e37 N37 O39 K40 (One.val rfl) h7_ h8_ (by rw [List.length_append,hi]; rfl) (by simp only [List.length_append,List.length_cons,List.length_nil]; omega) (by rw [hcs_]; simp) (own_wf_cons hns hwf) (by rw [← hfull,own_u8_cons hns,own_u1c hlow hmid]; simp) (by omega) q41 V37'
theorem own_pd27 : parseMethodDescriptor "(CC)I" = some ⟨[.char,.char],some .int⟩:=by decide +kernel
theorem own_e2_pair {p:Program} {l:Launch} {e:Env} {s:State} {m:MethodId} {args:Array Value} {below:List Frame} {meth:Method} {c:Code} {Z:State} {a0:Array Value} {locs:List Loc} {cells slots : Nat} {T0:State} {h0:Heap} {F:State→Prop} (t d : Addr) (kt kd : ClassId) (n:Nat) (cs:List Int32) (full:List Value) (ds r : List Int32) (ch dh : Int32) (out:List Value) (o i : Nat) (s6 s7 s8 : Slot) (hx:p.tables.exec = Jvm.exec) (hZ:Z.Warmed39 s.vm) (hw:∀ d∈tables_1,d.before a0 Z = true) (hby:c.code = jdk_42_method_47_code) (hml:c.maxLocals = 9) (hown:s.vm.findClass "java/lang/String" = some m.cls) (X0:Stand p l e (⟨3,2,30,60⟩ : Room) s m args below meth c T0 locs cells slots) (e0:T0.heap = h0) (N0:Fr Z.heap.size locs) (O0:Old Z Z.heap.size h0) (US:own_US Z) (hcn:cs.length = n) (hn:n≤6) (hr:∀ c∈cs,0≤c.toInt∧c.toInt < 65536) (hne:t ≠ d) (gd:Z.heap.size≤d) (hcs:cells+0≤(⟨3,2,30,60⟩ : Room).cells) (hss:slots+0≤(⟨3,2,30,60⟩ : Room).slots) (h6:One s6) (h7:One s7) (h8:One s8) (hi:ds.length = i) (ho:out.length = o) (hcs_:cs = ds++ch :: dh :: r) (hwf:own_wf (ch :: dh :: r)) (hfull:out++own_u8 (ch :: dh :: r) = full) (hroom:o+3 * (ch :: dh :: r).length≤3 * n) (Vt:Arv Z h0 t kt .byte (Int32.ofNat (2 * n)) (own_U2 cs) (.int 0)) (Vd:Arv Z h0 d kd .byte (Int32.ofNat (3 * n)) out (.int 0)) (hhs:own_hs ch) (hls:own_ls dh) (hwr:own_wf r)
    (k1_:∀ (ds:List Int32) (out:List Value) (o i : Nat) (s6 s7 s8 : Slot) (T':State) (h':Heap) (locs':List Loc),Stand p l e (⟨3,2,30,60⟩ : Room) s m args below meth c T' locs' cells slots→T'.heap = h'→Fr Z.heap.size locs'→Old Z Z.heap.size h'→Keep h0 h' [d]→One s6→One s7→One s8→ds.length = i→out.length = o→cs = ds++r→own_wf (r)→out++own_u8 (r) = full→o+3 * (r).length≤3 * n→Arv Z h' t kt .byte (Int32.ofNat (2 * n)) (own_U2 cs) (.int 0)→Arv Z h' d kd .byte (Int32.ofNat (3 * n)) out (.int 0)→own_G p.tables e below F (T'.setTop (mkF m 58 #[vr t,vi 1,vi (.ofNat (o)),vi (.ofNat (i)),vi (.ofNat n),vr d,s6,s7,s8] []))) :
    own_G p.tables e below F (T0.setTop (mkF m 58 #[vr t,vi 1,vi (.ofNat (o)),vi (.ofNat (i)),vi (.ofNat n),vr d,s6,s7,s8] [])):=by
  have z0 : Z.heap.size≤h0.size:=O0.2.1
  have Kr:=Keep.refl h0 [d]
  show gH (T0.setTop (mkF m 58 #[vr t,vi 1,vi (.ofNat (o)),vi (.ofNat (i)),vi (.ofNat n),vr d,s6,s7,s8] [])) ..
  have ltt:=oL Vt.lt
  have ltd:=oL Vd.lt
  have hnN : @Ne Nat t d:=hne
  have hat0 : (own_U2 cs).getD (2 * i) (.int 0) = .int (own_b0 ch):=by rw [hcs_,← hi]; exact own_U2_at0 _ _ _ _
  have hat1 : (own_U2 cs).getD (2 * i+1) (.int 0) = .int (own_b1 ch):=by rw [hcs_,← hi]; exact own_U2_at1 _ _ _ _
  have hrc:=hr ch (by rw [hcs_]; simp)
  have hrd:=hr dh (by rw [hcs_]; simp)
  have hcs2 : cs = (ds++[ch])++dh :: r:=by rw [hcs_]; simp
  have hi2 : (ds++[ch]).length = i+1:=by rw [List.length_append,hi]; rfl
  have hbt0 : (own_U2 cs).getD (2 * (i+1)) (.int 0) = .int (own_b0 dh):=by rw [hcs2,← hi2]; exact own_U2_at0 _ _ _ _
  have hbt1 : (own_U2 cs).getD (2 * (i+1)+1) (.int 0) = .int (own_b1 dh):=by rw [hcs2,← hi2]; exact own_U2_at1 _ _ _ _
  have hin : i+1 < n:=by rw [← hcn,hcs_,← hi]; simp
  have hroom' : o+3 * r.length+6≤3 * n:=by have q:=hroom; simp only [List.length_cons] at q; omega
  have hsr : own_sur ch:=⟨hhs.1,by have:=hhs.2; omega⟩
  have hbig : ¬ ch < (128:Int32):=fun z=>own_low z hsr
  have hbig2 : ¬ ch < (2048:Int32):=fun z=>own_mid z hsr
  have hcp:=own_cpt_ge hhs hls
  refine oS (fun _=>XS.iloadN X0.here hx rfl (dE hby D30 19 rfl) rfl) ?_
  refine oS (fun _=>XS.iload X0.here hx rfl (dE hby D30 20 rfl) rfl) ?_
  refine oS (fun _=>XS.icmpNo X0.here hx rfl (dE hby D30 21 rfl) rfl (tlt (own_lt (by omega) (by omega))).2.1) ?_
  refine oS (fun _=>XS.aloadN X0.here hx rfl (dE hby D30 22 rfl) rfl rfl) ?_
  refine oS (fun _=>XS.iloadN X0.here hx rfl (dE hby D30 23 rfl) rfl) ?_
  refine oS (fun _=>XS.iinc X0.here hx rfl (dE hby D30 24 rfl) rfl (l':=#[vr t,vi 1,vi (.ofNat (o)),vi ((Int32.ofNat (i))+(1:Int32)),vi (.ofNat n),vr d,s6,s7,s8]) rfl) ?_
  show gH (T0.setTop (mkF m 69 #[vr t,vi 1,vi (.ofNat (o)),vi ((Int32.ofNat (i))+(1:Int32)),vi (.ofNat n),vr d,s6,s7,s8] [(.int (.ofNat (i))),(.ref t)])) ..
  rw [oO i]
  obtain ⟨_,T1,L1,X1,⟨rfl,N1q,eh1⟩,st1⟩:=own_cS X0 hx hZ hown (own_getC l Z a0 hw [] t i n ch (own_U2 cs) kt h0 O0 US (by omega) (by omega) hrc hat0 hat1 Vt) (oW hw 318 rfl) (oW hw 167 rfl) (oW hw 145 rfl) (oW hw 168 rfl) (W:=0) (g:=(mkF m 69 #[vr t,vi 1,vi (.ofNat (o)),vi (.ofNat (i+1)),vi (.ofNat n),vr d,s6,s7,s8] [(.int (.ofNat (i))),(.ref t)])) rfl (by rw [hml]; rfl) (argsL:=[(.ref t),(.int (.ofNat (i)))]) (rest:=[]) (lenOf own_pd6 rfl) rfl (dE hby D30 25 rfl) rfl e0 hcs hss
  have N1:=Fr.app N0 N1q
  refine oS st1 ?_
  show gH (T1.setTop (mkF m 72 #[vr t,vi 1,vi (.ofNat (o)),vi (.ofNat (i+1)),vi (.ofNat n),vr d,s6,s7,s8] [(.int ch)])) ..
  refine oS (fun _=>XS.istoreS X1.here hx rfl (dE hby D30 26 rfl) rfl rfl h6) ?_
  refine oS (fun _=>XS.iload X1.here hx rfl (dE hby D30 27 rfl) rfl) ?_
  refine oS (fun _=>XS.sipush X1.here hx rfl (dE hby D30 28 rfl)) ?_
  refine oS (fun _=>XS.icmpYes X1.here hx rfl (pc0:=79) (pc':=95) rfl (dE hby D30 29 rfl) rfl (flt hbig).2.1 (by decide) (by decide)) ?_
  refine oS (fun _=>XS.iload X1.here hx rfl (dE hby D30 38 rfl) rfl) ?_
  refine oS (fun _=>XS.sipush X1.here hx rfl (dE hby D30 39 rfl)) ?_
  refine oS (fun _=>XS.icmpYes X1.here hx rfl (pc0:=100) (pc':=140) rfl (dE hby D30 40 rfl) rfl (flt hbig2).2.1 (by decide) (by decide)) ?_
  refine oS (fun _=>XS.iload X1.here hx rfl (dE hby D30 62 rfl) rfl) ?_
  obtain ⟨_,T2,L2,X2,⟨r2,rfl,N2q,eh2,c2⟩,st2⟩:=own_cS X1 hx hZ hown (own_surS l Z a0 hw [] ch h0 O0) (oW hw 319 rfl) (oW hw 320 rfl) (oW hw 321 rfl) (oW hw 322 rfl) (W:=0) (g:=(mkF m 142 #[vr t,vi 1,vi (.ofNat (o)),vi (.ofNat (i+1)),vi (.ofNat n),vr d,vi ch,s7,s8] [(.int ch)])) rfl (by rw [hml]; rfl) (argsL:=[(.int ch)]) (rest:=[]) (lenOf own_pd26 rfl) rfl (dE hby D30 63 rfl) rfl eh1 hcs hss
  have N2:=Fr.app N1 N2q
  refine oS st2 ?_
  show gH (T2.setTop (mkF m 145 #[vr t,vi 1,vi (.ofNat (o)),vi (.ofNat (i+1)),vi (.ofNat n),vr d,vi ch,s7,s8] [(.int r2)])) ..
  obtain ⟨rfl,-⟩:=c2.resolve_right (fun z=>z.2 hsr)
  show gH (T2.setTop (mkF m 145 #[vr t,vi 1,vi (.ofNat (o)),vi (.ofNat (i+1)),vi (.ofNat n),vr d,vi ch,s7,s8] [(.int 1)])) ..
  refine oS (fun _=>XS.ifNo X2.here hx rfl (dE hby D30 64 rfl) rfl ((if0 _ _).trans (feq (by decide)).1)) ?_
  refine oS (fun _=>XS.iconst X2.here hx rfl (dE hby D30 97 rfl)) ?_
  refine oS (fun _=>XS.istoreS X2.here hx rfl (dE hby D30 98 rfl) rfl rfl h7) ?_
  refine oS (fun _=>XS.iload X2.here hx rfl (dE hby D30 99 rfl) rfl) ?_
  obtain ⟨_,T3,L3,X3,⟨r3,rfl,N3q,eh3,c3⟩,st3⟩:=own_cS X2 hx hZ hown (own_hiS l Z a0 hw [] ch h0 O0) (oW hw 325 rfl) (oW hw 326 rfl) (oW hw 321 rfl) (oW hw 327 rfl) (W:=0) (g:=(mkF m 153 #[vr t,vi 1,vi (.ofNat (o)),vi (.ofNat (i+1)),vi (.ofNat n),vr d,vi ch,vi (-1),s8] [(.int ch)])) rfl (by rw [hml]; rfl) (argsL:=[(.int ch)]) (rest:=[]) (lenOf own_pd26 rfl) rfl (dE hby D30 100 rfl) rfl eh2 hcs hss
  have N3:=Fr.app N2 N3q
  refine oS st3 ?_
  show gH (T3.setTop (mkF m 156 #[vr t,vi 1,vi (.ofNat (o)),vi (.ofNat (i+1)),vi (.ofNat n),vr d,vi ch,vi (-1),s8] [(.int r3)])) ..
  obtain ⟨rfl,-⟩:=c3.resolve_right (fun z=>z.2 hhs)
  show gH (T3.setTop (mkF m 156 #[vr t,vi 1,vi (.ofNat (o)),vi (.ofNat (i+1)),vi (.ofNat n),vr d,vi ch,vi (-1),s8] [(.int 1)])) ..
  refine oS (fun _=>XS.ifNo X3.here hx rfl (dE hby D30 101 rfl) rfl ((if0 _ _).trans (feq (by decide)).1)) ?_
  refine oS (fun _=>XS.iloadN X3.here hx rfl (dE hby D30 102 rfl) rfl) ?_
  refine oS (fun _=>XS.iload X3.here hx rfl (dE hby D30 103 rfl) rfl) ?_
  refine oS (fun _=>XS.icmpNo X3.here hx rfl (dE hby D30 104 rfl) rfl (tlt (own_lt hin (by omega))).2.1) ?_
  refine oS (fun _=>XS.aloadN X3.here hx rfl (dE hby D30 105 rfl) rfl rfl) ?_
  refine oS (fun _=>XS.iloadN X3.here hx rfl (dE hby D30 106 rfl) rfl) ?_
  obtain ⟨_,T4,L4,X4,⟨rfl,N4q,eh4⟩,st4⟩:=own_cS X3 hx hZ hown (own_getC l Z a0 hw [] t (i+1) n dh (own_U2 cs) kt h0 O0 US (by omega) (by omega) hrd hbt0 hbt1 Vt) (oW hw 318 rfl) (oW hw 167 rfl) (oW hw 145 rfl) (oW hw 168 rfl) (W:=0) (g:=(mkF m 167 #[vr t,vi 1,vi (.ofNat (o)),vi (.ofNat (i+1)),vi (.ofNat n),vr d,vi ch,vi (-1),s8] [(.int (.ofNat (i+1))),(.ref t)])) rfl (by rw [hml]; rfl) (argsL:=[(.ref t),(.int (.ofNat (i+1)))]) (rest:=[]) (lenOf own_pd6 rfl) rfl (dE hby D30 107 rfl) rfl eh3 hcs hss
  have N4:=Fr.app N3 N4q
  refine oS st4 ?_
  show gH (T4.setTop (mkF m 170 #[vr t,vi 1,vi (.ofNat (o)),vi (.ofNat (i+1)),vi (.ofNat n),vr d,vi ch,vi (-1),s8] [(.int dh)])) ..
  refine oS (fun _=>XS.dup X4.here hx rfl (dE hby D30 108 rfl) rfl rfl) ?_
  refine oS (fun _=>XS.istoreS X4.here hx rfl (dE hby D30 109 rfl) rfl rfl h8) ?_
  obtain ⟨_,T5,L5,X5,⟨r5,rfl,N5q,eh5,c5⟩,st5⟩:=own_cS X4 hx hZ hown (own_loS l Z a0 hw [] dh h0 O0) (oW hw 329 rfl) (oW hw 330 rfl) (oW hw 321 rfl) (oW hw 331 rfl) (W:=0) (g:=(mkF m 173 #[vr t,vi 1,vi (.ofNat (o)),vi (.ofNat (i+1)),vi (.ofNat n),vr d,vi ch,vi (-1),vi dh] [(.int dh)])) rfl (by rw [hml]; rfl) (argsL:=[(.int dh)]) (rest:=[]) (lenOf own_pd26 rfl) rfl (dE hby D30 110 rfl) rfl eh4 hcs hss
  have N5:=Fr.app N4 N5q
  refine oS st5 ?_
  show gH (T5.setTop (mkF m 176 #[vr t,vi 1,vi (.ofNat (o)),vi (.ofNat (i+1)),vi (.ofNat n),vr d,vi ch,vi (-1),vi dh] [(.int r5)])) ..
  obtain ⟨rfl,-⟩:=c5.resolve_right (fun z=>z.2 hls)
  show gH (T5.setTop (mkF m 176 #[vr t,vi 1,vi (.ofNat (o)),vi (.ofNat (i+1)),vi (.ofNat n),vr d,vi ch,vi (-1),vi dh] [(.int 1)])) ..
  refine oS (fun _=>XS.ifNo X5.here hx rfl (dE hby D30 111 rfl) rfl ((if0 _ _).trans (feq (by decide)).1)) ?_
  refine oS (fun _=>XS.iload X5.here hx rfl (dE hby D30 112 rfl) rfl) ?_
  refine oS (fun _=>XS.iload X5.here hx rfl (dE hby D30 113 rfl) rfl) ?_
  obtain ⟨_,T6,L6,X6,⟨rfl,N6q,eh6⟩,st6⟩:=own_cS X5 hx hZ hown (own_tcp l Z a0 hw [] ch dh h0 O0) (oW hw 332 rfl) (oW hw 333 rfl) (oW hw 321 rfl) (oW hw 334 rfl) (W:=0) (g:=(mkF m 183 #[vr t,vi 1,vi (.ofNat (o)),vi (.ofNat (i+1)),vi (.ofNat n),vr d,vi ch,vi (-1),vi dh] [(.int dh),(.int ch)])) rfl (by rw [hml]; rfl) (argsL:=[(.int ch),(.int dh)]) (rest:=[]) (lenOf own_pd27 rfl) rfl (dE hby D30 114 rfl) rfl eh5 hcs hss
  have N6:=Fr.app N5 N6q
  refine oS st6 ?_
  show gH (T6.setTop (mkF m 186 #[vr t,vi 1,vi (.ofNat (o)),vi (.ofNat (i+1)),vi (.ofNat n),vr d,vi ch,vi (-1),vi dh] [(.int (own_cpt ch dh))])) ..
  generalize hu_ : own_cpt ch dh = u at hcp ⊢
  show gH (T6.setTop (mkF m 186 #[vr t,vi 1,vi (.ofNat (o)),vi (.ofNat (i+1)),vi (.ofNat n),vr d,vi ch,vi (-1),vi dh] [(.int u)])) ..
  refine oS (fun _=>XS.istore X6.here hx rfl (dE hby D30 115 rfl) rfl (l':=#[vr t,vi 1,vi (.ofNat (o)),vi (.ofNat (i+1)),vi (.ofNat n),vr d,vi ch,vi u,vi dh]) rfl) ?_
  refine oS (fun _=>XS.iload X6.here hx rfl (dE hby D30 116 rfl) rfl) ?_
  refine oS (fun _=>XS.ifYes X6.here hx rfl (pc0:=190) (pc':=218) rfl (dE hby D30 117 rfl) rfl ((if0 _ _).trans (flt (by rw [Int32.lt_iff_toInt_lt,show (0:Int32).toInt = 0 from rfl]; omega)).2.1) (by decide) (by decide)) ?_
  refine oS (fun _=>XS.aload X6.here hx rfl (dE hby D30 118 rfl) rfl rfl) ?_
  refine oS (fun _=>XS.iloadN X6.here hx rfl (dE hby D30 119 rfl) rfl) ?_
  refine oS (fun _=>XS.iinc X6.here hx rfl (dE hby D30 120 rfl) rfl (l':=#[vr t,vi 1,vi ((Int32.ofNat (o))+(1:Int32)),vi (.ofNat (i+1)),vi (.ofNat n),vr d,vi ch,vi u,vi dh]) rfl) ?_
  refine oS (fun _=>XS.sipush X6.here hx rfl (dE hby D30 121 rfl)) ?_
  refine oS (fun _=>XS.iload X6.here hx rfl (dE hby D30 122 rfl) rfl) ?_
  refine oS (fun _=>XS.bipush X6.here hx rfl (dE hby D30 123 rfl)) ?_
  refine oS (fun _=>XS.ishr X6.here hx rfl (dE hby D30 124 rfl) rfl) ?_
  refine oS (fun _=>XS.ior X6.here hx rfl (dE hby D30 125 rfl) rfl) ?_
  refine oS (fun _=>XS.i2b X6.here hx rfl (dE hby D30 126 rfl) rfl) ?_
  show gH (T6.setTop (mkF m 234 #[vr t,vi 1,vi ((Int32.ofNat (o))+(1:Int32)),vi (.ofNat (i+1)),vi (.ofNat n),vr d,vi ch,vi u,vi dh] [(.int (((240:Int32)|||(u>>>((18:Int32)&&&31))).toInt8.toInt32)),(.int (.ofNat (o))),(.ref d)])) ..
  rw [oO (o)]
  have V7p : Arv Z h0 d kd .byte (Int32.ofNat (3 * n)) (out++[(.int 0)]) (.int 0):=Vd.pad (pad_rep out (.int 0) 1)
  obtain ⟨cl8,Ar8,qk8,Sz8,Mz8,Hz8,Uz8⟩:=id V7p
  obtain ⟨T9,h9,X9,e9,W9,st9⟩:=stB X6 hx hZ eh6 Ar8 (j:=(Int32.ofNat (o))) (oI (i:=o) (n:=3 * n) Sz8 (by omega) (by omega)) (g:=(mkF m 234 #[vr t,vi 1,vi (.ofNat (o+1)),vi (.ofNat (i+1)),vi (.ofNat n),vr d,vi ch,vi u,vi dh] [(.int (((240:Int32)|||(u>>>((18:Int32)&&&31))).toInt8.toInt32)),(.int (.ofNat (o))),(.ref d)])) rfl rfl (dE hby D30 127 rfl)
  refine oS st9 ?_
  have V9:=Arv.set Ar8 qk8 Sz8 Mz8 Hz8 Uz8 (fits_nar_byte _) W9 (out:List Value).length (by rw [oC (by omega)]; first | omega | (simp only [List.length_append,List.length_cons,List.length_nil]; omega)) (by simp)
  have z10:=W9.size
  have O11:=Old.wr O0 W9 (by omega)
  have K12:=Kr.wr W9 (Or.inl (by simp))
  have N9:=Fr.snoc X9 N6 (by omega : Z.heap.size≤d)
  have V9' : Arv Z h9 d kd .byte (Int32.ofNat (3 * n)) (out++[.int (own_lo ((240:Int32)|||(u>>>((18:Int32)&&&31))))]) (.int 0):=by have q:=V9; rw [own_set] at q; exact q
  show gH (T9.setTop (mkF m 235 #[vr t,vi 1,vi (.ofNat (o+1)),vi (.ofNat (i+1)),vi (.ofNat n),vr d,vi ch,vi u,vi dh] [])) ..
  refine oS (fun _=>XS.aload X9.here hx rfl (dE hby D30 128 rfl) rfl rfl) ?_
  refine oS (fun _=>XS.iloadN X9.here hx rfl (dE hby D30 129 rfl) rfl) ?_
  refine oS (fun _=>XS.iinc X9.here hx rfl (dE hby D30 130 rfl) rfl (l':=#[vr t,vi 1,vi ((Int32.ofNat (o+1))+(1:Int32)),vi (.ofNat (i+1)),vi (.ofNat n),vr d,vi ch,vi u,vi dh]) rfl) ?_
  refine oS (fun _=>XS.sipush X9.here hx rfl (dE hby D30 131 rfl)) ?_
  refine oS (fun _=>XS.iload X9.here hx rfl (dE hby D30 132 rfl) rfl) ?_
  refine oS (fun _=>XS.bipush X9.here hx rfl (dE hby D30 133 rfl)) ?_
  refine oS (fun _=>XS.ishr X9.here hx rfl (dE hby D30 134 rfl) rfl) ?_
  refine oS (fun _=>XS.bipush X9.here hx rfl (dE hby D30 135 rfl)) ?_
  refine oS (fun _=>XS.iand X9.here hx rfl (dE hby D30 136 rfl) rfl) ?_
  refine oS (fun _=>XS.ior X9.here hx rfl (dE hby D30 137 rfl) rfl) ?_
  refine oS (fun _=>XS.i2b X9.here hx rfl (dE hby D30 138 rfl) rfl) ?_
  show gH (T9.setTop (mkF m 254 #[vr t,vi 1,vi ((Int32.ofNat (o+1))+(1:Int32)),vi (.ofNat (i+1)),vi (.ofNat n),vr d,vi ch,vi u,vi dh] [(.int (((128:Int32)|||((u>>>((12:Int32)&&&31))&&&(63:Int32))).toInt8.toInt32)),(.int (.ofNat (o+1))),(.ref d)])) ..
  rw [oO (o+1)]
  have V13p : Arv Z h9 d kd .byte (Int32.ofNat (3 * n)) ((out++[.int (own_lo ((240:Int32)|||(u>>>((18:Int32)&&&31))))])++[(.int 0)]) (.int 0):=V9'.pad (pad_rep (out++[.int (own_lo ((240:Int32)|||(u>>>((18:Int32)&&&31))))]) (.int 0) 1)
  obtain ⟨cl14,Ar14,qk14,Sz14,Mz14,Hz14,Uz14⟩:=id V13p
  obtain ⟨T15,h15,X15,e15,W15,st15⟩:=stB X9 hx hZ e9 Ar14 (j:=(Int32.ofNat (o+1))) (oI (i:=o+1) (n:=3 * n) Sz14 (by omega) (by omega)) (g:=(mkF m 254 #[vr t,vi 1,vi (.ofNat (o+2)),vi (.ofNat (i+1)),vi (.ofNat n),vr d,vi ch,vi u,vi dh] [(.int (((128:Int32)|||((u>>>((12:Int32)&&&31))&&&(63:Int32))).toInt8.toInt32)),(.int (.ofNat (o+1))),(.ref d)])) rfl rfl (dE hby D30 139 rfl)
  refine oS st15 ?_
  have V15:=Arv.set Ar14 qk14 Sz14 Mz14 Hz14 Uz14 (fits_nar_byte _) W15 ((out++[.int (own_lo ((240:Int32)|||(u>>>((18:Int32)&&&31))))]) : List Value).length (by rw [oC (by omega)]; first | omega | (simp only [List.length_append,List.length_cons,List.length_nil]; omega)) (by simp)
  have z16:=W15.size
  have O17:=Old.wr O11 W15 (by omega)
  have K18:=K12.wr W15 (Or.inl (by simp))
  have N15:=Fr.snoc X15 N9 (by omega : Z.heap.size≤d)
  have V15' : Arv Z h15 d kd .byte (Int32.ofNat (3 * n)) ((out++[.int (own_lo ((240:Int32)|||(u>>>((18:Int32)&&&31))))])++[.int (own_lo ((128:Int32)|||((u>>>((12:Int32)&&&31))&&&(63:Int32))))]) (.int 0):=by have q:=V15; rw [own_set] at q; exact q
  show gH (T15.setTop (mkF m 255 #[vr t,vi 1,vi (.ofNat (o+2)),vi (.ofNat (i+1)),vi (.ofNat n),vr d,vi ch,vi u,vi dh] [])) ..
  refine oS (fun _=>XS.aload X15.here hx rfl (dE hby D30 140 rfl) rfl rfl) ?_
  refine oS (fun _=>XS.iloadN X15.here hx rfl (dE hby D30 141 rfl) rfl) ?_
  refine oS (fun _=>XS.iinc X15.here hx rfl (dE hby D30 142 rfl) rfl (l':=#[vr t,vi 1,vi ((Int32.ofNat (o+2))+(1:Int32)),vi (.ofNat (i+1)),vi (.ofNat n),vr d,vi ch,vi u,vi dh]) rfl) ?_
  refine oS (fun _=>XS.sipush X15.here hx rfl (dE hby D30 143 rfl)) ?_
  refine oS (fun _=>XS.iload X15.here hx rfl (dE hby D30 144 rfl) rfl) ?_
  refine oS (fun _=>XS.bipush X15.here hx rfl (dE hby D30 145 rfl)) ?_
  refine oS (fun _=>XS.ishr X15.here hx rfl (dE hby D30 146 rfl) rfl) ?_
  refine oS (fun _=>XS.bipush X15.here hx rfl (dE hby D30 147 rfl)) ?_
  refine oS (fun _=>XS.iand X15.here hx rfl (dE hby D30 148 rfl) rfl) ?_
  refine oS (fun _=>XS.ior X15.here hx rfl (dE hby D30 149 rfl) rfl) ?_
  refine oS (fun _=>XS.i2b X15.here hx rfl (dE hby D30 150 rfl) rfl) ?_
  show gH (T15.setTop (mkF m 274 #[vr t,vi 1,vi ((Int32.ofNat (o+2))+(1:Int32)),vi (.ofNat (i+1)),vi (.ofNat n),vr d,vi ch,vi u,vi dh] [(.int (((128:Int32)|||((u>>>((6:Int32)&&&31))&&&(63:Int32))).toInt8.toInt32)),(.int (.ofNat (o+2))),(.ref d)])) ..
  rw [oO (o+2)]
  have V19p : Arv Z h15 d kd .byte (Int32.ofNat (3 * n)) (((out++[.int (own_lo ((240:Int32)|||(u>>>((18:Int32)&&&31))))])++[.int (own_lo ((128:Int32)|||((u>>>((12:Int32)&&&31))&&&(63:Int32))))])++[(.int 0)]) (.int 0):=V15'.pad (pad_rep ((out++[.int (own_lo ((240:Int32)|||(u>>>((18:Int32)&&&31))))])++[.int (own_lo ((128:Int32)|||((u>>>((12:Int32)&&&31))&&&(63:Int32))))]) (.int 0) 1)
  obtain ⟨cl20,Ar20,qk20,Sz20,Mz20,Hz20,Uz20⟩:=id V19p
  obtain ⟨T21,h21,X21,e21,W21,st21⟩:=stB X15 hx hZ e15 Ar20 (j:=(Int32.ofNat (o+2))) (oI (i:=o+2) (n:=3 * n) Sz20 (by omega) (by omega)) (g:=(mkF m 274 #[vr t,vi 1,vi (.ofNat (o+3)),vi (.ofNat (i+1)),vi (.ofNat n),vr d,vi ch,vi u,vi dh] [(.int (((128:Int32)|||((u>>>((6:Int32)&&&31))&&&(63:Int32))).toInt8.toInt32)),(.int (.ofNat (o+2))),(.ref d)])) rfl rfl (dE hby D30 151 rfl)
  refine oS st21 ?_
  have V21:=Arv.set Ar20 qk20 Sz20 Mz20 Hz20 Uz20 (fits_nar_byte _) W21 (((out++[.int (own_lo ((240:Int32)|||(u>>>((18:Int32)&&&31))))])++[.int (own_lo ((128:Int32)|||((u>>>((12:Int32)&&&31))&&&(63:Int32))))]) : List Value).length (by rw [oC (by omega)]; first | omega | (simp only [List.length_append,List.length_cons,List.length_nil]; omega)) (by simp)
  have z22:=W21.size
  have O23:=Old.wr O17 W21 (by omega)
  have K24:=K18.wr W21 (Or.inl (by simp))
  have N21:=Fr.snoc X21 N15 (by omega : Z.heap.size≤d)
  have V21' : Arv Z h21 d kd .byte (Int32.ofNat (3 * n)) (((out++[.int (own_lo ((240:Int32)|||(u>>>((18:Int32)&&&31))))])++[.int (own_lo ((128:Int32)|||((u>>>((12:Int32)&&&31))&&&(63:Int32))))])++[.int (own_lo ((128:Int32)|||((u>>>((6:Int32)&&&31))&&&(63:Int32))))]) (.int 0):=by have q:=V21; rw [own_set] at q; exact q
  show gH (T21.setTop (mkF m 275 #[vr t,vi 1,vi (.ofNat (o+3)),vi (.ofNat (i+1)),vi (.ofNat n),vr d,vi ch,vi u,vi dh] [])) ..
  refine oS (fun _=>XS.aload X21.here hx rfl (dE hby D30 152 rfl) rfl rfl) ?_
  refine oS (fun _=>XS.iloadN X21.here hx rfl (dE hby D30 153 rfl) rfl) ?_
  refine oS (fun _=>XS.iinc X21.here hx rfl (dE hby D30 154 rfl) rfl (l':=#[vr t,vi 1,vi ((Int32.ofNat (o+3))+(1:Int32)),vi (.ofNat (i+1)),vi (.ofNat n),vr d,vi ch,vi u,vi dh]) rfl) ?_
  refine oS (fun _=>XS.sipush X21.here hx rfl (dE hby D30 155 rfl)) ?_
  refine oS (fun _=>XS.iload X21.here hx rfl (dE hby D30 156 rfl) rfl) ?_
  refine oS (fun _=>XS.bipush X21.here hx rfl (dE hby D30 157 rfl)) ?_
  refine oS (fun _=>XS.iand X21.here hx rfl (dE hby D30 158 rfl) rfl) ?_
  refine oS (fun _=>XS.ior X21.here hx rfl (dE hby D30 159 rfl) rfl) ?_
  refine oS (fun _=>XS.i2b X21.here hx rfl (dE hby D30 160 rfl) rfl) ?_
  show gH (T21.setTop (mkF m 291 #[vr t,vi 1,vi ((Int32.ofNat (o+3))+(1:Int32)),vi (.ofNat (i+1)),vi (.ofNat n),vr d,vi ch,vi u,vi dh] [(.int (((128:Int32)|||(u&&&(63:Int32))).toInt8.toInt32)),(.int (.ofNat (o+3))),(.ref d)])) ..
  rw [oO (o+3)]
  have V25p : Arv Z h21 d kd .byte (Int32.ofNat (3 * n)) ((((out++[.int (own_lo ((240:Int32)|||(u>>>((18:Int32)&&&31))))])++[.int (own_lo ((128:Int32)|||((u>>>((12:Int32)&&&31))&&&(63:Int32))))])++[.int (own_lo ((128:Int32)|||((u>>>((6:Int32)&&&31))&&&(63:Int32))))])++[(.int 0)]) (.int 0):=V21'.pad (pad_rep (((out++[.int (own_lo ((240:Int32)|||(u>>>((18:Int32)&&&31))))])++[.int (own_lo ((128:Int32)|||((u>>>((12:Int32)&&&31))&&&(63:Int32))))])++[.int (own_lo ((128:Int32)|||((u>>>((6:Int32)&&&31))&&&(63:Int32))))]) (.int 0) 1)
  obtain ⟨cl26,Ar26,qk26,Sz26,Mz26,Hz26,Uz26⟩:=id V25p
  obtain ⟨T27,h27,X27,e27,W27,st27⟩:=stB X21 hx hZ e21 Ar26 (j:=(Int32.ofNat (o+3))) (oI (i:=o+3) (n:=3 * n) Sz26 (by omega) (by omega)) (g:=(mkF m 291 #[vr t,vi 1,vi (.ofNat (o+4)),vi (.ofNat (i+1)),vi (.ofNat n),vr d,vi ch,vi u,vi dh] [(.int (((128:Int32)|||(u&&&(63:Int32))).toInt8.toInt32)),(.int (.ofNat (o+3))),(.ref d)])) rfl rfl (dE hby D30 161 rfl)
  refine oS st27 ?_
  have V27:=Arv.set Ar26 qk26 Sz26 Mz26 Hz26 Uz26 (fits_nar_byte _) W27 ((((out++[.int (own_lo ((240:Int32)|||(u>>>((18:Int32)&&&31))))])++[.int (own_lo ((128:Int32)|||((u>>>((12:Int32)&&&31))&&&(63:Int32))))])++[.int (own_lo ((128:Int32)|||((u>>>((6:Int32)&&&31))&&&(63:Int32))))]) : List Value).length (by rw [oC (by omega)]; first | omega | (simp only [List.length_append,List.length_cons,List.length_nil]; omega)) (by simp)
  have z28:=W27.size
  have O29:=Old.wr O23 W27 (by omega)
  have K30:=K24.wr W27 (Or.inl (by simp))
  have N27:=Fr.snoc X27 N21 (by omega : Z.heap.size≤d)
  have V27' : Arv Z h27 d kd .byte (Int32.ofNat (3 * n)) ((((out++[.int (own_lo ((240:Int32)|||(u>>>((18:Int32)&&&31))))])++[.int (own_lo ((128:Int32)|||((u>>>((12:Int32)&&&31))&&&(63:Int32))))])++[.int (own_lo ((128:Int32)|||((u>>>((6:Int32)&&&31))&&&(63:Int32))))])++[.int (own_lo ((128:Int32)|||(u&&&(63:Int32))))]) (.int 0):=by have q:=V27; rw [own_set] at q; exact q
  show gH (T27.setTop (mkF m 292 #[vr t,vi 1,vi (.ofNat (o+4)),vi (.ofNat (i+1)),vi (.ofNat n),vr d,vi ch,vi u,vi dh] [])) ..
  refine oS (fun _=>XS.iinc X27.here hx rfl (dE hby D30 162 rfl) rfl (l':=#[vr t,vi 1,vi (.ofNat (o+4)),vi ((Int32.ofNat (i+1))+(1:Int32)),vi (.ofNat n),vr d,vi ch,vi u,vi dh]) rfl) ?_
  refine oS (fun _=>XS.goto X27.here hx rfl (pc0:=295) (pc':=352) rfl (dE hby D30 163 rfl) (by decide) (by decide)) ?_
  refine oS (fun _=>XS.goto X27.here hx rfl (pc0:=352) (pc':=58) rfl (dE hby D30 37 rfl) (by decide) (by decide)) ?_
  show gH (T27.setTop (mkF m 58 #[vr t,vi 1,vi (.ofNat (o+4)),vi ((Int32.ofNat (i+1))+(1:Int32)),vi (.ofNat n),vr d,vi ch,vi u,vi dh] [])) ..
  rw [oO (i+1)]
  show gH (T27.setTop (mkF m 58 #[vr t,vi 1,vi (.ofNat (o+4)),vi (.ofNat (i+2)),vi (.ofNat n),vr d,vi ch,vi u,vi dh] [])) ..
  have q31:=((((Vt.other W9 (show @Ne Nat t d by omega)).other W15 (show @Ne Nat t d by omega)).other W21 (show @Ne Nat t d by omega)).other W27 (show @Ne Nat t d by omega))
  exact k1_ (ds++[ch,dh]) ((((out++[.int (own_lo ((240:Int32)|||(u>>>((18:Int32)&&&31))))])++[.int (own_lo ((128:Int32)|||((u>>>((12:Int32)&&&31))&&&(63:Int32))))])++[.int (own_lo ((128:Int32)|||((u>>>((6:Int32)&&&31))&&&(63:Int32))))])++[.int (own_lo ((128:Int32)|||(u&&&(63:Int32))))]) (o+4) (i+2) _ _ _ _ _ _ X27 e27 N27 O29 K30 (One.val rfl) (One.val rfl) (One.val rfl) (by rw [List.length_append,hi]; rfl) (by simp only [List.length_append,List.length_cons,List.length_nil]; omega) (by rw [hcs_]; simp) hwr (by rw [← hfull,own_u8_pair hsr,hu_]; simp [own_u4]) (by omega) q31 V27'
theorem own_e2_exit {p:Program} {l:Launch} {e:Env} {s:State} {m:MethodId} {args:Array Value} {below:List Frame} {meth:Method} {c:Code} {Z:State} {a0:Array Value} {locs:List Loc} {cells slots : Nat} {T0:State} {h0:Heap} {F:State→Prop} (t d : Addr) (kt kd : ClassId) (n o i : Nat) (cs:List Int32) (out:List Value) (s6 s7 s8 : Slot) (hx:p.tables.exec = Jvm.exec) (hZ:Z.Warmed39 s.vm) (hw:∀ d∈tables_1,d.before a0 Z = true) (hby:c.code = jdk_42_method_47_code) (hml:c.maxLocals = 9) (hown:s.vm.findClass "java/lang/String" = some m.cls) (X0:Stand p l e (⟨3,2,30,60⟩ : Room) s m args below meth c T0 locs cells slots) (e0:T0.heap = h0) (N0:Fr Z.heap.size locs) (O0:Old Z Z.heap.size h0) (hin:i = n) (hne:t ≠ d) (Vt:Arv Z h0 t kt .byte (Int32.ofNat (2 * n)) (own_U2 cs) (.int 0)) (Vd:Arv Z h0 d kd .byte (Int32.ofNat (3 * n)) out (.int 0))
    (kx:own_G p.tables e below F (T0.setTop (mkF m 355 #[vr t,vi 1,vi (.ofNat (o)),vi (.ofNat (i)),vi (.ofNat n),vr d,s6,s7,s8] []))) :
    own_G p.tables e below F (T0.setTop (mkF m 58 #[vr t,vi 1,vi (.ofNat (o)),vi (.ofNat (i)),vi (.ofNat n),vr d,s6,s7,s8] [])):=by
  show gH (T0.setTop (mkF m 58 #[vr t,vi 1,vi (.ofNat (o)),vi (.ofNat (i)),vi (.ofNat n),vr d,s6,s7,s8] [])) ..
  have ltt:=oL Vt.lt
  have ltd:=oL Vd.lt
  have hnN : @Ne Nat t d:=hne
  refine oS (fun _=>XS.iloadN X0.here hx rfl (dE hby D30 19 rfl) rfl) ?_
  refine oS (fun _=>XS.iload X0.here hx rfl (dE hby D30 20 rfl) rfl) ?_
  refine oS (fun _=>XS.icmpYes X0.here hx rfl (pc0:=61) (pc':=355) rfl (dE hby D30 21 rfl) rfl (flt (by rw [hin]; exact Int32.lt_irrefl)).2.1 (by decide) (by decide)) ?_
  show gH (T0.setTop (mkF m 355 #[vr t,vi 1,vi (.ofNat (o)),vi (.ofNat (i)),vi (.ofNat n),vr d,s6,s7,s8] [])) ..
  exact kx
theorem own_e1_loop {p:Program} {l:Launch} {e:Env} {s:State} {m:MethodId} {args:Array Value} {below:List Frame} {meth:Method} {c:Code} {Z:State} {a0:Array Value} {cells slots : Nat} {h0:Heap} {F:State→Prop} (t d : Addr) (kt kd : ClassId) (n:Nat) (cs:List Int32) (full:List Value) (hx:p.tables.exec = Jvm.exec) (hZ:Z.Warmed39 s.vm) (hw:∀ d∈tables_1,d.before a0 Z = true) (hby:c.code = jdk_42_method_47_code) (hml:c.maxLocals = 9) (hown:s.vm.findClass "java/lang/String" = some m.cls) (US:own_US Z) (hcn:cs.length = n) (hn:n≤6) (hr:∀ c∈cs,0≤c.toInt∧c.toInt < 65536) (hne:t ≠ d) (gd:Z.heap.size≤d) (hcs:cells+0≤(⟨3,2,30,60⟩ : Room).cells) (hss:slots+0≤(⟨3,2,30,60⟩ : Room).slots)
    (k:∀ (rest:List Int32),∀ (ds:List Int32) (out:List Value) (o i : Nat) (s6 s7 s8 : Slot) (T':State) (h':Heap) (locs':List Loc),Stand p l e (⟨3,2,30,60⟩ : Room) s m args below meth c T' locs' cells slots→T'.heap = h'→Fr Z.heap.size locs'→Old Z Z.heap.size h'→Keep h0 h' [d]→One s6→One s7→One s8→ds.length = i→out.length = o→cs = ds++rest→own_wf (rest)→out++own_u8 (rest) = full→o+3 * (rest).length≤3 * n→Arv Z h' t kt .byte (Int32.ofNat (2 * n)) (own_U2 cs) (.int 0)→Arv Z h' d kd .byte (Int32.ofNat (3 * n)) out (.int 0)→own_G p.tables e below F (T'.setTop (mkF m 58 #[vr t,vi 1,vi (.ofNat (o)),vi (.ofNat (i)),vi (.ofNat n),vr d,s6,s7,s8] []))) :
    ∀ (rest:List Int32) (ds:List Int32) (out:List Value) (o i : Nat) (s6 s7 s8 : Slot) (T':State) (h':Heap) (locs':List Loc),Stand p l e (⟨3,2,30,60⟩ : Room) s m args below meth c T' locs' cells slots→T'.heap = h'→Fr Z.heap.size locs'→Old Z Z.heap.size h'→Keep h0 h' [d]→One s6→One s7→One s8→ds.length = i→out.length = o→cs = ds++rest→own_wf (rest)→out++own_u8 (rest) = full→o+3 * (rest).length≤3 * n→Arv Z h' t kt .byte (Int32.ofNat (2 * n)) (own_U2 cs) (.int 0)→Arv Z h' d kd .byte (Int32.ofNat (3 * n)) out (.int 0)→own_G p.tables e below F (T'.setTop (mkF m 18 #[vr t,vi 1,vi (.ofNat (o)),vi (.ofNat (i)),vi (.ofNat n),vr d,s6,s7,s8] [])):=by
  intro rest
  induction rest with
  | nil =>
    intro ds out o i s6 s7 s8 T' h' locs' X e1 N O K h6 h7 h8 hi ho hcs_ hwf hfull hroom Vt Vd
    exact own_e1_exit t d kt kd n o i cs out s6 s7 s8 hx hZ hw hby hml hown X e1 N O (by rw [← hi,← hcn,hcs_]; simp) hne Vt Vd (k [] ds out o i s6 s7 s8 T' h' locs' X e1 N O K h6 h7 h8 hi ho hcs_ hwf hfull hroom Vt Vd)
  | cons ch r ih =>
    intro ds out o i s6 s7 s8 T' h' locs' X e1 N O K h6 h7 h8 hi ho hcs_ hwf hfull hroom Vt Vd
    refine own_e1_turn t d kt kd n cs full ds r ch out o i s6 s7 s8 hx hZ hw hby hml hown X e1 N O US hcn hn hr hne gd hcs hss h6 h7 h8 hi ho hcs_ hwf hfull hroom Vt Vd ?_ ?_
    · intro ds2 out2 o2 i2 t6 t7 t8 T2 h2 L2 X2 e2 N2 O2 K2 g6 g7 g8 gi go gcs gwf gfull groom Wt Wd
      exact ih ds2 out2 o2 i2 t6 t7 t8 T2 h2 L2 X2 e2 N2 O2 (K.trans K2 (allS (Or.inl (by simp)) all0)) g6 g7 g8 gi go gcs gwf gfull groom Wt Wd
    · intro ds2 out2 o2 i2 t6 t7 t8 T2 h2 L2 X2 e2 N2 O2 K2 g6 g7 g8 gi go gcs gwf gfull groom Wt Wd
      exact k (ch :: r) ds2 out2 o2 i2 t6 t7 t8 T2 h2 L2 X2 e2 N2 O2 (K.trans K2 (allS (Or.inl (by simp)) all0)) g6 g7 g8 gi go gcs gwf gfull groom Wt Wd
theorem own_e2_loop {p:Program} {l:Launch} {e:Env} {s:State} {m:MethodId} {args:Array Value} {below:List Frame} {meth:Method} {c:Code} {Z:State} {a0:Array Value} {cells slots : Nat} {h0:Heap} {F:State→Prop} (t d : Addr) (kt kd : ClassId) (n:Nat) (cs:List Int32) (full:List Value) (hx:p.tables.exec = Jvm.exec) (hZ:Z.Warmed39 s.vm) (hw:∀ d∈tables_1,d.before a0 Z = true) (hby:c.code = jdk_42_method_47_code) (hml:c.maxLocals = 9) (hown:s.vm.findClass "java/lang/String" = some m.cls) (US:own_US Z) (hcn:cs.length = n) (hn:n≤6) (hr:∀ c∈cs,0≤c.toInt∧c.toInt < 65536) (hne:t ≠ d) (gd:Z.heap.size≤d) (hcs:cells+0≤(⟨3,2,30,60⟩ : Room).cells) (hss:slots+0≤(⟨3,2,30,60⟩ : Room).slots)
    (k:∀ (ds:List Int32) (out:List Value) (o i : Nat) (s6 s7 s8 : Slot) (T':State) (h':Heap) (locs':List Loc),Stand p l e (⟨3,2,30,60⟩ : Room) s m args below meth c T' locs' cells slots→T'.heap = h'→Fr Z.heap.size locs'→Old Z Z.heap.size h'→Keep h0 h' [d]→One s6→One s7→One s8→ds.length = i→out.length = o→cs = ds++([] : List Int32)→own_wf (([] : List Int32))→out++own_u8 (([] : List Int32)) = full→o+3 * (([] : List Int32)).length≤3 * n→Arv Z h' t kt .byte (Int32.ofNat (2 * n)) (own_U2 cs) (.int 0)→Arv Z h' d kd .byte (Int32.ofNat (3 * n)) out (.int 0)→own_G p.tables e below F (T'.setTop (mkF m 355 #[vr t,vi 1,vi (.ofNat (o)),vi (.ofNat (i)),vi (.ofNat n),vr d,s6,s7,s8] []))) :
    ∀ (q:Nat) (rest:List Int32),rest.length≤q→∀ (ds:List Int32) (out:List Value) (o i : Nat) (s6 s7 s8 : Slot) (T':State) (h':Heap) (locs':List Loc),Stand p l e (⟨3,2,30,60⟩ : Room) s m args below meth c T' locs' cells slots→T'.heap = h'→Fr Z.heap.size locs'→Old Z Z.heap.size h'→Keep h0 h' [d]→One s6→One s7→One s8→ds.length = i→out.length = o→cs = ds++rest→own_wf (rest)→out++own_u8 (rest) = full→o+3 * (rest).length≤3 * n→Arv Z h' t kt .byte (Int32.ofNat (2 * n)) (own_U2 cs) (.int 0)→Arv Z h' d kd .byte (Int32.ofNat (3 * n)) out (.int 0)→own_G p.tables e below F (T'.setTop (mkF m 58 #[vr t,vi 1,vi (.ofNat (o)),vi (.ofNat (i)),vi (.ofNat n),vr d,s6,s7,s8] [])):=by
  intro q
  induction q with
  | zero =>
    intro rest hq ds out o i s6 s7 s8 T' h' locs' X e1 N O K h6 h7 h8 hi ho hcs_ hwf hfull hroom Vt Vd
    have hz : rest = []:=List.eq_nil_of_length_eq_zero (by omega)
    subst hz
    exact own_e2_exit t d kt kd n o i cs out s6 s7 s8 hx hZ hw hby hml hown X e1 N O (by rw [← hi,← hcn,hcs_]; simp) hne Vt Vd (k ds out o i s6 s7 s8 T' h' locs' X e1 N O K h6 h7 h8 hi ho hcs_ hwf hfull hroom Vt Vd)
  | succ q ih =>
    intro rest hq ds out o i s6 s7 s8 T' h' locs' X e1 N O K h6 h7 h8 hi ho hcs_ hwf hfull hroom Vt Vd
    cases rest with
    | nil=>exact own_e2_exit t d kt kd n o i cs out s6 s7 s8 hx hZ hw hby hml hown X e1 N O (by rw [← hi,← hcn,hcs_]; simp) hne Vt Vd (k ds out o i s6 s7 s8 T' h' locs' X e1 N O K h6 h7 h8 hi ho hcs_ hwf hfull hroom Vt Vd)
    | cons ch r =>
      by_cases hs : own_sur ch
      · obtain ⟨dh,r',rfl,hhs,hls,hwr⟩:=own_wf_sur hs hwf
        refine own_e2_pair t d kt kd n cs full ds r' ch dh out o i s6 s7 s8 hx hZ hw hby hml hown X e1 N O US hcn hn hr hne gd hcs hss h6 h7 h8 hi ho hcs_ hwf hfull hroom Vt Vd hhs hls hwr ?_
        intro ds2 out2 o2 i2 t6 t7 t8 T2 h2 L2 X2 e2 N2 O2 K2 g6 g7 g8 gi go gcs gwf gfull groom Wt Wd
        exact ih r' (by simp only [List.length_cons] at hq; omega) ds2 out2 o2 i2 t6 t7 t8 T2 h2 L2 X2 e2 N2 O2 (K.trans K2 (allS (Or.inl (by simp)) all0)) g6 g7 g8 gi go gcs gwf gfull groom Wt Wd
      · refine own_e2_turn t d kt kd n cs full ds r ch out o i s6 s7 s8 hx hZ hw hby hml hown X e1 N O US hcn hn hr hne gd hcs hss h6 h7 h8 hi ho hcs_ hwf hfull hroom Vt Vd hs ?_
        intro ds2 out2 o2 i2 t6 t7 t8 T2 h2 L2 X2 e2 N2 O2 K2 g6 g7 g8 gi go gcs gwf gfull groom Wt Wd
        exact ih r (by simp only [List.length_cons] at hq; omega) ds2 out2 o2 i2 t6 t7 t8 T2 h2 L2 X2 e2 N2 O2 (K.trans K2 (allS (Or.inl (by simp)) all0)) g6 g7 g8 gi go gcs gwf gfull groom Wt Wd
theorem own_pd28 : parseMethodDescriptor "([BI)[B" = some ⟨[(.array .byte),.int],some (.array .byte)⟩:=by decide +kernel
theorem own_eu (l:Launch) (Z:State) (a0:Array Value) (hw:∀ d∈tables_1,d.before a0 Z = true) (ws:List Jvm.Cond) (t:Addr) (kt:ClassId) (cs:List Int32) (h0:Heap) (O0:Old Z Z.heap.size h0) (US:own_US Z) (hn:cs.length≤6) (hr:∀ c∈cs,0≤c.toInt∧c.toInt < 65536) (hwf:own_wf cs) (hu:(own_u8 cs).length < 2 * cs.length∧(own_u8 cs).length≤12) (Vt:Arv Z h0 t kt .byte (Int32.ofNat (2 * cs.length)) (own_U2 cs) (.int 0)) :
    own_Met l Z (⟨"java/lang/String","encodeUTF8_UTF16","([BZ)[B"⟩ : MethodName) jdk_42_method_47_code 9 (some (.array .byte)) ws (⟨3,2,30,60⟩ : Room) #[(.ref t),(.int 1)] h0 (fun v h L=>∃ b kb,v = some (.ref b)∧Fr Z.heap.size L∧Keep h0 h []∧h0.size≤b∧Arv Z h b kb .byte (Int32.ofNat (own_u8 cs).length) (own_u8 cs) (.int 0)) 2 30:=by
  refine own_bodyA (ef:=fun m=>mkF m 0 #[.val (.ref t),.val (.int (1:Int32)),.unset,.unset,.unset,.unset,.unset,.unset,.unset] []) (plainFor_of_name own_pn7) ?_
  intro p e s m below meth c T0 hx hZ hby hml hown hnm hret hlk X0 e0
  have N0:=Fr.nil Z.heap.size
  have z0 : Z.heap.size≤h0.size:=O0.2.1
  have Kr:=Keep.refl h0 []
  show gH (T0.setTop (mkF m 0 #[vr t,vi 1,.unset,.unset,.unset,.unset,.unset,.unset,.unset] [])) ..
  have ltt:=oL Vt.lt
  refine oS (fun _=>XS.iconst X0.here hx rfl (dE hby D30 164 rfl)) ?_
  refine oS (fun _=>XS.istoreN X0.here hx rfl (dE hby D30 165 rfl) rfl (l':=#[vr t,vi 1,vi 0,.unset,.unset,.unset,.unset,.unset,.unset]) rfl) ?_
  refine oS (fun _=>XS.iconst X0.here hx rfl (dE hby D30 166 rfl)) ?_
  refine oS (fun _=>XS.istoreN X0.here hx rfl (dE hby D30 167 rfl) rfl (l':=#[vr t,vi 1,vi 0,vi 0,.unset,.unset,.unset,.unset,.unset]) rfl) ?_
  refine oS (fun _=>XS.aloadN X0.here hx rfl (dE hby D30 168 rfl) rfl rfl) ?_
  show gH (T0.setTop (mkF m 5 #[vr t,vi 1,vi 0,vi 0,.unset,.unset,.unset,.unset,.unset] [(.ref t)])) ..
  obtain ⟨cl1,Ar1,qk1,Sz1,Mz1,Hz1,Uz1⟩:=id Vt
  refine oS (X0.arraylength hx (by rw [e0]; exact Ar1.1) (State.isArrayOf_alike hZ.alike Ar1.2.1) (g:=(mkF m 5 #[vr t,vi 1,vi 0,vi 0,.unset,.unset,.unset,.unset,.unset] [(.ref t)])) rfl rfl (dE hby D30 169 rfl)) ?_
  rw [len_of Sz1 Mz1]
  show gH (T0.setTop (mkF m 6 #[vr t,vi 1,vi 0,vi 0,.unset,.unset,.unset,.unset,.unset] [(.int (.ofNat (2 * cs.length)))])) ..
  refine oS (fun _=>XS.iconst X0.here hx rfl (dE hby D30 170 rfl)) ?_
  refine oS (fun _=>XS.ishr X0.here hx rfl (dE hby D30 171 rfl) rfl) ?_
  show gH (T0.setTop (mkF m 8 #[vr t,vi 1,vi 0,vi 0,.unset,.unset,.unset,.unset,.unset] [(.int ((Int32.ofNat (2 * cs.length))>>>((1:Int32)&&&31)))])) ..
  rw [own_shr1 (by omega)]
  show gH (T0.setTop (mkF m 8 #[vr t,vi 1,vi 0,vi 0,.unset,.unset,.unset,.unset,.unset] [(.int (.ofNat cs.length))])) ..
  refine oS (fun _=>XS.istore X0.here hx rfl (dE hby D30 172 rfl) rfl (l':=#[vr t,vi 1,vi 0,vi 0,vi (.ofNat cs.length),.unset,.unset,.unset,.unset]) rfl) ?_
  refine oS (fun _=>XS.iload X0.here hx rfl (dE hby D30 173 rfl) rfl) ?_
  refine oS (fun _=>XS.iconst X0.here hx rfl (dE hby D30 174 rfl)) ?_
  refine oS (fun _=>XS.imul X0.here hx rfl (dE hby D30 175 rfl) rfl) ?_
  show gH (T0.setTop (mkF m 14 #[vr t,vi 1,vi 0,vi 0,vi (.ofNat cs.length),.unset,.unset,.unset,.unset] [(.int ((Int32.ofNat cs.length) * (3:Int32)))])) ..
  rw [(show Int32.ofNat cs.length * (3:Int32) = Int32.ofNat (3 * cs.length) by rw [Nat.mul_comm]; exact (Int32.ofNat_mul cs.length 3).symm)]
  obtain ⟨T2,h2,k2,X2,e2,E2,A2,st2⟩:=newP X0 hx hZ (oW hw 3 rfl) e0 (g:=(mkF m 14 #[vr t,vi 1,vi 0,vi 0,vi (.ofNat cs.length),.unset,.unset,.unset,.unset] [(.int (.ofNat (3 * cs.length)))])) rfl (dE hby D30 176 rfl) rfl (oN (by omega)) (cap:=18) (by rw [oC (by omega)]; omega) (by decide) (by decide) (by decide)
  obtain ⟨b2,g2⟩ : ∃ z,z = h0.size:=⟨_,rfl⟩
  rw [← g2] at A2 st2
  refine oS st2 ?_
  have z3:=E2.1
  have O4:=Old.ext O0 E2
  have K5:=Kr.ext E2
  have V2 : Arv Z h2 b2 k2 .byte (Int32.ofNat (3 * cs.length)) [] (.int 0):=Arv.new A2 (oN (by omega))
  have lt2:=oL A2.lt
  show gH (T2.setTop (mkF m 16 #[vr t,vi 1,vi 0,vi 0,vi (.ofNat cs.length),.unset,.unset,.unset,.unset] [(.ref b2)])) ..
  refine oS (fun _=>XS.astore X2.here hx rfl (dE hby D30 177 rfl) rfl rfl (l':=#[vr t,vi 1,vi 0,vi 0,vi (.ofNat cs.length),vr b2,.unset,.unset,.unset]) rfl) ?_
  show gH (T2.setTop (mkF m 18 #[vr t,vi 1,vi 0,vi 0,vi (.ofNat cs.length),vr b2,.unset,.unset,.unset] [])) ..
  have q6:=(Vt.ext E2)
  refine own_e1_loop t b2 kt k2 cs.length cs (own_u8 cs) hx hZ hw hby hml hown US rfl (by omega) hr (show @Ne Nat t b2 by omega) (by omega) (by decide) (by decide) ?_ cs [] [] 0 0 .unset .unset .unset _ _ _ X2 e2 N0 O4 (Keep.refl _ _) One.u One.u One.u rfl rfl rfl hwf rfl (by omega) q6 V2
  intro rest ds out o i s6 s7 s8 T' h' locs' X e1 N O K h6 h7 h8 hi ho hcs_ hwf' hfull hroom Vt' Vd'
  refine own_e2_loop t b2 kt k2 cs.length cs (own_u8 cs) hx hZ hw hby hml hown US rfl (by omega) hr (show @Ne Nat t b2 by omega) (by omega) (by decide) (by decide) ?_ rest.length rest (Nat.le_refl _) ds out o i s6 s7 s8 T' h' locs' X e1 N O (Keep.refl _ _) h6 h7 h8 hi ho hcs_ hwf' hfull hroom Vt' Vd'
  intro ds2 out2 o2 i2 t6 t7 t8 T2 h2 L2 X2 e2 N2 O2 K2 g6 g7 g8 gi go gcs gwf gfull groom Wt Wd
  have gfull' : out2 = own_u8 cs:=by rw [← gfull]; exact (List.append_nil _).symm
  subst gfull'
  have z7:=K.1
  have O8:=Old.keep O4 K (allS (by omega) all0)
  have K9:=K5.trans K (allS (Or.inr (by omega)) all0)
  have z10:=K2.1
  have O11:=Old.keep O8 K2 (allS (by omega) all0)
  have K12:=K9.trans K2 (allS (Or.inr (by omega)) all0)
  show gH (T2.setTop (mkF m 355 #[vr t,vi 1,vi (.ofNat o2),vi (.ofNat i2),vi (.ofNat cs.length),vr b2,t6,t7,t8] [])) ..
  refine oS (fun _=>XS.iloadN X2.here hx rfl (dE hby D30 178 rfl) rfl) ?_
  refine oS (fun _=>XS.aload X2.here hx rfl (dE hby D30 179 rfl) rfl rfl) ?_
  show gH (T2.setTop (mkF m 358 #[vr t,vi 1,vi (.ofNat o2),vi (.ofNat i2),vi (.ofNat cs.length),vr b2,t6,t7,t8] [(.ref b2),(.int (.ofNat o2))])) ..
  obtain ⟨cl13,Ar13,qk13,Sz13,Mz13,Hz13,Uz13⟩:=id Wd
  refine oS (X2.arraylength hx (by rw [e2]; exact Ar13.1) (State.isArrayOf_alike hZ.alike Ar13.2.1) (g:=(mkF m 358 #[vr t,vi 1,vi (.ofNat o2),vi (.ofNat i2),vi (.ofNat cs.length),vr b2,t6,t7,t8] [(.ref b2),(.int (.ofNat o2))])) rfl rfl (dE hby D30 180 rfl)) ?_
  rw [len_of Sz13 Mz13]
  show gH (T2.setTop (mkF m 359 #[vr t,vi 1,vi (.ofNat o2),vi (.ofNat i2),vi (.ofNat cs.length),vr b2,t6,t7,t8] [(.int (.ofNat (3 * cs.length))),(.int (.ofNat o2))])) ..
  refine oS (fun _=>XS.icmpYes X2.here hx rfl (pc0:=359) (pc':=365) rfl (dE hby D30 181 rfl) rfl (feq (own_ne (by omega) (by omega) (by omega))).2 (by decide) (by decide)) ?_
  refine oS (fun _=>XS.aload X2.here hx rfl (dE hby D30 182 rfl) rfl rfl) ?_
  refine oS (fun _=>XS.iloadN X2.here hx rfl (dE hby D30 183 rfl) rfl) ?_
  show gH (T2.setTop (mkF m 368 #[vr t,vi 1,vi (.ofNat o2),vi (.ofNat i2),vi (.ofNat cs.length),vr b2,t6,t7,t8] [(.int (.ofNat o2)),(.ref b2)])) ..
  subst go
  obtain ⟨_,T14,L14,X14,⟨b,kb,rfl,N14q,K14_,gb,-,Vb⟩,st14⟩:=own_cS X2 hx hZ hown (own_cof l Z a0 hw [] b2 (3 * cs.length) (own_u8 cs).length (own_u8 cs) k2 h2 O11 (by omega) (by omega) (by omega) rfl Wd) (oW hw 336 rfl) (oW hw 337 rfl) (oW hw 80 rfl) (oW hw 338 rfl) (W:=0) (g:=(mkF m 368 #[vr t,vi 1,vi (.ofNat (own_u8 cs).length),vi (.ofNat i2),vi (.ofNat cs.length),vr b2,t6,t7,t8] [(.int (.ofNat (own_u8 cs).length)),(.ref b2)])) rfl (by rw [hml]; rfl) (argsL:=[(.ref b2),(.int (.ofNat (own_u8 cs).length))]) (rest:=[]) (lenOf own_pd28 rfl) rfl (dE hby D30 184 rfl) rfl e2 (by decide) (by decide)
  have N14:=Fr.app N2 N14q
  refine oS st14 ?_
  have z15:=K14_.1
  have O16:=Old.keep O11 K14_ all0
  have K17:=K12.trans K14_ all0
  show gH (T14.setTop (mkF m 371 #[vr t,vi 1,vi (.ofNat (own_u8 cs).length),vi (.ofNat i2),vi (.ofNat cs.length),vr b2,t6,t7,t8] [(.ref b)])) ..
  exact own_retA X14 hx hret rfl rfl hlk (dE hby D30 185 rfl) ⟨b,kb,rfl,N14,K17,by omega,Vb⟩ (by decide) (by decide)
def L31 : List (Nat × Instr × Nat):=[(7,.iload 4,2),(9,.iload_n 3,1),(10,.if_icmp .ge 21,3),(13,.aload_n 0,1),(14,.iload 4,2),(16,.baload,1),(17,.ifCond .ge 8,3),(20,.iload 4,2),(22,.iload_n 1,1),(23,.isub,1),(24,.ireturn,1),(25,.iinc 4 1,3),(28,.goto (-21),3),(31,.iload_n 2,1),(32,.ireturn,1),(0,.iload_n 1,1),(1,.iload_n 2,1),(2,.iadd,1),(3,.istore_n 3,1),(4,.iload_n 1,1),(5,.istore 4,2)]
theorem D31 : ∀ q∈L31,decode jdk_123_method_3_code q.1 = .ok q.2:=by decide +kernel
theorem own_cp_turn {p:Program} {l:Launch} {e:Env} {s:State} {m:MethodId} {args:Array Value} {below:List Frame} {meth:Method} {c:Code} {Z:State} {a0:Array Value} {locs:List Loc} {cells slots : Nat} {T0:State} {h0:Heap}  (t:Addr) (kt:ClassId) (cs ds r : List Int32) (ch:Int32) (i:Nat) (hx:p.tables.exec = Jvm.exec) (hZ:Z.Warmed39 s.vm) (hw:∀ d∈tables_1,d.before a0 Z = true) (hby:c.code = jdk_123_method_3_code) (hml:c.maxLocals = 5) (hown:s.vm.findClass "java/lang/StringCoding" = some m.cls) (X0:Stand p l e (⟨0,0,0,0⟩ : Room) s m args below meth c T0 locs cells slots) (e0:T0.heap = h0) (N0:Fr Z.heap.size locs) (O0:Old Z Z.heap.size h0) (hret:meth.sig.returnType = some .int) (hlk:meth.locks = false) (hcs:cells≤0) (hss:slots≤0) (hn:cs.length≤100) (Vt:Arv Z h0 t kt .byte (Int32.ofNat cs.length) (own_L1 cs) (.int 0)) (hcs_:cs = ds++ch :: r) (hi:ds.length = i)
    (k1_:¬ own_lo ch < (0:Int32)→∀ (T':State) (locs':List Loc),Stand p l e (⟨0,0,0,0⟩ : Room) s m args below meth c T' locs' cells slots→T'.heap = h0→Fr Z.heap.size locs'→own_G p.tables e below (own_F s below (fun v h L=>∃ r : Nat,v = some (.int (.ofNat r))∧Fr Z.heap.size L∧h = h0∧((r = cs.length∧∀ c∈cs,¬ own_lo c < (0:Int32)) ∨ (r < cs.length∧∃ c∈cs,own_lo c < (0:Int32)))) 0 0) (T'.setTop (mkF m 7 #[vr t,vi 0,vi (.ofNat cs.length),vi (.ofNat cs.length),vi (.ofNat (i+1))] []))) :
    own_G p.tables e below (own_F s below (fun v h L=>∃ r : Nat,v = some (.int (.ofNat r))∧Fr Z.heap.size L∧h = h0∧((r = cs.length∧∀ c∈cs,¬ own_lo c < (0:Int32)) ∨ (r < cs.length∧∃ c∈cs,own_lo c < (0:Int32)))) 0 0) (T0.setTop (mkF m 7 #[vr t,vi 0,vi (.ofNat cs.length),vi (.ofNat cs.length),vi (.ofNat i)] [])):=by
  have z0 : Z.heap.size≤h0.size:=O0.2.1
  show gH (T0.setTop (mkF m 7 #[vr t,vi 0,vi (.ofNat cs.length),vi (.ofNat cs.length),vi (.ofNat i)] [])) ..
  have hin : i < cs.length:=by rw [hcs_,← hi]; simp
  refine oS (fun _=>XS.iload X0.here hx rfl (dE hby D31 0 rfl) rfl) ?_
  refine oS (fun _=>XS.iloadN X0.here hx rfl (dE hby D31 1 rfl) rfl) ?_
  refine oS (fun _=>XS.icmpNo X0.here hx rfl (dE hby D31 2 rfl) rfl (tlt (own_lt hin (by omega))).2.1) ?_
  refine oS (fun _=>XS.aloadN X0.here hx rfl (dE hby D31 3 rfl) rfl rfl) ?_
  refine oS (fun _=>XS.iload X0.here hx rfl (dE hby D31 4 rfl) rfl) ?_
  show gH (T0.setTop (mkF m 16 #[vr t,vi 0,vi (.ofNat cs.length),vi (.ofNat cs.length),vi (.ofNat i)] [(.int (.ofNat i)),(.ref t)])) ..
  obtain ⟨cl1,Ar1,qk1,Sz1,Mz1,Hz1,Uz1⟩:=id Vt
  refine oS (X0.baloadBytes hx (j:=(Int32.ofNat i)) (v:=(.int (own_lo ch))) (by rw [e0]; exact Ar1.1) (State.isArrayOf_alike hZ.alike Ar1.2.1) Ar1.2.2 (oI Sz1 hin (by omega)) (oR Sz1 Hz1 hin (by omega) (by rw [hcs_,← hi]; exact own_L1_at _ _ _ _)) (g:=(mkF m 16 #[vr t,vi 0,vi (.ofNat cs.length),vi (.ofNat cs.length),vi (.ofNat i)] [(.int (.ofNat i)),(.ref t)])) rfl rfl (dE hby D31 5 rfl)) ?_
  show gH (T0.setTop (mkF m 17 #[vr t,vi 0,vi (.ofNat cs.length),vi (.ofNat cs.length),vi (.ofNat i)] [(.int (own_lo ch))])) ..
  by_cases hneg : (own_lo ch) < (0:Int32)
  · skip
    refine oS (fun _=>XS.ifNo X0.here hx rfl (dE hby D31 6 rfl) rfl ((if0 _ _).trans (tlt hneg).2.1)) ?_
    refine oS (fun _=>XS.iload X0.here hx rfl (dE hby D31 7 rfl) rfl) ?_
    refine oS (fun _=>XS.iloadN X0.here hx rfl (dE hby D31 8 rfl) rfl) ?_
    refine oS (fun _=>XS.isub X0.here hx rfl (dE hby D31 9 rfl) rfl) ?_
    show gH (T0.setTop (mkF m 24 #[vr t,vi 0,vi (.ofNat cs.length),vi (.ofNat cs.length),vi (.ofNat i)] [(.int ((Int32.ofNat i) - (0:Int32)))])) ..
    rw [own_sub0]
    show gH (T0.setTop (mkF m 24 #[vr t,vi 0,vi (.ofNat cs.length),vi (.ofNat cs.length),vi (.ofNat i)] [(.int (.ofNat i))])) ..
    exact own_retI X0 hx hret hlk (dE hby D31 10 rfl) (by rw [e0]; exact ⟨i,rfl,N0,rfl,Or.inr ⟨hin,ch,by rw [hcs_]; simp,hneg⟩⟩) hcs hss
  · show gH (T0.setTop (mkF m 17 #[vr t,vi 0,vi (.ofNat cs.length),vi (.ofNat cs.length),vi (.ofNat i)] [(.int (own_lo ch))])) ..
    refine oS (fun _=>XS.ifYes X0.here hx rfl (pc0:=17) (pc':=25) rfl (dE hby D31 6 rfl) rfl ((if0 _ _).trans (flt hneg).2.1) (by decide) (by decide)) ?_
    refine oS (fun _=>XS.iinc X0.here hx rfl (dE hby D31 11 rfl) rfl (l':=#[vr t,vi 0,vi (.ofNat cs.length),vi (.ofNat cs.length),vi ((Int32.ofNat i)+(1:Int32))]) rfl) ?_
    refine oS (fun _=>XS.goto X0.here hx rfl (pc0:=28) (pc':=7) rfl (dE hby D31 12 rfl) (by decide) (by decide)) ?_
    show gH (T0.setTop (mkF m 7 #[vr t,vi 0,vi (.ofNat cs.length),vi (.ofNat cs.length),vi ((Int32.ofNat i)+(1:Int32))] [])) ..
    rw [oO i]
    show gH (T0.setTop (mkF m 7 #[vr t,vi 0,vi (.ofNat cs.length),vi (.ofNat cs.length),vi (.ofNat (i+1))] [])) ..
    exact k1_ hneg _ _ X0 e0 N0
theorem own_cp_exit {p:Program} {l:Launch} {e:Env} {s:State} {m:MethodId} {args:Array Value} {below:List Frame} {meth:Method} {c:Code} {Z:State} {a0:Array Value} {locs:List Loc} {cells slots : Nat} {T0:State} {h0:Heap}  (t:Addr) (kt:ClassId) (cs:List Int32) (hx:p.tables.exec = Jvm.exec) (hZ:Z.Warmed39 s.vm) (hw:∀ d∈tables_1,d.before a0 Z = true) (hby:c.code = jdk_123_method_3_code) (hml:c.maxLocals = 5) (hown:s.vm.findClass "java/lang/StringCoding" = some m.cls) (X0:Stand p l e (⟨0,0,0,0⟩ : Room) s m args below meth c T0 locs cells slots) (e0:T0.heap = h0) (N0:Fr Z.heap.size locs) (O0:Old Z Z.heap.size h0) (hret:meth.sig.returnType = some .int) (hlk:meth.locks = false) (hcs:cells≤0) (hss:slots≤0) (hn:cs.length≤100) (Vt:Arv Z h0 t kt .byte (Int32.ofNat cs.length) (own_L1 cs) (.int 0)) (hall:∀ c∈cs,¬ own_lo c < (0:Int32))
     :
    own_G p.tables e below (own_F s below (fun v h L=>∃ r : Nat,v = some (.int (.ofNat r))∧Fr Z.heap.size L∧h = h0∧((r = cs.length∧∀ c∈cs,¬ own_lo c < (0:Int32)) ∨ (r < cs.length∧∃ c∈cs,own_lo c < (0:Int32)))) 0 0) (T0.setTop (mkF m 7 #[vr t,vi 0,vi (.ofNat cs.length),vi (.ofNat cs.length),vi (.ofNat cs.length)] [])):=by
  show gH (T0.setTop (mkF m 7 #[vr t,vi 0,vi (.ofNat cs.length),vi (.ofNat cs.length),vi (.ofNat cs.length)] [])) ..
  refine oS (fun _=>XS.iload X0.here hx rfl (dE hby D31 0 rfl) rfl) ?_
  refine oS (fun _=>XS.iloadN X0.here hx rfl (dE hby D31 1 rfl) rfl) ?_
  refine oS (fun _=>XS.icmpYes X0.here hx rfl (pc0:=10) (pc':=31) rfl (dE hby D31 2 rfl) rfl (flt Int32.lt_irrefl).2.1 (by decide) (by decide)) ?_
  refine oS (fun _=>XS.iloadN X0.here hx rfl (dE hby D31 13 rfl) rfl) ?_
  show gH (T0.setTop (mkF m 32 #[vr t,vi 0,vi (.ofNat cs.length),vi (.ofNat cs.length),vi (.ofNat cs.length)] [(.int (.ofNat cs.length))])) ..
  exact own_retI X0 hx hret hlk (dE hby D31 14 rfl) (by rw [e0]; exact ⟨cs.length,rfl,N0,rfl,Or.inl ⟨rfl,hall⟩⟩) hcs hss
theorem own_cp_loop {p:Program} {l:Launch} {e:Env} {s:State} {m:MethodId} {args:Array Value} {below:List Frame} {meth:Method} {c:Code} {Z:State} {a0:Array Value} {cells slots : Nat} {h0:Heap} (t:Addr) (kt:ClassId) (cs:List Int32) (hx:p.tables.exec = Jvm.exec) (hZ:Z.Warmed39 s.vm) (hw:∀ d∈tables_1,d.before a0 Z = true) (hby:c.code = jdk_123_method_3_code) (hml:c.maxLocals = 5) (hown:s.vm.findClass "java/lang/StringCoding" = some m.cls) (O0:Old Z Z.heap.size h0) (hret:meth.sig.returnType = some .int) (hlk:meth.locks = false) (hcs:cells≤0) (hss:slots≤0) (hn:cs.length≤100) (Vt:Arv Z h0 t kt .byte (Int32.ofNat cs.length) (own_L1 cs) (.int 0)) :
    ∀ (rest ds : List Int32) (i:Nat) (T':State) (locs':List Loc),cs = ds++rest→ds.length = i→(∀ c∈ds,¬ own_lo c < (0:Int32))→Stand p l e (⟨0,0,0,0⟩ : Room) s m args below meth c T' locs' cells slots→T'.heap = h0→Fr Z.heap.size locs'→own_G p.tables e below (own_F s below (fun v h L=>∃ r : Nat,v = some (.int (.ofNat r))∧Fr Z.heap.size L∧h = h0∧((r = cs.length∧∀ c∈cs,¬ own_lo c < (0:Int32)) ∨ (r < cs.length∧∃ c∈cs,own_lo c < (0:Int32)))) 0 0) (T'.setTop (mkF m 7 #[vr t,vi 0,vi (.ofNat cs.length),vi (.ofNat cs.length),vi (.ofNat (i))] [])):=by
  intro rest
  induction rest with
  | nil =>
    intro ds i T' locs' h1 h2 h3 X e1 N
    have hin : i = cs.length:=by rw [h1,← h2]; simp
    have hds : cs = ds:=by rw [h1]; simp
    subst hin
    exact own_cp_exit t kt cs hx hZ hw hby hml hown X e1 N O0 hret hlk hcs hss hn Vt (by rw [hds]; exact h3)
  | cons ch r ih =>
    intro ds i T' locs' h1 h2 h3 X e1 N
    refine own_cp_turn t kt cs ds r ch i hx hZ hw hby hml hown X e1 N O0 hret hlk hcs hss hn Vt h1 h2 ?_
    intro hnn T2 L2 X2 e2 N2
    refine ih (ds++[ch]) (i+1) T2 L2 (by rw [h1]; simp) (by rw [List.length_append,h2]; rfl) ?_ X2 e2 N2
    intro c hc
    rcases List.mem_append.mp hc with q | q
    · exact h3 c q
    · rw [List.mem_singleton.mp q]; exact hnn
theorem own_pn29 : plainName "java/lang/StringCoding" = true:=by first | (simp [plainName,overriddenIn]; done) | decide +kernel
theorem own_cpos (l:Launch) (Z:State) (a0:Array Value) (hw:∀ d∈tables_1,d.before a0 Z = true) (ws:List Jvm.Cond) (t:Addr) (kt:ClassId) (cs:List Int32) (h0:Heap) (O0:Old Z Z.heap.size h0) (hn:cs.length≤100) (Vt:Arv Z h0 t kt .byte (Int32.ofNat cs.length) (own_L1 cs) (.int 0)) :
    own_Met l Z (⟨"java/lang/StringCoding","countPositives","([BII)I"⟩ : MethodName) jdk_123_method_3_code 5 (some .int) ws (⟨0,0,0,0⟩ : Room) #[(.ref t),(.int 0),(.int (.ofNat cs.length))] h0 (fun v h L=>∃ r : Nat,v = some (.int (.ofNat r))∧Fr Z.heap.size L∧h = h0∧((r = cs.length∧∀ c∈cs,¬ own_lo c < (0:Int32)) ∨ (r < cs.length∧∃ c∈cs,own_lo c < (0:Int32)))) 0 0:=by
  refine own_bodyA (ef:=fun m=>mkF m 0 #[.val (.ref t),.val (.int (0:Int32)),.val (.int (Int32.ofNat cs.length)),.unset,.unset] []) (plainFor_of_name own_pn29) ?_
  intro p e s m below meth c T0 hx hZ hby hml hown hnm hret hlk X0 e0
  have N0:=Fr.nil Z.heap.size
  show gH (T0.setTop (mkF m 0 #[vr t,vi 0,vi (.ofNat cs.length),.unset,.unset] [])) ..
  refine oS (fun _=>XS.iloadN X0.here hx rfl (dE hby D31 15 rfl) rfl) ?_
  refine oS (fun _=>XS.iloadN X0.here hx rfl (dE hby D31 16 rfl) rfl) ?_
  refine oS (fun _=>XS.iadd X0.here hx rfl (dE hby D31 17 rfl) rfl) ?_
  show gH (T0.setTop (mkF m 3 #[vr t,vi 0,vi (.ofNat cs.length),.unset,.unset] [(.int ((0:Int32)+(Int32.ofNat cs.length)))])) ..
  rw [(show (0:Int32)+Int32.ofNat cs.length = Int32.ofNat cs.length by simp)]
  show gH (T0.setTop (mkF m 3 #[vr t,vi 0,vi (.ofNat cs.length),.unset,.unset] [(.int (.ofNat cs.length))])) ..
  refine oS (fun _=>XS.istoreN X0.here hx rfl (dE hby D31 18 rfl) rfl (l':=#[vr t,vi 0,vi (.ofNat cs.length),vi (.ofNat cs.length),.unset]) rfl) ?_
  refine oS (fun _=>XS.iloadN X0.here hx rfl (dE hby D31 19 rfl) rfl) ?_
  refine oS (fun _=>XS.istore X0.here hx rfl (dE hby D31 20 rfl) rfl (l':=#[vr t,vi 0,vi (.ofNat cs.length),vi (.ofNat cs.length),vi 0]) rfl) ?_
  show gH (T0.setTop (mkF m 7 #[vr t,vi 0,vi (.ofNat cs.length),vi (.ofNat cs.length),vi 0] [])) ..
  exact own_cp_loop t kt cs hx hZ hw hby hml hown O0 hret hlk (Nat.le_refl _) (Nat.le_refl _) hn Vt cs [] 0 _ _ rfl rfl (fun _ q=>nomatch q) X0 e0 N0
def L32 : List (Nat × Instr × Nat):=[(0,.aload_n 0,1),(1,.iload_n 1,1),(2,.iload_n 2,1),(3,.invokestatic 7,3),(6,.iload_n 2,1),(7,.if_icmp .eq 7,3),(14,.iconst 0,1),(15,.ireturn,1),(10,.iconst 1,1),(11,.goto 4,3)]
theorem D32 : ∀ q∈L32,decode jdk_123_method_2_code q.1 = .ok q.2:=by decide +kernel
theorem own_pd30 : parseMethodDescriptor "([BII)I" = some ⟨[(.array .byte),.int,.int],some .int⟩:=by decide +kernel
theorem own_hneg (l:Launch) (Z:State) (a0:Array Value) (hw:∀ d∈tables_1,d.before a0 Z = true) (ws:List Jvm.Cond) (t:Addr) (kt:ClassId) (cs:List Int32) (h0:Heap) (O0:Old Z Z.heap.size h0) (hn:cs.length≤100) (Vt:Arv Z h0 t kt .byte (Int32.ofNat cs.length) (own_L1 cs) (.int 0)) :
    own_Met l Z (⟨"java/lang/StringCoding","hasNegatives","([BII)Z"⟩ : MethodName) jdk_123_method_2_code 3 (some .boolean) ws (⟨1,0,0,20⟩ : Room) #[(.ref t),(.int 0),(.int (.ofNat cs.length))] h0 (fun v h L=>∃ r : Int32,v = some (.int r)∧Fr Z.heap.size L∧h = h0∧((r = 0∧∀ c∈cs,¬ own_lo c < (0:Int32)) ∨ (r = 1∧∃ c∈cs,own_lo c < (0:Int32)))) 0 0:=by
  refine own_bodyA (ef:=fun m=>mkF m 0 #[.val (.ref t),.val (.int (0:Int32)),.val (.int (Int32.ofNat cs.length))] []) (plainFor_of_name own_pn29) ?_
  intro p e s m below meth c T0 hx hZ hby hml hown hnm hret hlk X0 e0
  have N0:=Fr.nil Z.heap.size
  have z0 : Z.heap.size≤h0.size:=O0.2.1
  show gH (T0.setTop (mkF m 0 #[vr t,vi 0,vi (.ofNat cs.length)] [])) ..
  refine oS (fun _=>XS.aloadN X0.here hx rfl (dE hby D32 0 rfl) rfl rfl) ?_
  refine oS (fun _=>XS.iloadN X0.here hx rfl (dE hby D32 1 rfl) rfl) ?_
  refine oS (fun _=>XS.iloadN X0.here hx rfl (dE hby D32 2 rfl) rfl) ?_
  obtain ⟨_,T1,L1,X1,⟨r1,rfl,N1q,eh1,c1⟩,st1⟩:=own_cS X0 hx hZ hown (own_cpos l Z a0 hw [] t kt cs h0 O0 hn Vt) (oW hw 123 rfl) (oW hw 124 rfl) (oW hw 121 rfl) (oW hw 125 rfl) (W:=0) (g:=(mkF m 3 #[vr t,vi 0,vi (.ofNat cs.length)] [(.int (.ofNat cs.length)),(.int 0),(.ref t)])) rfl (by rw [hml]; rfl) (argsL:=[(.ref t),(.int 0),(.int (.ofNat cs.length))]) (rest:=[]) (lenOf own_pd30 rfl) rfl (dE hby D32 3 rfl) rfl e0 (by decide) (by decide)
  have N1:=Fr.app N0 N1q
  refine oS st1 ?_
  show gH (T1.setTop (mkF m 6 #[vr t,vi 0,vi (.ofNat cs.length)] [(.int (.ofNat r1))])) ..
  refine oS (fun _=>XS.iloadN X1.here hx rfl (dE hby D32 4 rfl) rfl) ?_
  show gH (T1.setTop (mkF m 7 #[vr t,vi 0,vi (.ofNat cs.length)] [(.int (.ofNat cs.length)),(.int (.ofNat r1))])) ..
  rcases c1 with ⟨rfl,hall⟩ | ⟨hlt,hex⟩
  · skip
    show gH (T1.setTop (mkF m 7 #[vr t,vi 0,vi (.ofNat cs.length)] [(.int (.ofNat cs.length)),(.int (.ofNat cs.length))])) ..
    refine oS (fun _=>XS.icmpYes X1.here hx rfl (pc0:=7) (pc':=14) rfl (dE hby D32 5 rfl) rfl (teq rfl).1 (by decide) (by decide)) ?_
    refine oS (fun _=>XS.iconst X1.here hx rfl (dE hby D32 6 rfl)) ?_
    show gH (T1.setTop (mkF m 15 #[vr t,vi 0,vi (.ofNat cs.length)] [(.int 0)])) ..
    exact own_retN X1 hx hret hlk (by simp) (dE hby D32 7 rfl) (by rw [eh1]; exact ⟨0,rfl,N1,rfl,Or.inl ⟨rfl,hall⟩⟩) (by decide) (by decide)
  · skip
    refine oS (fun _=>XS.icmpNo X1.here hx rfl (dE hby D32 5 rfl) rfl (feq (own_ne (by omega) (by omega) (by omega))).1) ?_
    refine oS (fun _=>XS.iconst X1.here hx rfl (dE hby D32 8 rfl)) ?_
    refine oS (fun _=>XS.goto X1.here hx rfl (pc0:=11) (pc':=15) rfl (dE hby D32 9 rfl) (by decide) (by decide)) ?_
    show gH (T1.setTop (mkF m 15 #[vr t,vi 0,vi (.ofNat cs.length)] [(.int 1)])) ..
    exact own_retN X1 hx hret hlk (by simp) (dE hby D32 7 rfl) (by rw [eh1]; exact ⟨1,rfl,N1,rfl,Or.inr ⟨rfl,hex⟩⟩) (by decide) (by decide)
def L33 : List (Nat × Instr × Nat):=[(49,.iload 7,2),(51,.iload 6,2),(53,.if_icmp .ge 71,3),(56,.aload 5,2),(58,.iload 7,2),(60,.baload,1),(61,.istore 8,2),(63,.iload 8,2),(65,.ifCond .ge 44,3),(68,.aload 4,2),(70,.iload_n 3,1),(71,.iinc 3 1,3),(74,.sipush 192,3),(77,.iload 8,2),(79,.sipush 255,3),(82,.iand,1),(83,.bipush 6,2),(85,.ishr,1),(86,.ior,1),(87,.i2b,1),(88,.bastore,1),(89,.aload 4,2),(91,.iload_n 3,1),(92,.iinc 3 1,3),(95,.sipush 128,3),(98,.iload 8,2),(100,.bipush 63,2),(102,.iand,1),(103,.ior,1),(104,.i2b,1),(105,.bastore,1),(106,.goto 12,3),(118,.iinc 7 1,3),(121,.goto (-72),3),(109,.aload 4,2),(111,.iload_n 3,1),(112,.iinc 3 1,3),(115,.iload 8,2),(117,.bastore,1),(0,.iload_n 0,1),(1,.iconst 1,1),(2,.if_icmp .ne 9,3),(11,.aload_n 1,1),(12,.iconst 0,1),(13,.aload_n 1,1),(14,.arraylength,1),(15,.invokestatic 128,3),(18,.ifCond .ne 11,3),(21,.aload_n 1,1),(22,.invokevirtual 279,3),(25,.checkcast 280,3),(28,.areturn,1),(29,.iconst 0,1),(30,.istore_n 3,1),(31,.aload_n 1,1),(32,.arraylength,1),(33,.invokestatic 60,3),(36,.astore 4,2),(38,.aload_n 1,1),(39,.astore 5,2),(41,.aload 5,2),(43,.arraylength,1),(44,.istore 6,2),(46,.iconst 0,1),(47,.istore 7,2),(124,.iload_n 3,1),(125,.aload 4,2),(127,.arraylength,1),(128,.if_icmp .ne 6,3),(134,.aload 4,2),(136,.iload_n 3,1),(137,.invokestatic 102,3),(140,.areturn,1),(5,.aload_n 1,1),(6,.iload_n 2,1),(7,.invokestatic 473,3),(10,.areturn,1)]
theorem D33 : ∀ q∈L33,decode jdk_42_method_46_code q.1 = .ok q.2:=by decide +kernel
theorem own_l_turn {p:Program} {l:Launch} {e:Env} {s:State} {m:MethodId} {args:Array Value} {below:List Frame} {meth:Method} {c:Code} {Z:State} {a0:Array Value} {locs:List Loc} {cells slots : Nat} {T0:State} {h0:Heap} {F:State→Prop} (t d : Addr) (kt kd : ClassId) (cs:List Int32) (full:List Value) (ds r : List Int32) (ch:Int32) (out:List Value) (o i : Nat) (s8:Slot) (hx:p.tables.exec = Jvm.exec) (hZ:Z.Warmed39 s.vm) (hw:∀ d∈tables_1,d.before a0 Z = true) (hby:c.code = jdk_42_method_46_code) (hml:c.maxLocals = 9) (hown:s.vm.findClass "java/lang/String" = some m.cls) (X0:Stand p l e (⟨4,2,44,80⟩ : Room) s m args below meth c T0 locs cells slots) (e0:T0.heap = h0) (N0:Fr Z.heap.size locs) (O0:Old Z Z.heap.size h0) (hn:cs.length≤6) (hr:∀ c∈cs,0≤c.toInt∧¬ (255:Int32) < c) (hne:t ≠ d) (gd:Z.heap.size≤d) (h8:One s8) (hi:ds.length = i) (ho:out.length = o) (hcs_:cs = ds++ch :: r) (hfull:out++own_u8 (ch :: r) = full) (hroom:o+2 * (ch :: r).length≤2 * cs.length) (Vt:Arv Z h0 t kt .byte (Int32.ofNat cs.length) (own_L1 cs) (.int 0)) (Vd:Arv Z h0 d kd .byte (Int32.ofNat (2 * cs.length)) out (.int 0))
    (k1_:∀ (ds:List Int32) (out:List Value) (o i : Nat) (s8:Slot) (T':State) (h':Heap) (locs':List Loc),Stand p l e (⟨4,2,44,80⟩ : Room) s m args below meth c T' locs' cells slots→T'.heap = h'→Fr Z.heap.size locs'→Old Z Z.heap.size h'→Keep h0 h' [d]→One s8→ds.length = i→out.length = o→cs = ds++r→out++own_u8 (r) = full→o+2 * (r).length≤2 * cs.length→Arv Z h' t kt .byte (Int32.ofNat cs.length) (own_L1 cs) (.int 0)→Arv Z h' d kd .byte (Int32.ofNat (2 * cs.length)) out (.int 0)→own_G p.tables e below F (T'.setTop (mkF m 49 #[vi 0,vr t,vi 1,vi (.ofNat (o)),vr d,vr t,vi (.ofNat cs.length),vi (.ofNat (i)),s8] []))) :
    own_G p.tables e below F (T0.setTop (mkF m 49 #[vi 0,vr t,vi 1,vi (.ofNat (o)),vr d,vr t,vi (.ofNat cs.length),vi (.ofNat (i)),s8] [])):=by
  have z0 : Z.heap.size≤h0.size:=O0.2.1
  have Kr:=Keep.refl h0 [d]
  show gH (T0.setTop (mkF m 49 #[vi 0,vr t,vi 1,vi (.ofNat (o)),vr d,vr t,vi (.ofNat cs.length),vi (.ofNat (i)),s8] [])) ..
  have ltt:=oL Vt.lt
  have ltd:=oL Vd.lt
  have hnN : @Ne Nat t d:=hne
  have hrc:=hr ch (by rw [hcs_]; simp)
  have hin : i < cs.length:=by rw [hcs_,← hi]; simp
  have hroom' : o+2 * r.length+2≤2 * cs.length:=by have q:=hroom; simp only [List.length_cons] at q; omega
  have hns : ¬ own_sur ch:=fun z=>hrc.2 (by have:=z.1; rw [Int32.lt_iff_toInt_lt,show (255:Int32).toInt = 255 from rfl]; omega)
  have hmid : ch < (2048:Int32):=by have z:=hrc.2; rw [Int32.lt_iff_toInt_lt,show (255:Int32).toInt = 255 from rfl] at z; rw [Int32.lt_iff_toInt_lt,show (2048:Int32).toInt = 2048 from rfl]; omega
  refine oS (fun _=>XS.iload X0.here hx rfl (dE hby D33 0 rfl) rfl) ?_
  refine oS (fun _=>XS.iload X0.here hx rfl (dE hby D33 1 rfl) rfl) ?_
  refine oS (fun _=>XS.icmpNo X0.here hx rfl (dE hby D33 2 rfl) rfl (tlt (own_lt hin (by omega))).2.1) ?_
  refine oS (fun _=>XS.aload X0.here hx rfl (dE hby D33 3 rfl) rfl rfl) ?_
  refine oS (fun _=>XS.iload X0.here hx rfl (dE hby D33 4 rfl) rfl) ?_
  show gH (T0.setTop (mkF m 60 #[vi 0,vr t,vi 1,vi (.ofNat (o)),vr d,vr t,vi (.ofNat cs.length),vi (.ofNat (i)),s8] [(.int (.ofNat (i))),(.ref t)])) ..
  obtain ⟨cl1,Ar1,qk1,Sz1,Mz1,Hz1,Uz1⟩:=id Vt
  refine oS (X0.baloadBytes hx (j:=(Int32.ofNat (i))) (v:=(.int (own_lo ch))) (by rw [e0]; exact Ar1.1) (State.isArrayOf_alike hZ.alike Ar1.2.1) Ar1.2.2 (oI Sz1 hin (by omega)) (oR Sz1 Hz1 hin (by omega) (by rw [hcs_,← hi]; exact own_L1_at _ _ _ _)) (g:=(mkF m 60 #[vi 0,vr t,vi 1,vi (.ofNat (o)),vr d,vr t,vi (.ofNat cs.length),vi (.ofNat (i)),s8] [(.int (.ofNat (i))),(.ref t)])) rfl rfl (dE hby D33 5 rfl)) ?_
  show gH (T0.setTop (mkF m 61 #[vi 0,vr t,vi 1,vi (.ofNat (o)),vr d,vr t,vi (.ofNat cs.length),vi (.ofNat (i)),s8] [(.int (own_lo ch))])) ..
  refine oS (fun _=>XS.istoreS X0.here hx rfl (dE hby D33 6 rfl) rfl rfl h8) ?_
  refine oS (fun _=>XS.iload X0.here hx rfl (dE hby D33 7 rfl) rfl) ?_
  show gH (T0.setTop (mkF m 65 #[vi 0,vr t,vi 1,vi (.ofNat (o)),vr d,vr t,vi (.ofNat cs.length),vi (.ofNat (i)),vi (own_lo ch)] [(.int (own_lo ch))])) ..
  by_cases hneg : (own_lo ch) < (0:Int32)
  · skip
    refine oS (fun _=>XS.ifNo X0.here hx rfl (dE hby D33 8 rfl) rfl ((if0 _ _).trans (tlt hneg).2.1)) ?_
    show gH (T0.setTop (mkF m 68 #[vi 0,vr t,vi 1,vi (.ofNat (o)),vr d,vr t,vi (.ofNat cs.length),vi (.ofNat (i)),vi (own_lo ch)] [])) ..
    have hlow:=(own_lo_neg hrc.1 hrc.2).mp hneg
    refine oS (fun _=>XS.aload X0.here hx rfl (dE hby D33 9 rfl) rfl rfl) ?_
    refine oS (fun _=>XS.iloadN X0.here hx rfl (dE hby D33 10 rfl) rfl) ?_
    refine oS (fun _=>XS.iinc X0.here hx rfl (dE hby D33 11 rfl) rfl (l':=#[vi 0,vr t,vi 1,vi ((Int32.ofNat (o))+(1:Int32)),vr d,vr t,vi (.ofNat cs.length),vi (.ofNat (i)),vi (own_lo ch)]) rfl) ?_
    refine oS (fun _=>XS.sipush X0.here hx rfl (dE hby D33 12 rfl)) ?_
    refine oS (fun _=>XS.iload X0.here hx rfl (dE hby D33 13 rfl) rfl) ?_
    refine oS (fun _=>XS.sipush X0.here hx rfl (dE hby D33 14 rfl)) ?_
    refine oS (fun _=>XS.iand X0.here hx rfl (dE hby D33 15 rfl) rfl) ?_
    show gH (T0.setTop (mkF m 83 #[vi 0,vr t,vi 1,vi ((Int32.ofNat (o))+(1:Int32)),vr d,vr t,vi (.ofNat cs.length),vi (.ofNat (i)),vi (own_lo ch)] [(.int ((own_lo ch)&&&(255:Int32))),(.int 192),(.int (.ofNat (o))),(.ref d)])) ..
    rw [own_lo_mask hrc.1 hrc.2]
    show gH (T0.setTop (mkF m 83 #[vi 0,vr t,vi 1,vi ((Int32.ofNat (o))+(1:Int32)),vr d,vr t,vi (.ofNat cs.length),vi (.ofNat (i)),vi (own_lo ch)] [(.int ch),(.int 192),(.int (.ofNat (o))),(.ref d)])) ..
    refine oS (fun _=>XS.bipush X0.here hx rfl (dE hby D33 16 rfl)) ?_
    refine oS (fun _=>XS.ishr X0.here hx rfl (dE hby D33 17 rfl) rfl) ?_
    refine oS (fun _=>XS.ior X0.here hx rfl (dE hby D33 18 rfl) rfl) ?_
    refine oS (fun _=>XS.i2b X0.here hx rfl (dE hby D33 19 rfl) rfl) ?_
    show gH (T0.setTop (mkF m 88 #[vi 0,vr t,vi 1,vi ((Int32.ofNat (o))+(1:Int32)),vr d,vr t,vi (.ofNat cs.length),vi (.ofNat (i)),vi (own_lo ch)] [(.int (((192:Int32)|||(ch>>>((6:Int32)&&&31))).toInt8.toInt32)),(.int (.ofNat (o))),(.ref d)])) ..
    rw [oO (o)]
    have V2p : Arv Z h0 d kd .byte (Int32.ofNat (2 * cs.length)) (out++[(.int 0)]) (.int 0):=Vd.pad (pad_rep out (.int 0) 1)
    obtain ⟨cl3,Ar3,qk3,Sz3,Mz3,Hz3,Uz3⟩:=id V2p
    obtain ⟨T4,h4,X4,e4,W4,st4⟩:=stB X0 hx hZ e0 Ar3 (j:=(Int32.ofNat (o))) (oI (i:=o) (n:=2 * cs.length) Sz3 (by omega) (by omega)) (g:=(mkF m 88 #[vi 0,vr t,vi 1,vi (.ofNat (o+1)),vr d,vr t,vi (.ofNat cs.length),vi (.ofNat (i)),vi (own_lo ch)] [(.int (((192:Int32)|||(ch>>>((6:Int32)&&&31))).toInt8.toInt32)),(.int (.ofNat (o))),(.ref d)])) rfl rfl (dE hby D33 20 rfl)
    refine oS st4 ?_
    have V4:=Arv.set Ar3 qk3 Sz3 Mz3 Hz3 Uz3 (fits_nar_byte _) W4 (out:List Value).length (by rw [oC (by omega)]; first | omega | (simp only [List.length_append,List.length_cons,List.length_nil]; omega)) (by simp)
    have z5:=W4.size
    have O6:=Old.wr O0 W4 (by omega)
    have K7:=Kr.wr W4 (Or.inl (by simp))
    have N4:=Fr.snoc X4 N0 (by omega : Z.heap.size≤d)
    have V4' : Arv Z h4 d kd .byte (Int32.ofNat (2 * cs.length)) (out++[.int (own_lo ((192:Int32)|||(ch>>>((6:Int32)&&&31))))]) (.int 0):=by have q:=V4; rw [own_set] at q; exact q
    show gH (T4.setTop (mkF m 89 #[vi 0,vr t,vi 1,vi (.ofNat (o+1)),vr d,vr t,vi (.ofNat cs.length),vi (.ofNat (i)),vi (own_lo ch)] [])) ..
    refine oS (fun _=>XS.aload X4.here hx rfl (dE hby D33 21 rfl) rfl rfl) ?_
    refine oS (fun _=>XS.iloadN X4.here hx rfl (dE hby D33 22 rfl) rfl) ?_
    refine oS (fun _=>XS.iinc X4.here hx rfl (dE hby D33 23 rfl) rfl (l':=#[vi 0,vr t,vi 1,vi ((Int32.ofNat (o+1))+(1:Int32)),vr d,vr t,vi (.ofNat cs.length),vi (.ofNat (i)),vi (own_lo ch)]) rfl) ?_
    refine oS (fun _=>XS.sipush X4.here hx rfl (dE hby D33 24 rfl)) ?_
    refine oS (fun _=>XS.iload X4.here hx rfl (dE hby D33 25 rfl) rfl) ?_
    refine oS (fun _=>XS.bipush X4.here hx rfl (dE hby D33 26 rfl)) ?_
    refine oS (fun _=>XS.iand X4.here hx rfl (dE hby D33 27 rfl) rfl) ?_
    show gH (T4.setTop (mkF m 103 #[vi 0,vr t,vi 1,vi ((Int32.ofNat (o+1))+(1:Int32)),vr d,vr t,vi (.ofNat cs.length),vi (.ofNat (i)),vi (own_lo ch)] [(.int ((own_lo ch)&&&(63:Int32))),(.int 128),(.int (.ofNat (o+1))),(.ref d)])) ..
    rw [own_lo_63 ch]
    show gH (T4.setTop (mkF m 103 #[vi 0,vr t,vi 1,vi ((Int32.ofNat (o+1))+(1:Int32)),vr d,vr t,vi (.ofNat cs.length),vi (.ofNat (i)),vi (own_lo ch)] [(.int (ch&&&(63:Int32))),(.int 128),(.int (.ofNat (o+1))),(.ref d)])) ..
    refine oS (fun _=>XS.ior X4.here hx rfl (dE hby D33 28 rfl) rfl) ?_
    refine oS (fun _=>XS.i2b X4.here hx rfl (dE hby D33 29 rfl) rfl) ?_
    show gH (T4.setTop (mkF m 105 #[vi 0,vr t,vi 1,vi ((Int32.ofNat (o+1))+(1:Int32)),vr d,vr t,vi (.ofNat cs.length),vi (.ofNat (i)),vi (own_lo ch)] [(.int (((128:Int32)|||(ch&&&(63:Int32))).toInt8.toInt32)),(.int (.ofNat (o+1))),(.ref d)])) ..
    rw [oO (o+1)]
    have V8p : Arv Z h4 d kd .byte (Int32.ofNat (2 * cs.length)) ((out++[.int (own_lo ((192:Int32)|||(ch>>>((6:Int32)&&&31))))])++[(.int 0)]) (.int 0):=V4'.pad (pad_rep (out++[.int (own_lo ((192:Int32)|||(ch>>>((6:Int32)&&&31))))]) (.int 0) 1)
    obtain ⟨cl9,Ar9,qk9,Sz9,Mz9,Hz9,Uz9⟩:=id V8p
    obtain ⟨T10,h10,X10,e10,W10,st10⟩:=stB X4 hx hZ e4 Ar9 (j:=(Int32.ofNat (o+1))) (oI (i:=o+1) (n:=2 * cs.length) Sz9 (by omega) (by omega)) (g:=(mkF m 105 #[vi 0,vr t,vi 1,vi (.ofNat (o+2)),vr d,vr t,vi (.ofNat cs.length),vi (.ofNat (i)),vi (own_lo ch)] [(.int (((128:Int32)|||(ch&&&(63:Int32))).toInt8.toInt32)),(.int (.ofNat (o+1))),(.ref d)])) rfl rfl (dE hby D33 30 rfl)
    refine oS st10 ?_
    have V10:=Arv.set Ar9 qk9 Sz9 Mz9 Hz9 Uz9 (fits_nar_byte _) W10 ((out++[.int (own_lo ((192:Int32)|||(ch>>>((6:Int32)&&&31))))]) : List Value).length (by rw [oC (by omega)]; first | omega | (simp only [List.length_append,List.length_cons,List.length_nil]; omega)) (by simp)
    have z11:=W10.size
    have O12:=Old.wr O6 W10 (by omega)
    have K13:=K7.wr W10 (Or.inl (by simp))
    have N10:=Fr.snoc X10 N4 (by omega : Z.heap.size≤d)
    have V10' : Arv Z h10 d kd .byte (Int32.ofNat (2 * cs.length)) ((out++[.int (own_lo ((192:Int32)|||(ch>>>((6:Int32)&&&31))))])++[.int (own_lo ((128:Int32)|||(ch&&&(63:Int32))))]) (.int 0):=by have q:=V10; rw [own_set] at q; exact q
    show gH (T10.setTop (mkF m 106 #[vi 0,vr t,vi 1,vi (.ofNat (o+2)),vr d,vr t,vi (.ofNat cs.length),vi (.ofNat (i)),vi (own_lo ch)] [])) ..
    refine oS (fun _=>XS.goto X10.here hx rfl (pc0:=106) (pc':=118) rfl (dE hby D33 31 rfl) (by decide) (by decide)) ?_
    refine oS (fun _=>XS.iinc X10.here hx rfl (dE hby D33 32 rfl) rfl (l':=#[vi 0,vr t,vi 1,vi (.ofNat (o+2)),vr d,vr t,vi (.ofNat cs.length),vi ((Int32.ofNat (i))+(1:Int32)),vi (own_lo ch)]) rfl) ?_
    refine oS (fun _=>XS.goto X10.here hx rfl (pc0:=121) (pc':=49) rfl (dE hby D33 33 rfl) (by decide) (by decide)) ?_
    show gH (T10.setTop (mkF m 49 #[vi 0,vr t,vi 1,vi (.ofNat (o+2)),vr d,vr t,vi (.ofNat cs.length),vi ((Int32.ofNat (i))+(1:Int32)),vi (own_lo ch)] [])) ..
    rw [oO i]
    show gH (T10.setTop (mkF m 49 #[vi 0,vr t,vi 1,vi (.ofNat (o+2)),vr d,vr t,vi (.ofNat cs.length),vi (.ofNat (i+1)),vi (own_lo ch)] [])) ..
    have q14:=((Vt.other W4 (show @Ne Nat t d by omega)).other W10 (show @Ne Nat t d by omega))
    exact k1_ (ds++[ch]) ((out++[.int (own_lo ((192:Int32)|||(ch>>>((6:Int32)&&&31))))])++[.int (own_lo ((128:Int32)|||(ch&&&(63:Int32))))]) (o+2) (i+1) _ _ _ _ X10 e10 N10 O12 K13 (One.val rfl) (by rw [List.length_append,hi]; rfl) (by simp only [List.length_append,List.length_cons,List.length_nil]; omega) (by rw [hcs_]; simp) (by rw [← hfull,own_u8_cons hns,own_u1b hlow hmid]; simp) (by omega) q14 V10'
  · show gH (T0.setTop (mkF m 65 #[vi 0,vr t,vi 1,vi (.ofNat (o)),vr d,vr t,vi (.ofNat cs.length),vi (.ofNat (i)),vi (own_lo ch)] [(.int (own_lo ch))])) ..
    refine oS (fun _=>XS.ifYes X0.here hx rfl (pc0:=65) (pc':=109) rfl (dE hby D33 8 rfl) rfl ((if0 _ _).trans (flt hneg).2.1) (by decide) (by decide)) ?_
    show gH (T0.setTop (mkF m 109 #[vi 0,vr t,vi 1,vi (.ofNat (o)),vr d,vr t,vi (.ofNat cs.length),vi (.ofNat (i)),vi (own_lo ch)] [])) ..
    have hlow : ch < (128:Int32):=Decidable.byContradiction fun z=>hneg ((own_lo_neg hrc.1 hrc.2).mpr z)
    refine oS (fun _=>XS.aload X0.here hx rfl (dE hby D33 34 rfl) rfl rfl) ?_
    refine oS (fun _=>XS.iloadN X0.here hx rfl (dE hby D33 35 rfl) rfl) ?_
    refine oS (fun _=>XS.iinc X0.here hx rfl (dE hby D33 36 rfl) rfl (l':=#[vi 0,vr t,vi 1,vi ((Int32.ofNat (o))+(1:Int32)),vr d,vr t,vi (.ofNat cs.length),vi (.ofNat (i)),vi (own_lo ch)]) rfl) ?_
    refine oS (fun _=>XS.iload X0.here hx rfl (dE hby D33 37 rfl) rfl) ?_
    show gH (T0.setTop (mkF m 117 #[vi 0,vr t,vi 1,vi ((Int32.ofNat (o))+(1:Int32)),vr d,vr t,vi (.ofNat cs.length),vi (.ofNat (i)),vi (own_lo ch)] [(.int (own_lo ch)),(.int (.ofNat (o))),(.ref d)])) ..
    rw [oO (o)]
    have V15p : Arv Z h0 d kd .byte (Int32.ofNat (2 * cs.length)) (out++[(.int 0)]) (.int 0):=Vd.pad (pad_rep out (.int 0) 1)
    obtain ⟨cl16,Ar16,qk16,Sz16,Mz16,Hz16,Uz16⟩:=id V15p
    obtain ⟨T17,h17,X17,e17,W17,st17⟩:=stB X0 hx hZ e0 Ar16 (j:=(Int32.ofNat (o))) (oI (i:=o) (n:=2 * cs.length) Sz16 (by omega) (by omega)) (g:=(mkF m 117 #[vi 0,vr t,vi 1,vi (.ofNat (o+1)),vr d,vr t,vi (.ofNat cs.length),vi (.ofNat (i)),vi (own_lo ch)] [(.int (own_lo ch)),(.int (.ofNat (o))),(.ref d)])) rfl rfl (dE hby D33 38 rfl)
    refine oS st17 ?_
    have V17:=Arv.set Ar16 qk16 Sz16 Mz16 Hz16 Uz16 (fits_nar_byte _) W17 (out:List Value).length (by rw [oC (by omega)]; omega) (by simp)
    have z18:=W17.size
    have O19:=Old.wr O0 W17 (by omega)
    have K20:=Kr.wr W17 (Or.inl (by simp))
    have N17:=Fr.snoc X17 N0 (by omega : Z.heap.size≤d)
    have V17' : Arv Z h17 d kd .byte (Int32.ofNat (2 * cs.length)) (out++[.int (own_lo ch)]) (.int 0):=by have q:=V17; rw [own_set,own_lo_lo'] at q; exact q
    show gH (T17.setTop (mkF m 118 #[vi 0,vr t,vi 1,vi (.ofNat (o+1)),vr d,vr t,vi (.ofNat cs.length),vi (.ofNat (i)),vi (own_lo ch)] [])) ..
    refine oS (fun _=>XS.iinc X17.here hx rfl (dE hby D33 32 rfl) rfl (l':=#[vi 0,vr t,vi 1,vi (.ofNat (o+1)),vr d,vr t,vi (.ofNat cs.length),vi ((Int32.ofNat (i))+(1:Int32)),vi (own_lo ch)]) rfl) ?_
    refine oS (fun _=>XS.goto X17.here hx rfl (pc0:=121) (pc':=49) rfl (dE hby D33 33 rfl) (by decide) (by decide)) ?_
    show gH (T17.setTop (mkF m 49 #[vi 0,vr t,vi 1,vi (.ofNat (o+1)),vr d,vr t,vi (.ofNat cs.length),vi ((Int32.ofNat (i))+(1:Int32)),vi (own_lo ch)] [])) ..
    rw [oO i]
    show gH (T17.setTop (mkF m 49 #[vi 0,vr t,vi 1,vi (.ofNat (o+1)),vr d,vr t,vi (.ofNat cs.length),vi (.ofNat (i+1)),vi (own_lo ch)] [])) ..
    have q21:=(Vt.other W17 (show @Ne Nat t d by omega))
    exact k1_ (ds++[ch]) (out++[.int (own_lo ch)]) (o+1) (i+1) _ _ _ _ X17 e17 N17 O19 K20 (One.val rfl) (by rw [List.length_append,hi]; rfl) (by simp only [List.length_append,List.length_cons,List.length_nil]; omega) (by rw [hcs_]; simp) (by rw [← hfull,own_u8_cons hns,own_u1a hlow]; simp) (by omega) q21 V17'
theorem own_l_exit {p:Program} {l:Launch} {e:Env} {s:State} {m:MethodId} {args:Array Value} {below:List Frame} {meth:Method} {c:Code} {Z:State} {a0:Array Value} {locs:List Loc} {cells slots : Nat} {T0:State} {h0:Heap} {F:State→Prop} (t d : Addr) (kt kd : ClassId) (cs:List Int32) (out:List Value) (o i : Nat) (s8:Slot) (hx:p.tables.exec = Jvm.exec) (hZ:Z.Warmed39 s.vm) (hw:∀ d∈tables_1,d.before a0 Z = true) (hby:c.code = jdk_42_method_46_code) (hml:c.maxLocals = 9) (hown:s.vm.findClass "java/lang/String" = some m.cls) (X0:Stand p l e (⟨4,2,44,80⟩ : Room) s m args below meth c T0 locs cells slots) (e0:T0.heap = h0) (N0:Fr Z.heap.size locs) (O0:Old Z Z.heap.size h0) (hin:i = cs.length) (hne:t ≠ d) (Vt:Arv Z h0 t kt .byte (Int32.ofNat cs.length) (own_L1 cs) (.int 0)) (Vd:Arv Z h0 d kd .byte (Int32.ofNat (2 * cs.length)) out (.int 0))
    (kx:own_G p.tables e below F (T0.setTop (mkF m 124 #[vi 0,vr t,vi 1,vi (.ofNat (o)),vr d,vr t,vi (.ofNat cs.length),vi (.ofNat (i)),s8] []))) :
    own_G p.tables e below F (T0.setTop (mkF m 49 #[vi 0,vr t,vi 1,vi (.ofNat (o)),vr d,vr t,vi (.ofNat cs.length),vi (.ofNat (i)),s8] [])):=by
  show gH (T0.setTop (mkF m 49 #[vi 0,vr t,vi 1,vi (.ofNat (o)),vr d,vr t,vi (.ofNat cs.length),vi (.ofNat (i)),s8] [])) ..
  have ltt:=oL Vt.lt
  have ltd:=oL Vd.lt
  have hnN : @Ne Nat t d:=hne
  refine oS (fun _=>XS.iload X0.here hx rfl (dE hby D33 0 rfl) rfl) ?_
  refine oS (fun _=>XS.iload X0.here hx rfl (dE hby D33 1 rfl) rfl) ?_
  refine oS (fun _=>XS.icmpYes X0.here hx rfl (pc0:=53) (pc':=124) rfl (dE hby D33 2 rfl) rfl (flt (by rw [hin]; exact Int32.lt_irrefl)).2.1 (by decide) (by decide)) ?_
  show gH (T0.setTop (mkF m 124 #[vi 0,vr t,vi 1,vi (.ofNat (o)),vr d,vr t,vi (.ofNat cs.length),vi (.ofNat (i)),s8] [])) ..
  exact kx
theorem own_l_loop {p:Program} {l:Launch} {e:Env} {s:State} {m:MethodId} {args:Array Value} {below:List Frame} {meth:Method} {c:Code} {Z:State} {a0:Array Value} {cells slots : Nat} {h0:Heap} {F:State→Prop} (t d : Addr) (kt kd : ClassId) (cs:List Int32) (full:List Value) (hx:p.tables.exec = Jvm.exec) (hZ:Z.Warmed39 s.vm) (hw:∀ d∈tables_1,d.before a0 Z = true) (hby:c.code = jdk_42_method_46_code) (hml:c.maxLocals = 9) (hown:s.vm.findClass "java/lang/String" = some m.cls) (hn:cs.length≤6) (hr:∀ c∈cs,0≤c.toInt∧¬ (255:Int32) < c) (hne:t ≠ d) (gd:Z.heap.size≤d)
    (k:∀ (ds:List Int32) (out:List Value) (o i : Nat) (s8:Slot) (T':State) (h':Heap) (locs':List Loc),Stand p l e (⟨4,2,44,80⟩ : Room) s m args below meth c T' locs' cells slots→T'.heap = h'→Fr Z.heap.size locs'→Old Z Z.heap.size h'→Keep h0 h' [d]→One s8→ds.length = i→out.length = o→cs = ds++([] : List Int32)→out++own_u8 (([] : List Int32)) = full→o+2 * (([] : List Int32)).length≤2 * cs.length→Arv Z h' t kt .byte (Int32.ofNat cs.length) (own_L1 cs) (.int 0)→Arv Z h' d kd .byte (Int32.ofNat (2 * cs.length)) out (.int 0)→own_G p.tables e below F (T'.setTop (mkF m 124 #[vi 0,vr t,vi 1,vi (.ofNat (o)),vr d,vr t,vi (.ofNat cs.length),vi (.ofNat (i)),s8] []))) :
    ∀ (rest:List Int32) (ds:List Int32) (out:List Value) (o i : Nat) (s8:Slot) (T':State) (h':Heap) (locs':List Loc),Stand p l e (⟨4,2,44,80⟩ : Room) s m args below meth c T' locs' cells slots→T'.heap = h'→Fr Z.heap.size locs'→Old Z Z.heap.size h'→Keep h0 h' [d]→One s8→ds.length = i→out.length = o→cs = ds++rest→out++own_u8 (rest) = full→o+2 * (rest).length≤2 * cs.length→Arv Z h' t kt .byte (Int32.ofNat cs.length) (own_L1 cs) (.int 0)→Arv Z h' d kd .byte (Int32.ofNat (2 * cs.length)) out (.int 0)→own_G p.tables e below F (T'.setTop (mkF m 49 #[vi 0,vr t,vi 1,vi (.ofNat (o)),vr d,vr t,vi (.ofNat cs.length),vi (.ofNat (i)),s8] [])):=by
  intro rest
  induction rest with
  | nil =>
    intro ds out o i s8 T' h' locs' X e1 N O K h8 hi ho hcs_ hfull hroom Vt Vd
    exact own_l_exit t d kt kd cs out o i s8 hx hZ hw hby hml hown X e1 N O (by rw [← hi,hcs_]; simp) hne Vt Vd (k ds out o i s8 T' h' locs' X e1 N O K h8 hi ho hcs_ hfull hroom Vt Vd)
  | cons ch r ih =>
    intro ds out o i s8 T' h' locs' X e1 N O K h8 hi ho hcs_ hfull hroom Vt Vd
    refine own_l_turn t d kt kd cs full ds r ch out o i s8 hx hZ hw hby hml hown X e1 N O hn hr hne gd h8 hi ho hcs_ hfull hroom Vt Vd ?_
    intro ds2 out2 o2 i2 t8 T2 h2 L2 X2 e2 N2 O2 K2 g8 gi go gcs gfull groom Wt Wd
    exact ih ds2 out2 o2 i2 t8 T2 h2 L2 X2 e2 N2 O2 (K.trans K2 (allS (Or.inl (by simp)) all0)) g8 gi go gcs gfull groom Wt Wd
theorem own_u8_ascii : ∀ cs : List Int32,(∀ c∈cs,c < (128:Int32))→own_u8 cs = own_L1 cs
  | [],_=>rfl
  | c :: r,h=>by
    have hc:=h c (by simp)
    rw [own_u8_cons (own_low hc),own_u1a hc,own_u8_ascii r (fun x hx=>h x (by simp [hx]))]
    rfl
theorem own_pd31 : parseMethodDescriptor "([BII)Z" = some ⟨[(.array .byte),.int,.int],some .boolean⟩:=by decide +kernel
theorem own_elL (l:Launch) (Z:State) (a0:Array Value) (hw:∀ d∈tables_1,d.before a0 Z = true) (ws:List Jvm.Cond) (t:Addr) (kt:ClassId) (cs:List Int32) (h0:Heap) (O0:Old Z Z.heap.size h0) (hn:cs.length≤6) (hr:∀ c∈cs,0≤c.toInt∧¬ (255:Int32) < c) (hu:cs.length = 0 ∨ (own_u8 cs).length < 2 * cs.length∧(own_u8 cs).length≤12) (Et:Exa Z h0 t "[B") (Vt:Arv Z h0 t kt .byte (Int32.ofNat cs.length) (own_L1 cs) (.int 0)) :
    own_Met l Z (⟨"java/lang/String","encodeUTF8","(B[BZ)[B"⟩ : MethodName) jdk_42_method_46_code 9 (some (.array .byte)) ws (⟨4,2,44,80⟩ : Room) #[(.int 0),(.ref t),(.int 1)] h0 (fun v h L=>∃ b kb,v = some (.ref b)∧Fr Z.heap.size L∧Keep h0 h []∧h0.size≤b∧Arv Z h b kb .byte (Int32.ofNat (own_u8 cs).length) (own_u8 cs) (.int 0)) 2 44:=by
  refine own_bodyA (ef:=fun m=>mkF m 0 #[.val (.int (0:Int32)),.val (.ref t),.val (.int (1:Int32)),.unset,.unset,.unset,.unset,.unset,.unset] []) (plainFor_of_name own_pn7) ?_
  intro p e s m below meth c T0 hx hZ hby hml hown hnm hret hlk X0 e0
  have N0:=Fr.nil Z.heap.size
  have z0 : Z.heap.size≤h0.size:=O0.2.1
  have Kr:=Keep.refl h0 []
  show gH (T0.setTop (mkF m 0 #[vi 0,vr t,vi 1,.unset,.unset,.unset,.unset,.unset,.unset] [])) ..
  have ltt:=oL Vt.lt
  refine oS (fun _=>XS.iloadN X0.here hx rfl (dE hby D33 39 rfl) rfl) ?_
  refine oS (fun _=>XS.iconst X0.here hx rfl (dE hby D33 40 rfl)) ?_
  refine oS (fun _=>XS.icmpYes X0.here hx rfl (pc0:=2) (pc':=11) rfl (dE hby D33 41 rfl) rfl (feq (by decide)).2 (by decide) (by decide)) ?_
  refine oS (fun _=>XS.aloadN X0.here hx rfl (dE hby D33 42 rfl) rfl rfl) ?_
  refine oS (fun _=>XS.iconst X0.here hx rfl (dE hby D33 43 rfl)) ?_
  refine oS (fun _=>XS.aloadN X0.here hx rfl (dE hby D33 44 rfl) rfl rfl) ?_
  show gH (T0.setTop (mkF m 14 #[vi 0,vr t,vi 1,.unset,.unset,.unset,.unset,.unset,.unset] [(.ref t),(.int 0),(.ref t)])) ..
  obtain ⟨cl1,Ar1,qk1,Sz1,Mz1,Hz1,Uz1⟩:=id Vt
  refine oS (X0.arraylength hx (by rw [e0]; exact Ar1.1) (State.isArrayOf_alike hZ.alike Ar1.2.1) (g:=(mkF m 14 #[vi 0,vr t,vi 1,.unset,.unset,.unset,.unset,.unset,.unset] [(.ref t),(.int 0),(.ref t)])) rfl rfl (dE hby D33 45 rfl)) ?_
  rw [len_of Sz1 Mz1]
  obtain ⟨_,T2,L2,X2,⟨r2,rfl,N2q,eh2,c2⟩,st2⟩:=own_cS X0 hx hZ hown (own_hneg l Z a0 hw [] t kt cs h0 O0 (by omega) Vt) (oW hw 119 rfl) (oW hw 120 rfl) (oW hw 121 rfl) (oW hw 122 rfl) (W:=0) (g:=(mkF m 15 #[vi 0,vr t,vi 1,.unset,.unset,.unset,.unset,.unset,.unset] [(.int (.ofNat cs.length)),(.int 0),(.ref t)])) rfl (by rw [hml]; rfl) (argsL:=[(.ref t),(.int 0),(.int (.ofNat cs.length))]) (rest:=[]) (lenOf own_pd31 rfl) rfl (dE hby D33 46 rfl) rfl e0 (by decide) (by decide)
  have N2:=Fr.app N0 N2q
  refine oS st2 ?_
  show gH (T2.setTop (mkF m 18 #[vi 0,vr t,vi 1,.unset,.unset,.unset,.unset,.unset,.unset] [(.int r2)])) ..
  rcases c2 with ⟨rfl,hall⟩ | ⟨rfl,hex⟩
  · skip
    show gH (T2.setTop (mkF m 18 #[vi 0,vr t,vi 1,.unset,.unset,.unset,.unset,.unset,.unset] [(.int 0)])) ..
    refine oS (fun _=>XS.ifNo X2.here hx rfl (dE hby D33 47 rfl) rfl ((if0 _ _).trans (teq rfl).2)) ?_
    refine oS (fun _=>XS.aloadN X2.here hx rfl (dE hby D33 48 rfl) rfl rfl) ?_
    obtain ⟨T3,h3,X3,e3,E3,AH3,A3,st3⟩:=cloneH X2 hx hZ hown (oW hw 126 rfl) (oW hw 127 rfl) (oW hw 131 rfl) (oW hw 129 rfl) (oW hw 130 rfl) (oW hw 132 rfl) eh2 Vt.arh Et (g:=(mkF m 22 #[vi 0,vr t,vi 1,.unset,.unset,.unset,.unset,.unset,.unset] [(.ref t)])) rfl (by rw [hml]; rfl) rfl (dE hby D33 49 rfl) (by decide) (W:=0) (cap:=12) (by show 2 * 0+_≤_; exact Nat.le_of_eq rfl) (by decide) (by rw [oC (by omega)]; omega) (by decide) (by decide)
    obtain ⟨b3,g3⟩ : ∃ z,z = h0.size:=⟨_,rfl⟩
    rw [← g3] at AH3 A3 st3
    refine oS st3 ?_
    have z4:=E3.1
    have O5:=Old.ext O0 E3
    have K6:=Kr.ext E3
    have V3 : Arv Z h3 b3 kt .byte (Int32.ofNat cs.length) (own_L1 cs) (.int 0):=AH3
    have lt3:=oL A3.lt
    obtain ⟨T7,X7,e7,st7⟩:=castY X3 hx hZ hown (oW hw 133 rfl) e3 (Ins.self A3) (g:=(mkF m 25 #[vi 0,vr t,vi 1,.unset,.unset,.unset,.unset,.unset,.unset] [(.ref b3)])) rfl rfl (dE hby D33 50 rfl)
    refine oS st7 ?_
    show gH (T7.setTop (mkF m 28 #[vi 0,vr t,vi 1,.unset,.unset,.unset,.unset,.unset,.unset] [(.ref b3)])) ..
    have hasc : own_u8 cs = own_L1 cs:=own_u8_ascii cs (fun c hc=>Decidable.byContradiction fun z=>hall c hc ((own_lo_neg (hr c hc).1 (hr c hc).2).mpr z))
    exact own_retA X7 hx hret rfl rfl hlk (dE hby D33 51 rfl) (by rw [e7]; exact ⟨b3,kt,rfl,N2,K6,by omega,by rw [hasc,own_L1_len]; exact V3⟩) (by decide) (by decide)
  · skip
    have hu':=hu.resolve_left (fun z=>by obtain ⟨c,hc,-⟩:=hex; rw [List.eq_nil_of_length_eq_zero z] at hc; exact nomatch hc)
    show gH (T2.setTop (mkF m 18 #[vi 0,vr t,vi 1,.unset,.unset,.unset,.unset,.unset,.unset] [(.int 1)])) ..
    refine oS (fun _=>XS.ifYes X2.here hx rfl (pc0:=18) (pc':=29) rfl (dE hby D33 47 rfl) rfl ((if0 _ _).trans (feq (by decide)).2) (by decide) (by decide)) ?_
    refine oS (fun _=>XS.iconst X2.here hx rfl (dE hby D33 52 rfl)) ?_
    refine oS (fun _=>XS.istoreN X2.here hx rfl (dE hby D33 53 rfl) rfl (l':=#[vi 0,vr t,vi 1,vi 0,.unset,.unset,.unset,.unset,.unset]) rfl) ?_
    refine oS (fun _=>XS.aloadN X2.here hx rfl (dE hby D33 54 rfl) rfl rfl) ?_
    show gH (T2.setTop (mkF m 32 #[vi 0,vr t,vi 1,vi 0,.unset,.unset,.unset,.unset,.unset] [(.ref t)])) ..
    obtain ⟨cl8,Ar8,qk8,Sz8,Mz8,Hz8,Uz8⟩:=id Vt
    refine oS (X2.arraylength hx (by rw [eh2]; exact Ar8.1) (State.isArrayOf_alike hZ.alike Ar8.2.1) (g:=(mkF m 32 #[vi 0,vr t,vi 1,vi 0,.unset,.unset,.unset,.unset,.unset] [(.ref t)])) rfl rfl (dE hby D33 55 rfl)) ?_
    rw [len_of Sz8 Mz8]
    obtain ⟨_,T9,L9,X9,⟨d,kd,rfl,N9q,K9_,gd,ltd,Vd⟩,st9⟩:=own_cS X2 hx hZ hown (own_nbf l Z a0 hw [] cs.length h0 O0 (by omega)) (oW hw 356 rfl) (oW hw 154 rfl) (oW hw 145 rfl) (oW hw 155 rfl) (W:=0) (g:=(mkF m 33 #[vi 0,vr t,vi 1,vi 0,.unset,.unset,.unset,.unset,.unset] [(.int (.ofNat cs.length))])) rfl (by rw [hml]; rfl) (argsL:=[(.int (.ofNat cs.length))]) (rest:=[]) (lenOf own_pd3 rfl) rfl (dE hby D33 56 rfl) rfl eh2 (by decide) (by decide)
    have N9:=Fr.app N2 N9q
    refine oS st9 ?_
    have z10:=K9_.1
    have O11:=Old.keep O0 K9_ all0
    have K12:=Kr.trans K9_ all0
    show gH (T9.setTop (mkF m 36 #[vi 0,vr t,vi 1,vi 0,.unset,.unset,.unset,.unset,.unset] [(.ref d)])) ..
    refine oS (fun _=>XS.astore X9.here hx rfl (dE hby D33 57 rfl) rfl rfl (l':=#[vi 0,vr t,vi 1,vi 0,vr d,.unset,.unset,.unset,.unset]) rfl) ?_
    refine oS (fun _=>XS.aloadN X9.here hx rfl (dE hby D33 58 rfl) rfl rfl) ?_
    refine oS (fun _=>XS.astore X9.here hx rfl (dE hby D33 59 rfl) rfl rfl (l':=#[vi 0,vr t,vi 1,vi 0,vr d,vr t,.unset,.unset,.unset]) rfl) ?_
    refine oS (fun _=>XS.aload X9.here hx rfl (dE hby D33 60 rfl) rfl rfl) ?_
    show gH (T9.setTop (mkF m 43 #[vi 0,vr t,vi 1,vi 0,vr d,vr t,.unset,.unset,.unset] [(.ref t)])) ..
    have q13:=(Vt.keep K9_ nin0)
    obtain ⟨cl14,Ar14,qk14,Sz14,Mz14,Hz14,Uz14⟩:=id q13
    refine oS (X9.arraylength hx Ar14.1 (State.isArrayOf_alike hZ.alike Ar14.2.1) (g:=(mkF m 43 #[vi 0,vr t,vi 1,vi 0,vr d,vr t,.unset,.unset,.unset] [(.ref t)])) rfl rfl (dE hby D33 61 rfl)) ?_
    rw [len_of Sz14 Mz14]
    show gH (T9.setTop (mkF m 44 #[vi 0,vr t,vi 1,vi 0,vr d,vr t,.unset,.unset,.unset] [(.int (.ofNat cs.length))])) ..
    refine oS (fun _=>XS.istore X9.here hx rfl (dE hby D33 62 rfl) rfl (l':=#[vi 0,vr t,vi 1,vi 0,vr d,vr t,vi (.ofNat cs.length),.unset,.unset]) rfl) ?_
    refine oS (fun _=>XS.iconst X9.here hx rfl (dE hby D33 63 rfl)) ?_
    refine oS (fun _=>XS.istore X9.here hx rfl (dE hby D33 64 rfl) rfl (l':=#[vi 0,vr t,vi 1,vi 0,vr d,vr t,vi (.ofNat cs.length),vi 0,.unset]) rfl) ?_
    show gH (T9.setTop (mkF m 49 #[vi 0,vr t,vi 1,vi 0,vr d,vr t,vi (.ofNat cs.length),vi 0,.unset] [])) ..
    refine own_l_loop t d kt kd cs (own_u8 cs) hx hZ hw hby hml hown (by omega) hr (show @Ne Nat t d by omega) (by omega) ?_ cs [] [] 0 0 .unset _ _ _ X9 rfl N9 O11 (Keep.refl _ _) One.u rfl rfl rfl rfl (by omega) q13 Vd
    intro ds2 out2 o2 i2 t8 T2 h2 L2 X2 e2 N2 O2 K2 g8 gi go gcs gfull groom Wt Wd
    have gfull' : out2 = own_u8 cs:=by rw [← gfull]; exact (List.append_nil _).symm
    subst gfull'
    subst go
    have z15:=K2.1
    have O16:=Old.keep O11 K2 (allS (by omega) all0)
    have K17:=K12.trans K2 (allS (Or.inr (by omega)) all0)
    show gH (T2.setTop (mkF m 124 #[vi 0,vr t,vi 1,vi (.ofNat (own_u8 cs).length),vr d,vr t,vi (.ofNat cs.length),vi (.ofNat i2),t8] [])) ..
    refine oS (fun _=>XS.iloadN X2.here hx rfl (dE hby D33 65 rfl) rfl) ?_
    refine oS (fun _=>XS.aload X2.here hx rfl (dE hby D33 66 rfl) rfl rfl) ?_
    show gH (T2.setTop (mkF m 127 #[vi 0,vr t,vi 1,vi (.ofNat (own_u8 cs).length),vr d,vr t,vi (.ofNat cs.length),vi (.ofNat i2),t8] [(.ref d),(.int (.ofNat (own_u8 cs).length))])) ..
    obtain ⟨cl18,Ar18,qk18,Sz18,Mz18,Hz18,Uz18⟩:=id Wd
    refine oS (X2.arraylength hx (by rw [e2]; exact Ar18.1) (State.isArrayOf_alike hZ.alike Ar18.2.1) (g:=(mkF m 127 #[vi 0,vr t,vi 1,vi (.ofNat (own_u8 cs).length),vr d,vr t,vi (.ofNat cs.length),vi (.ofNat i2),t8] [(.ref d),(.int (.ofNat (own_u8 cs).length))])) rfl rfl (dE hby D33 67 rfl)) ?_
    rw [len_of Sz18 Mz18]
    show gH (T2.setTop (mkF m 128 #[vi 0,vr t,vi 1,vi (.ofNat (own_u8 cs).length),vr d,vr t,vi (.ofNat cs.length),vi (.ofNat i2),t8] [(.int (.ofNat (2 * cs.length))),(.int (.ofNat (own_u8 cs).length))])) ..
    refine oS (fun _=>XS.icmpYes X2.here hx rfl (pc0:=128) (pc':=134) rfl (dE hby D33 68 rfl) rfl (feq (own_ne (by omega) (by omega) (by omega))).2 (by decide) (by decide)) ?_
    refine oS (fun _=>XS.aload X2.here hx rfl (dE hby D33 69 rfl) rfl rfl) ?_
    refine oS (fun _=>XS.iloadN X2.here hx rfl (dE hby D33 70 rfl) rfl) ?_
    obtain ⟨_,T19,L19,X19,⟨b,kb,rfl,N19q,K19_,gb,-,Vb⟩,st19⟩:=own_cS X2 hx hZ hown (own_cof l Z a0 hw [] d (2 * cs.length) (own_u8 cs).length (own_u8 cs) kd h2 O16 (by omega) (by omega) (by omega) rfl Wd) (oW hw 336 rfl) (oW hw 337 rfl) (oW hw 80 rfl) (oW hw 338 rfl) (W:=0) (g:=(mkF m 137 #[vi 0,vr t,vi 1,vi (.ofNat (own_u8 cs).length),vr d,vr t,vi (.ofNat cs.length),vi (.ofNat i2),t8] [(.int (.ofNat (own_u8 cs).length)),(.ref d)])) rfl (by rw [hml]; rfl) (argsL:=[(.ref d),(.int (.ofNat (own_u8 cs).length))]) (rest:=[]) (lenOf own_pd28 rfl) rfl (dE hby D33 71 rfl) rfl e2 (by decide) (by decide)
    have N19:=Fr.app N2 N19q
    refine oS st19 ?_
    have z20:=K19_.1
    have O21:=Old.keep O16 K19_ all0
    have K22:=K17.trans K19_ all0
    show gH (T19.setTop (mkF m 140 #[vi 0,vr t,vi 1,vi (.ofNat (own_u8 cs).length),vr d,vr t,vi (.ofNat cs.length),vi (.ofNat i2),t8] [(.ref b)])) ..
    exact own_retA X19 hx hret rfl rfl hlk (dE hby D33 72 rfl) ⟨b,kb,rfl,N19,K22,by omega,Vb⟩ (by decide) (by decide)
theorem own_pd32 : parseMethodDescriptor "([BZ)[B" = some ⟨[(.array .byte),.boolean],some (.array .byte)⟩:=by decide +kernel
theorem own_elU (l:Launch) (Z:State) (a0:Array Value) (hw:∀ d∈tables_1,d.before a0 Z = true) (ws:List Jvm.Cond) (t:Addr) (kt:ClassId) (cs:List Int32) (h0:Heap) (O0:Old Z Z.heap.size h0) (US:own_US Z) (hn:cs.length≤6) (hr:∀ c∈cs,0≤c.toInt∧c.toInt < 65536) (hwf:own_wf cs) (hu:(own_u8 cs).length < 2 * cs.length∧(own_u8 cs).length≤12) (Vt:Arv Z h0 t kt .byte (Int32.ofNat (2 * cs.length)) (own_U2 cs) (.int 0)) :
    own_Met l Z (⟨"java/lang/String","encodeUTF8","(B[BZ)[B"⟩ : MethodName) jdk_42_method_46_code 9 (some (.array .byte)) ws (⟨4,2,44,90⟩ : Room) #[(.int 1),(.ref t),(.int 1)] h0 (fun v h L=>∃ b kb,v = some (.ref b)∧Fr Z.heap.size L∧Keep h0 h []∧h0.size≤b∧Arv Z h b kb .byte (Int32.ofNat (own_u8 cs).length) (own_u8 cs) (.int 0)) 2 44:=by
  refine own_bodyA (ef:=fun m=>mkF m 0 #[.val (.int (1:Int32)),.val (.ref t),.val (.int (1:Int32)),.unset,.unset,.unset,.unset,.unset,.unset] []) (plainFor_of_name own_pn7) ?_
  intro p e s m below meth c T0 hx hZ hby hml hown hnm hret hlk X0 e0
  have N0:=Fr.nil Z.heap.size
  have Kr:=Keep.refl h0 []
  show gH (T0.setTop (mkF m 0 #[vi 1,vr t,vi 1,.unset,.unset,.unset,.unset,.unset,.unset] [])) ..
  refine oS (fun _=>XS.iloadN X0.here hx rfl (dE hby D33 39 rfl) rfl) ?_
  refine oS (fun _=>XS.iconst X0.here hx rfl (dE hby D33 40 rfl)) ?_
  refine oS (fun _=>XS.icmpNo X0.here hx rfl (dE hby D33 41 rfl) rfl (teq rfl).2) ?_
  refine oS (fun _=>XS.aloadN X0.here hx rfl (dE hby D33 73 rfl) rfl rfl) ?_
  refine oS (fun _=>XS.iloadN X0.here hx rfl (dE hby D33 74 rfl) rfl) ?_
  obtain ⟨_,T1,L1,X1,⟨b,kb,rfl,N1q,K1_,gb,Vb⟩,st1⟩:=own_cS X0 hx hZ hown (own_eu l Z a0 hw [] t kt cs h0 O0 US hn hr hwf hu Vt) (oW hw 315 rfl) (oW hw 316 rfl) (oW hw 28 rfl) (oW hw 317 rfl) (W:=0) (g:=(mkF m 7 #[vi 1,vr t,vi 1,.unset,.unset,.unset,.unset,.unset,.unset] [(.int 1),(.ref t)])) rfl (by rw [hml]; rfl) (argsL:=[(.ref t),(.int 1)]) (rest:=[]) (lenOf own_pd32 rfl) rfl (dE hby D33 75 rfl) rfl e0 (by decide) (by decide)
  have N1:=Fr.app N0 N1q
  refine oS st1 ?_
  have z2:=K1_.1
  have O3:=Old.keep O0 K1_ all0
  have K4:=Kr.trans K1_ all0
  show gH (T1.setTop (mkF m 10 #[vi 1,vr t,vi 1,.unset,.unset,.unset,.unset,.unset,.unset] [(.ref b)])) ..
  exact own_retA X1 hx hret rfl rfl hlk (dE hby D33 76 rfl) ⟨b,kb,rfl,N1,K4,gb,Vb⟩ (by decide) (by decide)
def L34 : List (Nat × Instr × Nat):=[(0,.aload_n 0,1),(1,.getstatic 86,3),(4,.if_acmp .ne 10,3),(7,.iload_n 1,1),(8,.aload_n 2,1),(9,.iconst 1,1),(10,.invokestatic 252,3),(13,.areturn,1)]
theorem D34 : ∀ q∈L34,decode jdk_42_method_18_code q.1 = .ok q.2:=by decide +kernel
theorem own_pd33 : parseMethodDescriptor "(B[BZ)[B" = some ⟨[.byte,(.array .byte),.boolean],some (.array .byte)⟩:=by decide +kernel
theorem own_encL (l:Launch) (Z:State) (a0:Array Value) (hw:∀ d∈tables_1,d.before a0 Z = true) (ws:List Jvm.Cond) (u8:Addr) (t:Addr) (kt:ClassId) (cs:List Int32) (h0:Heap) (O0:Old Z Z.heap.size h0) (SU:Sta Z Z.heap "sun/nio/cs/UTF_8" "INSTANCE" "Lsun/nio/cs/UTF_8;" (.ref u8)) (hn:cs.length≤6) (hr:∀ c∈cs,0≤c.toInt∧¬ (255:Int32) < c) (hu:cs.length = 0 ∨ (own_u8 cs).length < 2 * cs.length∧(own_u8 cs).length≤12) (Et:Exa Z h0 t "[B") (Vt:Arv Z h0 t kt .byte (Int32.ofNat cs.length) (own_L1 cs) (.int 0)) :
    own_Met l Z (⟨"java/lang/String","encode","(Ljava/nio/charset/Charset;B[B)[B"⟩ : MethodName) jdk_42_method_18_code 3 (some (.array .byte)) ws (⟨5,2,44,110⟩ : Room) #[(.ref u8),(.int 0),(.ref t)] h0 (fun v h L=>∃ b kb,v = some (.ref b)∧Fr Z.heap.size L∧Keep h0 h []∧h0.size≤b∧Arv Z h b kb .byte (Int32.ofNat (own_u8 cs).length) (own_u8 cs) (.int 0)) 2 44:=by
  refine own_bodyA (ef:=fun m=>mkF m 0 #[.val (.ref u8),.val (.int (0:Int32)),.val (.ref t)] []) (plainFor_of_name own_pn7) ?_
  intro p e s m below meth c T0 hx hZ hby hml hown hnm hret hlk X0 e0
  have N0:=Fr.nil Z.heap.size
  have Kr:=Keep.refl h0 []
  show gH (T0.setTop (mkF m 0 #[vr u8,vi 0,vr t] [])) ..
  refine oS (fun _=>XS.aloadN X0.here hx rfl (dE hby D34 0 rfl) rfl rfl) ?_
  obtain ⟨T1,X1,e1,st1⟩:=getS2 X0 hx hZ hown (host:="") (Or.inl (oW hw 114 rfl)) Via.refl e0 (Sta.ext O0.2 SU) (g:=(mkF m 1 #[vr u8,vi 0,vr t] [(.ref u8)])) rfl (dE hby D34 1 rfl)
  refine oS st1 ?_
  show gH (T1.setTop (mkF m 4 #[vr u8,vi 0,vr t] [(.ref u8),(.ref u8)])) ..
  refine oS (fun _=>Jvm.RoadKit.acmp (g:=(mkF m 4 #[vr u8,vi 0,vr t] [(.ref u8),(.ref u8)])) X1 hx rfl rfl rfl (pc0:=4) (pc':=7) (same:=true) rfl (dE hby D34 2 rfl) rfl (decide_eq_true rfl) (by decide) (by decide)) ?_
  refine oS (fun _=>XS.iloadN X1.here hx rfl (dE hby D34 3 rfl) rfl) ?_
  refine oS (fun _=>XS.aloadN X1.here hx rfl (dE hby D34 4 rfl) rfl rfl) ?_
  refine oS (fun _=>XS.iconst X1.here hx rfl (dE hby D34 5 rfl)) ?_
  obtain ⟨_,T2,L2,X2,⟨b,kb,rfl,N2q,K2_,gb,Vb⟩,st2⟩:=own_cS X1 hx hZ hown (own_elL l Z a0 hw [] t kt cs h0 O0 hn hr hu Et Vt) (oW hw 116 rfl) (oW hw 117 rfl) (oW hw 28 rfl) (oW hw 118 rfl) (W:=0) (g:=(mkF m 10 #[vr u8,vi 0,vr t] [(.int 1),(.ref t),(.int 0)])) rfl (by rw [hml]; rfl) (argsL:=[(.int 0),(.ref t),(.int 1)]) (rest:=[]) (lenOf own_pd33 rfl) rfl (dE hby D34 6 rfl) rfl e1 (by decide) (by decide)
  have N2:=Fr.app N0 N2q
  refine oS st2 ?_
  have z3:=K2_.1
  have O4:=Old.keep O0 K2_ all0
  have K5:=Kr.trans K2_ all0
  show gH (T2.setTop (mkF m 13 #[vr u8,vi 0,vr t] [(.ref b)])) ..
  exact own_retA X2 hx hret rfl rfl hlk (dE hby D34 7 rfl) ⟨b,kb,rfl,N2,K5,gb,Vb⟩ (by decide) (by decide)
def L35 : List (Nat × Instr × Nat):=[(0,.aload_n 1,1),(1,.ifnonnull 11,3),(12,.aload_n 1,1),(13,.aload_n 0,1),(14,.invokevirtual 335,3),(17,.aload_n 0,1),(18,.getfield 9,3),(21,.invokestatic 535,3),(24,.areturn,1)]
theorem D35 : ∀ q∈L35,decode jdk_42_method_64_code q.1 = .ok q.2:=by decide +kernel
theorem own_pd34 : parseMethodDescriptor "()B" = some ⟨[],some .byte⟩:=by decide +kernel
theorem own_pd35 : parseMethodDescriptor "(Ljava/nio/charset/Charset;B[B)[B" = some ⟨[(.object "java/nio/charset/Charset"),.byte,(.array .byte)],some (.array .byte)⟩:=by decide +kernel
theorem own_gbL (l:Launch) (Z:State) (a0:Array Value) (hw:∀ d∈tables_1,d.before a0 Z = true) (ws:List Jvm.Cond) (a1:Addr) (u8:Addr) (t:Addr) (kt:ClassId) (cs:List Int32) (w1:Int32) (h0:Heap) (O0:Old Z Z.heap.size h0) (S1:Sta Z Z.heap "java/lang/String" "COMPACT_STRINGS" "Z" (.int w1)) (hw1:¬ (w1 = (0:Int32))) (SU:Sta Z Z.heap "sun/nio/cs/UTF_8" "INSTANCE" "Lsun/nio/cs/UTF_8;" (.ref u8)) (hn:cs.length≤6) (hr:∀ c∈cs,0≤c.toInt∧¬ (255:Int32) < c) (hu:cs.length = 0 ∨ (own_u8 cs).length < 2 * cs.length∧(own_u8 cs).length≤12) (Et:Exa Z h0 t "[B") (Hs:own_StL Z h0 a1 t kt cs) :
    own_Met l Z (⟨"java/lang/String","getBytes","(Ljava/nio/charset/Charset;)[B"⟩ : MethodName) jdk_42_method_64_code 2 (some (.array .byte)) ws (⟨6,2,44,130⟩ : Room) #[(.ref a1),(.ref u8)] h0 (fun v h L=>∃ b kb,v = some (.ref b)∧Fr Z.heap.size L∧Keep h0 h []∧h0.size≤b∧Arv Z h b kb .byte (Int32.ofNat (own_u8 cs).length) (own_u8 cs) (.int 0)) 2 44:=by
  refine own_bodyA (ef:=fun m=>mkF m 0 #[.val (.ref a1),.val (.ref u8)] []) (plainFor_of_name own_pn7) ?_
  intro p e s m below meth c T0 hx hZ hby hml hown hnm hret hlk X0 e0
  have N0:=Fr.nil Z.heap.size
  have Kr:=Keep.refl h0 []
  show gH (T0.setTop (mkF m 0 #[vr a1,vr u8] [])) ..
  refine oS (fun _=>XS.aloadN X0.here hx rfl (dE hby D35 0 rfl) rfl rfl) ?_
  refine oS (fun _=>XS.ifnonnullYes X0.here hx rfl (pc0:=1) (pc':=12) rfl (dE hby D35 1 rfl) rfl (by decide) (by decide)) ?_
  refine oS (fun _=>XS.aloadN X0.here hx rfl (dE hby D35 2 rfl) rfl rfl) ?_
  refine oS (fun _=>XS.aloadN X0.here hx rfl (dE hby D35 3 rfl) rfl rfl) ?_
  obtain ⟨_,T1,L1,X1,⟨rfl,N1q,eh1⟩,st1⟩:=own_cV X0 hx hZ hown (own_co0 l Z a0 hw [] a1 w1 h0 O0 S1 hw1 Hs.2.1) (oW hw 105 rfl) (oW hw 106 rfl) (oW hw 108 rfl) (oW hw 107 rfl) (own_clsP (y:=(⟨"java/lang/String","coder","()B"⟩ : MethodName)) (oW hw 108 rfl)) Hs.1 (oW hw 28 rfl) (oW hw 109 rfl) (W:=1) (g:=(mkF m 14 #[vr a1,vr u8] [(.ref a1),(.ref u8)])) rfl (by rw [hml]; rfl) (argsL:=[]) (rest:=[(.ref u8)]) (lenOf own_pd34 rfl) rfl (dE hby D35 4 rfl) rfl e0 (by decide) (by decide)
  have N1:=Fr.app N0 N1q
  refine oS st1 ?_
  show gH (T1.setTop (mkF m 17 #[vr a1,vr u8] [(.int 0),(.ref u8)])) ..
  refine oS (fun _=>XS.aloadN X1.here hx rfl (dE hby D35 5 rfl) rfl rfl) ?_
  obtain ⟨T2,X2,e2,st2⟩:=getF X1 hx hZ hown (host:="") (Or.inl (oW hw 96 rfl)) Via.refl eh1 Hs.2.2.1 (g:=(mkF m 18 #[vr a1,vr u8] [(.ref a1),(.int 0),(.ref u8)])) rfl rfl (dE hby D35 6 rfl)
  refine oS st2 ?_
  obtain ⟨_,T3,L3,X3,⟨b,kb,rfl,N3q,K3_,gb,Vb⟩,st3⟩:=own_cS X2 hx hZ hown (own_encL l Z a0 hw [] u8 t kt cs h0 O0 SU hn hr hu Et Hs.2.2.2) (oW hw 111 rfl) (oW hw 112 rfl) (oW hw 28 rfl) (oW hw 113 rfl) (W:=0) (g:=(mkF m 21 #[vr a1,vr u8] [(.ref t),(.int 0),(.ref u8)])) rfl (by rw [hml]; rfl) (argsL:=[(.ref u8),(.int 0),(.ref t)]) (rest:=[]) (lenOf own_pd35 rfl) rfl (dE hby D35 7 rfl) rfl e2 (by decide) (by decide)
  have N3:=Fr.app N1 N3q
  refine oS st3 ?_
  have z4:=K3_.1
  have O5:=Old.keep O0 K3_ all0
  have K6:=Kr.trans K3_ all0
  show gH (T3.setTop (mkF m 24 #[vr a1,vr u8] [(.ref b)])) ..
  exact own_retA X3 hx hret rfl rfl hlk (dE hby D35 8 rfl) ⟨b,kb,rfl,N3,K6,gb,Vb⟩ (by decide) (by decide)
def L36 : List (Nat × Instr × Nat):=[(0,.aload_n 0,1),(1,.getfield 10,3),(4,.invokevirtual 106,3),(7,.getstatic 108,3),(10,.invokevirtual 114,3),(13,.areturn,1)]
theorem D36 : ∀ q∈L36,decode prog_24_method_5_code q.1 = .ok q.2:=by decide +kernel
theorem own_pd36 : parseMethodDescriptor "()Ljava/lang/String;" = some ⟨[],some (.object "java/lang/String")⟩:=by decide +kernel
theorem own_pd37 : parseMethodDescriptor "(Ljava/nio/charset/Charset;)[B" = some ⟨[(.object "java/nio/charset/Charset")],some (.array .byte)⟩:=by decide +kernel
theorem own_byL (l:Launch) (Z:State) (a0:Array Value) (hw:∀ d∈tables_1,d.before a0 Z = true) (ws:List Jvm.Cond) (te:Addr) (sb bv u8 : Addr) (kb:ClassId) (cs:List Int32) (w1:Int32) (h0:Heap) (O0:Old Z Z.heap.size h0) (S1:Sta Z Z.heap "java/lang/String" "COMPACT_STRINGS" "Z" (.int w1)) (hw1:¬ (w1 = (0:Int32))) (SU:Sta Z Z.heap "sun/nio/cs/UTF_8" "INSTANCE" "Lsun/nio/cs/UTF_8;" (.ref u8)) (SV:Sta Z Z.heap "java/nio/charset/StandardCharsets" "UTF_8" "Ljava/nio/charset/Charset;" (.ref u8)) (hn:cs.length≤6) (hr:∀ c∈cs,0≤c.toInt∧¬ (255:Int32) < c) (hu:cs.length = 0 ∨ (own_u8 cs).length < 2 * cs.length∧(own_u8 cs).length≤12) (Ft:Fld Z h0 te "com/example/sluse/sluse/TextExposition" "text" "Ljava/lang/StringBuilder;" (.ref sb)) (HB:own_SBL Z h0 sb bv kb cs) :
    own_Met l Z (⟨"com/example/sluse/sluse/TextExposition","bytes","()[B"⟩ : MethodName) prog_24_method_5_code 1 (some (.array .byte)) ws (⟨7,4,60,150⟩ : Room) #[(.ref te)] h0 (fun v h L=>∃ b kb,v = some (.ref b)∧Fr Z.heap.size L∧Keep h0 h []∧h0.size≤b∧Arv Z h b kb .byte (Int32.ofNat (own_u8 cs).length) (own_u8 cs) (.int 0)) 4 60:=by
  refine own_bodyA (ef:=fun m=>mkF m 0 #[.val (.ref te)] []) (plainFor_of_name own_pn13) ?_
  intro p e s m below meth c T0 hx hZ hby hml hown hnm hret hlk X0 e0
  have N0:=Fr.nil Z.heap.size
  have z0 : Z.heap.size≤h0.size:=O0.2.1
  have Kr:=Keep.refl h0 []
  show gH (T0.setTop (mkF m 0 #[vr te] [])) ..
  refine oS (fun _=>XS.aloadN X0.here hx rfl (dE hby D36 0 rfl) rfl rfl) ?_
  obtain ⟨T1,X1,e1,st1⟩:=getF X0 hx hZ hown (host:="") (Or.inl (oW hw 33 rfl)) Via.refl e0 Ft (g:=(mkF m 1 #[vr te] [(.ref te)])) rfl rfl (dE hby D36 1 rfl)
  refine oS st1 ?_
  obtain ⟨_,T2,L2,X2,⟨a,t,kt,rfl,N2q,K2_,ga,gt,Hs,Et⟩,st2⟩:=own_cV X1 hx hZ hown (own_tsL l Z a0 hw [] sb bv kb cs w1 h0 O0 S1 hw1 hn HB) (oW hw 40 rfl) (oW hw 41 rfl) (oW hw 43 rfl) (oW hw 42 rfl) (own_clsP (y:=(⟨"java/lang/StringBuilder","toString","()Ljava/lang/String;"⟩ : MethodName)) (oW hw 43 rfl)) HB.1.1 (oW hw 16 rfl) (oW hw 44 rfl) (W:=0) (g:=(mkF m 4 #[vr te] [(.ref sb)])) rfl (by rw [hml]; rfl) (argsL:=[]) (rest:=[]) (lenOf own_pd36 rfl) rfl (dE hby D36 2 rfl) rfl e1 (by decide) (by decide)
  have N2:=Fr.app N0 N2q
  refine oS st2 ?_
  have z3:=K2_.1
  have O4:=Old.keep O0 K2_ all0
  have K5:=Kr.trans K2_ all0
  obtain ⟨T6,X6,e6,st6⟩:=getS2 X2 hx hZ hown (host:="") (Or.inl (oW hw 98 rfl)) Via.refl rfl (Sta.ext O4.2 SV) (g:=(mkF m 7 #[vr te] [(.ref a)])) rfl (dE hby D36 3 rfl)
  refine oS st6 ?_
  obtain ⟨_,T7,L7,X7,⟨b,kb',rfl,N7q,K7_,gb,Vb⟩,st7⟩:=own_cV X6 hx hZ hown (own_gbL l Z a0 hw [] a u8 t kt cs w1 T2.heap O4 S1 hw1 SU hn hr hu Et Hs) (oW hw 100 rfl) (oW hw 101 rfl) (oW hw 103 rfl) (oW hw 102 rfl) (own_clsP (y:=(⟨"java/lang/String","getBytes","(Ljava/nio/charset/Charset;)[B"⟩ : MethodName)) (oW hw 103 rfl)) Hs.1 (oW hw 28 rfl) (oW hw 104 rfl) (W:=0) (g:=(mkF m 10 #[vr te] [(.ref u8),(.ref a)])) rfl (by rw [hml]; rfl) (argsL:=[(.ref u8)]) (rest:=[]) (lenOf own_pd37 rfl) rfl (dE hby D36 4 rfl) rfl e6 (by decide) (by decide)
  have N7:=Fr.app N2 N7q
  refine oS st7 ?_
  have z8:=K7_.1
  have O9:=Old.keep O4 K7_ all0
  have K10:=K5.trans K7_ all0
  show gH (T7.setTop (mkF m 13 #[vr te] [(.ref b)])) ..
  exact own_retA X7 hx hret rfl rfl hlk (dE hby D36 5 rfl) ⟨b,kb',rfl,N7,K10,by omega,Vb⟩ (by decide) (by decide)
theorem own_encU (l:Launch) (Z:State) (a0:Array Value) (hw:∀ d∈tables_1,d.before a0 Z = true) (ws:List Jvm.Cond) (u8:Addr) (t:Addr) (kt:ClassId) (cs:List Int32) (h0:Heap) (O0:Old Z Z.heap.size h0) (SU:Sta Z Z.heap "sun/nio/cs/UTF_8" "INSTANCE" "Lsun/nio/cs/UTF_8;" (.ref u8)) (US:own_US Z) (hn:cs.length≤6) (hr:∀ c∈cs,0≤c.toInt∧c.toInt < 65536) (hwf:own_wf cs) (hu:(own_u8 cs).length < 2 * cs.length∧(own_u8 cs).length≤12) (Vt:Arv Z h0 t kt .byte (Int32.ofNat (2 * cs.length)) (own_U2 cs) (.int 0)) :
    own_Met l Z (⟨"java/lang/String","encode","(Ljava/nio/charset/Charset;B[B)[B"⟩ : MethodName) jdk_42_method_18_code 3 (some (.array .byte)) ws (⟨5,2,44,110⟩ : Room) #[(.ref u8),(.int 1),(.ref t)] h0 (fun v h L=>∃ b kb,v = some (.ref b)∧Fr Z.heap.size L∧Keep h0 h []∧h0.size≤b∧Arv Z h b kb .byte (Int32.ofNat (own_u8 cs).length) (own_u8 cs) (.int 0)) 2 44:=by
  refine own_bodyA (ef:=fun m=>mkF m 0 #[.val (.ref u8),.val (.int (1:Int32)),.val (.ref t)] []) (plainFor_of_name own_pn7) ?_
  intro p e s m below meth c T0 hx hZ hby hml hown hnm hret hlk X0 e0
  have N0:=Fr.nil Z.heap.size
  have Kr:=Keep.refl h0 []
  show gH (T0.setTop (mkF m 0 #[vr u8,vi 1,vr t] [])) ..
  refine oS (fun _=>XS.aloadN X0.here hx rfl (dE hby D34 0 rfl) rfl rfl) ?_
  obtain ⟨T1,X1,e1,st1⟩:=getS2 X0 hx hZ hown (host:="") (Or.inl (oW hw 114 rfl)) Via.refl e0 (Sta.ext O0.2 SU) (g:=(mkF m 1 #[vr u8,vi 1,vr t] [(.ref u8)])) rfl (dE hby D34 1 rfl)
  refine oS st1 ?_
  show gH (T1.setTop (mkF m 4 #[vr u8,vi 1,vr t] [(.ref u8),(.ref u8)])) ..
  refine oS (fun _=>Jvm.RoadKit.acmp (g:=(mkF m 4 #[vr u8,vi 1,vr t] [(.ref u8),(.ref u8)])) X1 hx rfl rfl rfl (pc0:=4) (pc':=7) (same:=true) rfl (dE hby D34 2 rfl) rfl (decide_eq_true rfl) (by decide) (by decide)) ?_
  refine oS (fun _=>XS.iloadN X1.here hx rfl (dE hby D34 3 rfl) rfl) ?_
  refine oS (fun _=>XS.aloadN X1.here hx rfl (dE hby D34 4 rfl) rfl rfl) ?_
  refine oS (fun _=>XS.iconst X1.here hx rfl (dE hby D34 5 rfl)) ?_
  obtain ⟨_,T2,L2,X2,⟨b,kb,rfl,N2q,K2_,gb,Vb⟩,st2⟩:=own_cS X1 hx hZ hown (own_elU l Z a0 hw [] t kt cs h0 O0 US hn hr hwf hu Vt) (oW hw 116 rfl) (oW hw 117 rfl) (oW hw 28 rfl) (oW hw 118 rfl) (W:=0) (g:=(mkF m 10 #[vr u8,vi 1,vr t] [(.int 1),(.ref t),(.int 1)])) rfl (by rw [hml]; rfl) (argsL:=[(.int 1),(.ref t),(.int 1)]) (rest:=[]) (lenOf own_pd33 rfl) rfl (dE hby D34 6 rfl) rfl e1 (by decide) (by decide)
  have N2:=Fr.app N0 N2q
  refine oS st2 ?_
  have z3:=K2_.1
  have O4:=Old.keep O0 K2_ all0
  have K5:=Kr.trans K2_ all0
  show gH (T2.setTop (mkF m 13 #[vr u8,vi 1,vr t] [(.ref b)])) ..
  exact own_retA X2 hx hret rfl rfl hlk (dE hby D34 7 rfl) ⟨b,kb,rfl,N2,K5,gb,Vb⟩ (by decide) (by decide)
theorem own_gbU (l:Launch) (Z:State) (a0:Array Value) (hw:∀ d∈tables_1,d.before a0 Z = true) (ws:List Jvm.Cond) (a1:Addr) (u8:Addr) (t:Addr) (kt:ClassId) (cs:List Int32) (w1:Int32) (h0:Heap) (O0:Old Z Z.heap.size h0) (S1:Sta Z Z.heap "java/lang/String" "COMPACT_STRINGS" "Z" (.int w1)) (hw1:¬ (w1 = (0:Int32))) (SU:Sta Z Z.heap "sun/nio/cs/UTF_8" "INSTANCE" "Lsun/nio/cs/UTF_8;" (.ref u8)) (US:own_US Z) (hn:cs.length≤6) (hr:∀ c∈cs,0≤c.toInt∧c.toInt < 65536) (hwf:own_wf cs) (hu:(own_u8 cs).length < 2 * cs.length∧(own_u8 cs).length≤12) (Hs:own_StU Z h0 a1 t kt cs) :
    own_Met l Z (⟨"java/lang/String","getBytes","(Ljava/nio/charset/Charset;)[B"⟩ : MethodName) jdk_42_method_64_code 2 (some (.array .byte)) ws (⟨6,2,44,130⟩ : Room) #[(.ref a1),(.ref u8)] h0 (fun v h L=>∃ b kb,v = some (.ref b)∧Fr Z.heap.size L∧Keep h0 h []∧h0.size≤b∧Arv Z h b kb .byte (Int32.ofNat (own_u8 cs).length) (own_u8 cs) (.int 0)) 2 44:=by
  refine own_bodyA (ef:=fun m=>mkF m 0 #[.val (.ref a1),.val (.ref u8)] []) (plainFor_of_name own_pn7) ?_
  intro p e s m below meth c T0 hx hZ hby hml hown hnm hret hlk X0 e0
  have N0:=Fr.nil Z.heap.size
  have Kr:=Keep.refl h0 []
  show gH (T0.setTop (mkF m 0 #[vr a1,vr u8] [])) ..
  refine oS (fun _=>XS.aloadN X0.here hx rfl (dE hby D35 0 rfl) rfl rfl) ?_
  refine oS (fun _=>XS.ifnonnullYes X0.here hx rfl (pc0:=1) (pc':=12) rfl (dE hby D35 1 rfl) rfl (by decide) (by decide)) ?_
  refine oS (fun _=>XS.aloadN X0.here hx rfl (dE hby D35 2 rfl) rfl rfl) ?_
  refine oS (fun _=>XS.aloadN X0.here hx rfl (dE hby D35 3 rfl) rfl rfl) ?_
  obtain ⟨_,T1,L1,X1,⟨rfl,N1q,eh1⟩,st1⟩:=own_cV X0 hx hZ hown (own_co1 l Z a0 hw [] a1 w1 h0 O0 S1 hw1 Hs.2.1) (oW hw 105 rfl) (oW hw 106 rfl) (oW hw 108 rfl) (oW hw 107 rfl) (own_clsP (y:=(⟨"java/lang/String","coder","()B"⟩ : MethodName)) (oW hw 108 rfl)) Hs.1 (oW hw 28 rfl) (oW hw 109 rfl) (W:=1) (g:=(mkF m 14 #[vr a1,vr u8] [(.ref a1),(.ref u8)])) rfl (by rw [hml]; rfl) (argsL:=[]) (rest:=[(.ref u8)]) (lenOf own_pd34 rfl) rfl (dE hby D35 4 rfl) rfl e0 (by decide) (by decide)
  have N1:=Fr.app N0 N1q
  refine oS st1 ?_
  show gH (T1.setTop (mkF m 17 #[vr a1,vr u8] [(.int 1),(.ref u8)])) ..
  refine oS (fun _=>XS.aloadN X1.here hx rfl (dE hby D35 5 rfl) rfl rfl) ?_
  obtain ⟨T2,X2,e2,st2⟩:=getF X1 hx hZ hown (host:="") (Or.inl (oW hw 96 rfl)) Via.refl eh1 Hs.2.2.1 (g:=(mkF m 18 #[vr a1,vr u8] [(.ref a1),(.int 1),(.ref u8)])) rfl rfl (dE hby D35 6 rfl)
  refine oS st2 ?_
  obtain ⟨_,T3,L3,X3,⟨b,kb,rfl,N3q,K3_,gb,Vb⟩,st3⟩:=own_cS X2 hx hZ hown (own_encU l Z a0 hw [] u8 t kt cs h0 O0 SU US hn hr hwf hu Hs.2.2.2) (oW hw 111 rfl) (oW hw 112 rfl) (oW hw 28 rfl) (oW hw 113 rfl) (W:=0) (g:=(mkF m 21 #[vr a1,vr u8] [(.ref t),(.int 1),(.ref u8)])) rfl (by rw [hml]; rfl) (argsL:=[(.ref u8),(.int 1),(.ref t)]) (rest:=[]) (lenOf own_pd35 rfl) rfl (dE hby D35 7 rfl) rfl e2 (by decide) (by decide)
  have N3:=Fr.app N1 N3q
  refine oS st3 ?_
  have z4:=K3_.1
  have O5:=Old.keep O0 K3_ all0
  have K6:=Kr.trans K3_ all0
  show gH (T3.setTop (mkF m 24 #[vr a1,vr u8] [(.ref b)])) ..
  exact own_retA X3 hx hret rfl rfl hlk (dE hby D35 8 rfl) ⟨b,kb,rfl,N3,K6,gb,Vb⟩ (by decide) (by decide)
theorem own_byU (l:Launch) (Z:State) (a0:Array Value) (hw:∀ d∈tables_1,d.before a0 Z = true) (ws:List Jvm.Cond) (te:Addr) (sb bv u8 : Addr) (kb:ClassId) (cs:List Int32) (w1:Int32) (h0:Heap) (O0:Old Z Z.heap.size h0) (S1:Sta Z Z.heap "java/lang/String" "COMPACT_STRINGS" "Z" (.int w1)) (hw1:¬ (w1 = (0:Int32))) (SU:Sta Z Z.heap "sun/nio/cs/UTF_8" "INSTANCE" "Lsun/nio/cs/UTF_8;" (.ref u8)) (SV:Sta Z Z.heap "java/nio/charset/StandardCharsets" "UTF_8" "Ljava/nio/charset/Charset;" (.ref u8)) (US:own_US Z) (hn:cs.length≤6) (hr:∀ c∈cs,0≤c.toInt∧c.toInt < 65536) (hwf:own_wf cs) (hu:(own_u8 cs).length < 2 * cs.length∧(own_u8 cs).length≤12) (Ft:Fld Z h0 te "com/example/sluse/sluse/TextExposition" "text" "Ljava/lang/StringBuilder;" (.ref sb)) (HB:own_SBU Z h0 sb bv kb cs) :
    own_Met l Z (⟨"com/example/sluse/sluse/TextExposition","bytes","()[B"⟩ : MethodName) prog_24_method_5_code 1 (some (.array .byte)) ws (⟨7,4,60,150⟩ : Room) #[(.ref te)] h0 (fun v h L=>∃ b kb,v = some (.ref b)∧Fr Z.heap.size L∧Keep h0 h []∧h0.size≤b∧Arv Z h b kb .byte (Int32.ofNat (own_u8 cs).length) (own_u8 cs) (.int 0)) 4 60:=by
  refine own_bodyA (ef:=fun m=>mkF m 0 #[.val (.ref te)] []) (plainFor_of_name own_pn13) ?_
  intro p e s m below meth c T0 hx hZ hby hml hown hnm hret hlk X0 e0
  have N0:=Fr.nil Z.heap.size
  have z0 : Z.heap.size≤h0.size:=O0.2.1
  have Kr:=Keep.refl h0 []
  show gH (T0.setTop (mkF m 0 #[vr te] [])) ..
  refine oS (fun _=>XS.aloadN X0.here hx rfl (dE hby D36 0 rfl) rfl rfl) ?_
  obtain ⟨T1,X1,e1,st1⟩:=getF X0 hx hZ hown (host:="") (Or.inl (oW hw 33 rfl)) Via.refl e0 Ft (g:=(mkF m 1 #[vr te] [(.ref te)])) rfl rfl (dE hby D36 1 rfl)
  refine oS st1 ?_
  obtain ⟨_,T2,L2,X2,⟨a,t,kt,rfl,N2q,K2_,ga,gt,Hs,Et⟩,st2⟩:=own_cV X1 hx hZ hown (own_tsU l Z a0 hw [] sb bv kb cs w1 h0 O0 S1 hw1 hn HB) (oW hw 40 rfl) (oW hw 41 rfl) (oW hw 43 rfl) (oW hw 42 rfl) (own_clsP (y:=(⟨"java/lang/StringBuilder","toString","()Ljava/lang/String;"⟩ : MethodName)) (oW hw 43 rfl)) HB.1.1 (oW hw 16 rfl) (oW hw 44 rfl) (W:=0) (g:=(mkF m 4 #[vr te] [(.ref sb)])) rfl (by rw [hml]; rfl) (argsL:=[]) (rest:=[]) (lenOf own_pd36 rfl) rfl (dE hby D36 2 rfl) rfl e1 (by decide) (by decide)
  have N2:=Fr.app N0 N2q
  refine oS st2 ?_
  have z3:=K2_.1
  have O4:=Old.keep O0 K2_ all0
  have K5:=Kr.trans K2_ all0
  obtain ⟨T6,X6,e6,st6⟩:=getS2 X2 hx hZ hown (host:="") (Or.inl (oW hw 98 rfl)) Via.refl rfl (Sta.ext O4.2 SV) (g:=(mkF m 7 #[vr te] [(.ref a)])) rfl (dE hby D36 3 rfl)
  refine oS st6 ?_
  obtain ⟨_,T7,L7,X7,⟨b,kb',rfl,N7q,K7_,gb,Vb⟩,st7⟩:=own_cV X6 hx hZ hown (own_gbU l Z a0 hw [] a u8 t kt cs w1 T2.heap O4 S1 hw1 SU US hn hr hwf hu Hs) (oW hw 100 rfl) (oW hw 101 rfl) (oW hw 103 rfl) (oW hw 102 rfl) (own_clsP (y:=(⟨"java/lang/String","getBytes","(Ljava/nio/charset/Charset;)[B"⟩ : MethodName)) (oW hw 103 rfl)) Hs.1 (oW hw 28 rfl) (oW hw 104 rfl) (W:=0) (g:=(mkF m 10 #[vr te] [(.ref u8),(.ref a)])) rfl (by rw [hml]; rfl) (argsL:=[(.ref u8)]) (rest:=[]) (lenOf own_pd37 rfl) rfl (dE hby D36 4 rfl) rfl e6 (by decide) (by decide)
  have N7:=Fr.app N2 N7q
  refine oS st7 ?_
  have z8:=K7_.1
  have O9:=Old.keep O4 K7_ all0
  have K10:=K5.trans K7_ all0
  show gH (T7.setTop (mkF m 13 #[vr te] [(.ref b)])) ..
  exact own_retA X7 hx hret rfl rfl hlk (dE hby D36 5 rfl) ⟨b,kb',rfl,N7,K10,by omega,Vb⟩ (by decide) (by decide)
def L37 : List (Nat × Instr × Nat):=[(0,.aload_n 0,1),(1,.getfield 9,3),(4,.arraylength,1),(5,.aload_n 0,1),(6,.invokevirtual 335,3),(9,.ishr,1),(10,.ireturn,1)]
theorem D37 : ∀ q∈L37,decode jdk_42_method_54_code q.1 = .ok q.2:=by decide +kernel
theorem own_lenL (l:Launch) (Z:State) (a0:Array Value) (hw:∀ d∈tables_1,d.before a0 Z = true) (ws:List Jvm.Cond) (a1:Addr) (t:Addr) (kt:ClassId) (es:List Int32) (w1:Int32) (h0:Heap) (O0:Old Z Z.heap.size h0) (S1:Sta Z Z.heap "java/lang/String" "COMPACT_STRINGS" "Z" (.int w1)) (hw1:¬ (w1 = (0:Int32))) (he:es.length≤100) (Hs:own_StL Z h0 a1 t kt es) :
    own_Met l Z (⟨"java/lang/String","length","()I"⟩ : MethodName) jdk_42_method_54_code 1 (some .int) ws (⟨1,0,0,14⟩ : Room) #[(.ref a1)] h0 (fun v h L=>v = some (.int (.ofNat es.length))∧Fr Z.heap.size L∧h = h0) 0 0:=by
  refine own_bodyA (ef:=fun m=>mkF m 0 #[.val (.ref a1)] []) (plainFor_of_name own_pn7) ?_
  intro p e s m below meth c T0 hx hZ hby hml hown hnm hret hlk X0 e0
  have N0:=Fr.nil Z.heap.size
  have z0 : Z.heap.size≤h0.size:=O0.2.1
  show gH (T0.setTop (mkF m 0 #[vr a1] [])) ..
  refine oS (fun _=>XS.aloadN X0.here hx rfl (dE hby D37 0 rfl) rfl rfl) ?_
  obtain ⟨T1,X1,e1,st1⟩:=getF X0 hx hZ hown (host:="") (Or.inl (oW hw 96 rfl)) Via.refl e0 Hs.2.2.1 (g:=(mkF m 1 #[vr a1] [(.ref a1)])) rfl rfl (dE hby D37 1 rfl)
  refine oS st1 ?_
  show gH (T1.setTop (mkF m 4 #[vr a1] [(.ref t)])) ..
  obtain ⟨cl2,Ar2,qk2,Sz2,Mz2,Hz2,Uz2⟩:=id Hs.2.2.2
  refine oS (X1.arraylength hx (by rw [e1]; exact Ar2.1) (State.isArrayOf_alike hZ.alike Ar2.2.1) (g:=(mkF m 4 #[vr a1] [(.ref t)])) rfl rfl (dE hby D37 2 rfl)) ?_
  rw [len_of Sz2 Mz2]
  show gH (T1.setTop (mkF m 5 #[vr a1] [(.int (.ofNat es.length))])) ..
  refine oS (fun _=>XS.aloadN X1.here hx rfl (dE hby D37 3 rfl) rfl rfl) ?_
  obtain ⟨_,T3,L3,X3,⟨rfl,N3q,eh3⟩,st3⟩:=own_cV X1 hx hZ hown (own_co0 l Z a0 hw [] a1 w1 h0 O0 S1 hw1 Hs.2.1) (oW hw 105 rfl) (oW hw 106 rfl) (oW hw 108 rfl) (oW hw 107 rfl) (own_clsP (y:=(⟨"java/lang/String","coder","()B"⟩ : MethodName)) (oW hw 108 rfl)) Hs.1 (oW hw 28 rfl) (oW hw 109 rfl) (W:=1) (g:=(mkF m 6 #[vr a1] [(.ref a1),(.int (.ofNat es.length))])) rfl (by rw [hml]; rfl) (argsL:=[]) (rest:=[(.int (.ofNat es.length))]) (lenOf own_pd34 rfl) rfl (dE hby D37 4 rfl) rfl e1 (by decide) (by decide)
  have N3:=Fr.app N0 N3q
  refine oS st3 ?_
  show gH (T3.setTop (mkF m 9 #[vr a1] [(.int 0),(.int (.ofNat es.length))])) ..
  refine oS (fun _=>XS.ishr X3.here hx rfl (dE hby D37 5 rfl) rfl) ?_
  show gH (T3.setTop (mkF m 10 #[vr a1] [(.int ((Int32.ofNat es.length)>>>((0:Int32)&&&31)))])) ..
  exact own_retI X3 hx hret hlk (dE hby D37 6 rfl) (by rw [eh3]; exact ⟨by rw [own_shr0 (by omega)],N3,rfl⟩) (by decide) (by decide)
theorem own_lenU (l:Launch) (Z:State) (a0:Array Value) (hw:∀ d∈tables_1,d.before a0 Z = true) (ws:List Jvm.Cond) (a1:Addr) (t:Addr) (kt:ClassId) (es:List Int32) (w1:Int32) (h0:Heap) (O0:Old Z Z.heap.size h0) (S1:Sta Z Z.heap "java/lang/String" "COMPACT_STRINGS" "Z" (.int w1)) (hw1:¬ (w1 = (0:Int32))) (he:es.length≤100) (Hs:own_StU Z h0 a1 t kt es) :
    own_Met l Z (⟨"java/lang/String","length","()I"⟩ : MethodName) jdk_42_method_54_code 1 (some .int) ws (⟨1,0,0,14⟩ : Room) #[(.ref a1)] h0 (fun v h L=>v = some (.int (.ofNat es.length))∧Fr Z.heap.size L∧h = h0) 0 0:=by
  refine own_bodyA (ef:=fun m=>mkF m 0 #[.val (.ref a1)] []) (plainFor_of_name own_pn7) ?_
  intro p e s m below meth c T0 hx hZ hby hml hown hnm hret hlk X0 e0
  have N0:=Fr.nil Z.heap.size
  have z0 : Z.heap.size≤h0.size:=O0.2.1
  show gH (T0.setTop (mkF m 0 #[vr a1] [])) ..
  refine oS (fun _=>XS.aloadN X0.here hx rfl (dE hby D37 0 rfl) rfl rfl) ?_
  obtain ⟨T1,X1,e1,st1⟩:=getF X0 hx hZ hown (host:="") (Or.inl (oW hw 96 rfl)) Via.refl e0 Hs.2.2.1 (g:=(mkF m 1 #[vr a1] [(.ref a1)])) rfl rfl (dE hby D37 1 rfl)
  refine oS st1 ?_
  show gH (T1.setTop (mkF m 4 #[vr a1] [(.ref t)])) ..
  obtain ⟨cl2,Ar2,qk2,Sz2,Mz2,Hz2,Uz2⟩:=id Hs.2.2.2
  refine oS (X1.arraylength hx (by rw [e1]; exact Ar2.1) (State.isArrayOf_alike hZ.alike Ar2.2.1) (g:=(mkF m 4 #[vr a1] [(.ref t)])) rfl rfl (dE hby D37 2 rfl)) ?_
  rw [len_of Sz2 Mz2]
  show gH (T1.setTop (mkF m 5 #[vr a1] [(.int (.ofNat (2 * es.length)))])) ..
  refine oS (fun _=>XS.aloadN X1.here hx rfl (dE hby D37 3 rfl) rfl rfl) ?_
  obtain ⟨_,T3,L3,X3,⟨rfl,N3q,eh3⟩,st3⟩:=own_cV X1 hx hZ hown (own_co1 l Z a0 hw [] a1 w1 h0 O0 S1 hw1 Hs.2.1) (oW hw 105 rfl) (oW hw 106 rfl) (oW hw 108 rfl) (oW hw 107 rfl) (own_clsP (y:=(⟨"java/lang/String","coder","()B"⟩ : MethodName)) (oW hw 108 rfl)) Hs.1 (oW hw 28 rfl) (oW hw 109 rfl) (W:=1) (g:=(mkF m 6 #[vr a1] [(.ref a1),(.int (.ofNat (2 * es.length)))])) rfl (by rw [hml]; rfl) (argsL:=[]) (rest:=[(.int (.ofNat (2 * es.length)))]) (lenOf own_pd34 rfl) rfl (dE hby D37 4 rfl) rfl e1 (by decide) (by decide)
  have N3:=Fr.app N0 N3q
  refine oS st3 ?_
  show gH (T3.setTop (mkF m 9 #[vr a1] [(.int 1),(.int (.ofNat (2 * es.length)))])) ..
  refine oS (fun _=>XS.ishr X3.here hx rfl (dE hby D37 5 rfl) rfl) ?_
  show gH (T3.setTop (mkF m 10 #[vr a1] [(.int ((Int32.ofNat (2 * es.length))>>>((1:Int32)&&&31)))])) ..
  exact own_retI X3 hx hret hlk (dE hby D37 6 rfl) (by rw [eh3]; exact ⟨by rw [own_shr1 (by omega)],N3,rfl⟩) (by decide) (by decide)
theorem own_cap {k:Nat} (h:k≤16) : ¬ (0:Int32) < Int32.ofNat k - Int32.ofNat 16:=by
  have h1:=c_isub (Int32.ofNat k) (Int32.ofNat 16)
  have h2:=rng32 (Int32.ofNat k - Int32.ofNat 16)
  rw [own_nat (by omega),own_nat (by decide)] at h1
  rw [Int32.lt_iff_toInt_lt,show (0:Int32).toInt = 0 from rfl]
  omega
theorem own_cfi : ∀ (k:Fin 15) (m:Fin 3),¬ ((Int32.ofNat 16|||Int32.ofNat k.1)|||Int32.ofNat m.1) < (0:Int32):=by decide
theorem own_cfi2 : ∀ (k:Fin 15) (m:Fin 3),¬ Int32.ofNat 16 - Int32.ofNat k.1 < Int32.ofNat m.1:=by decide
def L38 : List (Nat × Instr × Nat):=[(0,.aload_n 0,1),(1,.getfield 15,3),(4,.arraylength,1),(5,.aload_n 0,1),(6,.getfield 22,3),(9,.ishr,1),(10,.istore_n 2,1),(11,.iload_n 1,1),(12,.iload_n 2,1),(13,.isub,1),(14,.ifCond .le 24,3),(38,.return_,1)]
theorem D38 : ∀ q∈L38,decode jdk_68_method_9_code q.1 = .ok q.2:=by decide +kernel
theorem own_ens0 (l:Launch) (Z:State) (a0:Array Value) (hw:∀ d∈tables_1,d.before a0 Z = true) (ws:List Jvm.Cond) (sb:Addr) (k1:Nat) (bv:Addr) (kb:ClassId) (vs:List Value) (h0:Heap) (O0:Old Z Z.heap.size h0) (hk:k1≤16) (Fv:Fld Z h0 sb "java/lang/AbstractStringBuilder" "value" "[B" (.ref bv)) (Fc:Fld Z h0 sb "java/lang/AbstractStringBuilder" "coder" "B" (.int 0)) (Vb:Arv Z h0 bv kb .byte (Int32.ofNat 16) vs (.int 0)) :
    own_Met l Z (⟨"java/lang/AbstractStringBuilder","ensureCapacityInternal","(I)V"⟩ : MethodName) jdk_68_method_9_code 3 none ws (⟨0,0,0,0⟩ : Room) #[(.ref sb),(.int (.ofNat k1))] h0 (fun v h L=>v = none∧Fr Z.heap.size L∧h = h0) 0 0:=by
  refine own_bodyA (ef:=fun m=>mkF m 0 #[.val (.ref sb),.val (.int (Int32.ofNat k1)),.unset] []) (plainFor_of_name own_pn10) ?_
  intro p e s m below meth c T0 hx hZ hby hml hown hnm hret hlk X0 e0
  have N0:=Fr.nil Z.heap.size
  show gH (T0.setTop (mkF m 0 #[vr sb,vi (.ofNat k1),.unset] [])) ..
  refine oS (fun _=>XS.aloadN X0.here hx rfl (dE hby D38 0 rfl) rfl rfl) ?_
  obtain ⟨T1,X1,e1,st1⟩:=getF X0 hx hZ hown (host:="") (Or.inl (oW hw 29 rfl)) Via.refl e0 Fv (g:=(mkF m 1 #[vr sb,vi (.ofNat k1),.unset] [(.ref sb)])) rfl rfl (dE hby D38 1 rfl)
  refine oS st1 ?_
  show gH (T1.setTop (mkF m 4 #[vr sb,vi (.ofNat k1),.unset] [(.ref bv)])) ..
  obtain ⟨cl2,Ar2,qk2,Sz2,Mz2,Hz2,Uz2⟩:=id Vb
  refine oS (X1.arraylength hx (by rw [e1]; exact Ar2.1) (State.isArrayOf_alike hZ.alike Ar2.2.1) (g:=(mkF m 4 #[vr sb,vi (.ofNat k1),.unset] [(.ref bv)])) rfl rfl (dE hby D38 2 rfl)) ?_
  rw [len_of Sz2 Mz2]
  show gH (T1.setTop (mkF m 5 #[vr sb,vi (.ofNat k1),.unset] [(.int (.ofNat 16))])) ..
  refine oS (fun _=>XS.aloadN X1.here hx rfl (dE hby D38 3 rfl) rfl rfl) ?_
  obtain ⟨T3,X3,e3,st3⟩:=getF X1 hx hZ hown (host:="") (Or.inl (oW hw 31 rfl)) Via.refl e1 Fc (g:=(mkF m 6 #[vr sb,vi (.ofNat k1),.unset] [(.ref sb),(.int (.ofNat 16))])) rfl rfl (dE hby D38 4 rfl)
  refine oS st3 ?_
  show gH (T3.setTop (mkF m 9 #[vr sb,vi (.ofNat k1),.unset] [(.int 0),(.int (.ofNat 16))])) ..
  refine oS (fun _=>XS.ishr X3.here hx rfl (dE hby D38 5 rfl) rfl) ?_
  show gH (T3.setTop (mkF m 10 #[vr sb,vi (.ofNat k1),.unset] [(.int ((Int32.ofNat 16)>>>((0:Int32)&&&31)))])) ..
  rw [(show Int32.ofNat 16>>>((0:Int32)&&&31) = Int32.ofNat 16 from by decide)]
  show gH (T3.setTop (mkF m 10 #[vr sb,vi (.ofNat k1),.unset] [(.int (.ofNat 16))])) ..
  refine oS (fun _=>XS.istoreN X3.here hx rfl (dE hby D38 6 rfl) rfl (l':=#[vr sb,vi (.ofNat k1),vi (.ofNat 16)]) rfl) ?_
  refine oS (fun _=>XS.iloadN X3.here hx rfl (dE hby D38 7 rfl) rfl) ?_
  refine oS (fun _=>XS.iloadN X3.here hx rfl (dE hby D38 8 rfl) rfl) ?_
  refine oS (fun _=>XS.isub X3.here hx rfl (dE hby D38 9 rfl) rfl) ?_
  refine oS (fun _=>XS.ifYes X3.here hx rfl (pc0:=14) (pc':=38) rfl (dE hby D38 10 rfl) rfl ((if0 _ _).trans (flt (own_cap hk)).2.2.2) (by decide) (by decide)) ?_
  show gH (T3.setTop (mkF m 38 #[vr sb,vi (.ofNat k1),vi (.ofNat 16)] [])) ..
  exact own_ret0 X3 hx hret hlk (dE hby D38 11 rfl) (by rw [e3]; exact ⟨rfl,N0,rfl⟩) (by decide) (by decide)
theorem own_ens1 (l:Launch) (Z:State) (a0:Array Value) (hw:∀ d∈tables_1,d.before a0 Z = true) (ws:List Jvm.Cond) (sb:Addr) (k1:Nat) (bv:Addr) (kb:ClassId) (vs:List Value) (h0:Heap) (O0:Old Z Z.heap.size h0) (hk:k1≤16) (Fv:Fld Z h0 sb "java/lang/AbstractStringBuilder" "value" "[B" (.ref bv)) (Fc:Fld Z h0 sb "java/lang/AbstractStringBuilder" "coder" "B" (.int 1)) (Vb:Arv Z h0 bv kb .byte (Int32.ofNat 32) vs (.int 0)) :
    own_Met l Z (⟨"java/lang/AbstractStringBuilder","ensureCapacityInternal","(I)V"⟩ : MethodName) jdk_68_method_9_code 3 none ws (⟨0,0,0,0⟩ : Room) #[(.ref sb),(.int (.ofNat k1))] h0 (fun v h L=>v = none∧Fr Z.heap.size L∧h = h0) 0 0:=by
  refine own_bodyA (ef:=fun m=>mkF m 0 #[.val (.ref sb),.val (.int (Int32.ofNat k1)),.unset] []) (plainFor_of_name own_pn10) ?_
  intro p e s m below meth c T0 hx hZ hby hml hown hnm hret hlk X0 e0
  have N0:=Fr.nil Z.heap.size
  show gH (T0.setTop (mkF m 0 #[vr sb,vi (.ofNat k1),.unset] [])) ..
  refine oS (fun _=>XS.aloadN X0.here hx rfl (dE hby D38 0 rfl) rfl rfl) ?_
  obtain ⟨T1,X1,e1,st1⟩:=getF X0 hx hZ hown (host:="") (Or.inl (oW hw 29 rfl)) Via.refl e0 Fv (g:=(mkF m 1 #[vr sb,vi (.ofNat k1),.unset] [(.ref sb)])) rfl rfl (dE hby D38 1 rfl)
  refine oS st1 ?_
  show gH (T1.setTop (mkF m 4 #[vr sb,vi (.ofNat k1),.unset] [(.ref bv)])) ..
  obtain ⟨cl2,Ar2,qk2,Sz2,Mz2,Hz2,Uz2⟩:=id Vb
  refine oS (X1.arraylength hx (by rw [e1]; exact Ar2.1) (State.isArrayOf_alike hZ.alike Ar2.2.1) (g:=(mkF m 4 #[vr sb,vi (.ofNat k1),.unset] [(.ref bv)])) rfl rfl (dE hby D38 2 rfl)) ?_
  rw [len_of Sz2 Mz2]
  show gH (T1.setTop (mkF m 5 #[vr sb,vi (.ofNat k1),.unset] [(.int (.ofNat 32))])) ..
  refine oS (fun _=>XS.aloadN X1.here hx rfl (dE hby D38 3 rfl) rfl rfl) ?_
  obtain ⟨T3,X3,e3,st3⟩:=getF X1 hx hZ hown (host:="") (Or.inl (oW hw 31 rfl)) Via.refl e1 Fc (g:=(mkF m 6 #[vr sb,vi (.ofNat k1),.unset] [(.ref sb),(.int (.ofNat 32))])) rfl rfl (dE hby D38 4 rfl)
  refine oS st3 ?_
  show gH (T3.setTop (mkF m 9 #[vr sb,vi (.ofNat k1),.unset] [(.int 1),(.int (.ofNat 32))])) ..
  refine oS (fun _=>XS.ishr X3.here hx rfl (dE hby D38 5 rfl) rfl) ?_
  show gH (T3.setTop (mkF m 10 #[vr sb,vi (.ofNat k1),.unset] [(.int ((Int32.ofNat 32)>>>((1:Int32)&&&31)))])) ..
  rw [(show Int32.ofNat 32>>>((1:Int32)&&&31) = Int32.ofNat 16 from by decide)]
  show gH (T3.setTop (mkF m 10 #[vr sb,vi (.ofNat k1),.unset] [(.int (.ofNat 16))])) ..
  refine oS (fun _=>XS.istoreN X3.here hx rfl (dE hby D38 6 rfl) rfl (l':=#[vr sb,vi (.ofNat k1),vi (.ofNat 16)]) rfl) ?_
  refine oS (fun _=>XS.iloadN X3.here hx rfl (dE hby D38 7 rfl) rfl) ?_
  refine oS (fun _=>XS.iloadN X3.here hx rfl (dE hby D38 8 rfl) rfl) ?_
  refine oS (fun _=>XS.isub X3.here hx rfl (dE hby D38 9 rfl) rfl) ?_
  refine oS (fun _=>XS.ifYes X3.here hx rfl (pc0:=14) (pc':=38) rfl (dE hby D38 10 rfl) rfl ((if0 _ _).trans (flt (own_cap hk)).2.2.2) (by decide) (by decide)) ?_
  show gH (T3.setTop (mkF m 38 #[vr sb,vi (.ofNat k1),vi (.ofNat 16)] [])) ..
  exact own_ret0 X3 hx hret hlk (dE hby D38 11 rfl) (by rw [e3]; exact ⟨rfl,N0,rfl⟩) (by decide) (by decide)
theorem own_putC (l:Launch) (Z:State) (a0:Array Value) (hw:∀ d∈tables_1,d.before a0 Z = true) (ws:List Jvm.Cond) (a1:Addr) (c1:Int32) (i:Nat) (vs:List Value) (kb:ClassId) (h0:Heap) (O0:Old Z Z.heap.size h0) (US:own_US Z) (hi:i < 16) (g1:Z.heap.size≤a1) (hl:vs.length = 2 * i) (V1:Arv Z h0 a1 kb .byte (Int32.ofNat 32) vs (.int 0)) :
    own_Met l Z (⟨"java/lang/StringUTF16","putChar","([BII)V"⟩ : MethodName) jdk_52_method_4_code 3 none ws (⟨0,0,0,0⟩ : Room) #[(.ref a1),(.int (.ofNat i)),(.int c1)] h0 (fun v h L=>v = none∧Fr Z.heap.size L∧Keep h0 h [a1]∧Arv Z h a1 kb .byte (Int32.ofNat 32) (vs++[.int (own_b0 c1),.int (own_b1 c1)]) (.int 0)) 0 0:=by
  refine own_bodyA (ef:=fun m=>mkF m 0 #[.val (.ref a1),.val (.int (Int32.ofNat i)),.val (.int c1)] []) (plainFor_of_name own_pn0) ?_
  intro p e s m below meth c T0 hx hZ hby hml hown hnm hret hlk X0 e0
  have N0:=Fr.nil Z.heap.size
  have z0 : Z.heap.size≤h0.size:=O0.2.1
  have Kr:=Keep.refl h0 [a1]
  show gH (T0.setTop (mkF m 0 #[vr a1,vi (.ofNat i),vi c1] [])) ..
  obtain ⟨U1,U2,U3⟩:=US
  have lta:=oL V1.lt
  obtain ⟨T1,X1,e1,st1⟩:=getS2 X0 hx hZ hown (host:="") (Or.inl (oW hw 163 rfl)) Via.refl e0 (Sta.ext O0.2 U1) (g:=(mkF m 0 #[vr a1,vi (.ofNat i),vi c1] [])) rfl (dE hby D1 0 rfl)
  refine oS st1 ?_
  show gH (T1.setTop (mkF m 3 #[vr a1,vi (.ofNat i),vi c1] [(.int 1)])) ..
  refine oS (fun _=>XS.ifYes X1.here hx rfl (pc0:=3) (pc':=28) rfl (dE hby D1 1 rfl) rfl ((if0 _ _).trans (feq (by decide)).2) (by decide) (by decide)) ?_
  refine oS (fun _=>XS.iloadN X1.here hx rfl (dE hby D1 2 rfl) rfl) ?_
  refine oS (fun _=>XS.iconst X1.here hx rfl (dE hby D1 3 rfl)) ?_
  refine oS (fun _=>XS.ishl X1.here hx rfl (dE hby D1 4 rfl) rfl) ?_
  show gH (T1.setTop (mkF m 31 #[vr a1,vi (.ofNat i),vi c1] [(.int ((Int32.ofNat i)<<<((1:Int32)&&&31)))])) ..
  rw [own_shl1 (by omega)]
  show gH (T1.setTop (mkF m 31 #[vr a1,vi (.ofNat i),vi c1] [(.int (.ofNat (2 * i)))])) ..
  refine oS (fun _=>XS.istoreN X1.here hx rfl (dE hby D1 5 rfl) rfl (l':=#[vr a1,vi (.ofNat (2 * i)),vi c1]) rfl) ?_
  refine oS (fun _=>XS.aloadN X1.here hx rfl (dE hby D1 6 rfl) rfl rfl) ?_
  refine oS (fun _=>XS.iloadN X1.here hx rfl (dE hby D1 7 rfl) rfl) ?_
  refine oS (fun _=>XS.iinc X1.here hx rfl (dE hby D1 8 rfl) rfl (l':=#[vr a1,vi ((Int32.ofNat (2 * i))+(1:Int32)),vi c1]) rfl) ?_
  refine oS (fun _=>XS.iloadN X1.here hx rfl (dE hby D1 9 rfl) rfl) ?_
  obtain ⟨T2,X2,e2,st2⟩:=getS2 X1 hx hZ hown (host:="") (Or.inl (oW hw 164 rfl)) Via.refl e1 (Sta.ext O0.2 U2) (g:=(mkF m 38 #[vr a1,vi ((Int32.ofNat (2 * i))+(1:Int32)),vi c1] [(.int c1),(.int (.ofNat (2 * i))),(.ref a1)])) rfl (dE hby D1 10 rfl)
  refine oS st2 ?_
  show gH (T2.setTop (mkF m 41 #[vr a1,vi ((Int32.ofNat (2 * i))+(1:Int32)),vi c1] [(.int 0),(.int c1),(.int (.ofNat (2 * i))),(.ref a1)])) ..
  refine oS (fun _=>XS.ishr X2.here hx rfl (dE hby D1 11 rfl) rfl) ?_
  refine oS (fun _=>XS.i2b X2.here hx rfl (dE hby D1 12 rfl) rfl) ?_
  have V3p : Arv Z h0 a1 kb .byte (Int32.ofNat 32) (vs++[(.int 0)]) (.int 0):=V1.pad (pad_rep vs (.int 0) 1)
  obtain ⟨cl4,Ar4,qk4,Sz4,Mz4,Hz4,Uz4⟩:=id V3p
  obtain ⟨T5,h5,X5,e5,W5,st5⟩:=stB X2 hx hZ e2 Ar4 (j:=(Int32.ofNat (2 * i))) (oI (i:=2 * i) (n:=32) Sz4 (by omega) (by decide)) (g:=(mkF m 43 #[vr a1,vi ((Int32.ofNat (2 * i))+(1:Int32)),vi c1] [(.int ((c1>>>((0:Int32)&&&31)).toInt8.toInt32)),(.int (.ofNat (2 * i))),(.ref a1)])) rfl rfl (dE hby D1 13 rfl)
  refine oS st5 ?_
  have V5:=Arv.set Ar4 qk4 Sz4 Mz4 Hz4 Uz4 (fits_nar_byte _) W5 (vs:List Value).length (by rw [oC (by omega)]; omega) (by simp)
  have z6:=W5.size
  have O7:=Old.wr O0 W5 (by omega)
  have K8:=Kr.wr W5 (Or.inl (by simp))
  have N5:=Fr.snoc X5 N0 (by omega : Z.heap.size≤a1)
  have V5' : Arv Z h5 a1 kb .byte (Int32.ofNat 32) (vs++[.int (own_b0 c1)]) (.int 0):=by have q:=V5; rw [own_set] at q; exact q
  show gH (T5.setTop (mkF m 44 #[vr a1,vi ((Int32.ofNat (2 * i))+(1:Int32)),vi c1] [])) ..
  rw [oO]
  show gH (T5.setTop (mkF m 44 #[vr a1,vi (.ofNat (2 * i+1)),vi c1] [])) ..
  refine oS (fun _=>XS.aloadN X5.here hx rfl (dE hby D1 14 rfl) rfl rfl) ?_
  refine oS (fun _=>XS.iloadN X5.here hx rfl (dE hby D1 15 rfl) rfl) ?_
  refine oS (fun _=>XS.iloadN X5.here hx rfl (dE hby D1 16 rfl) rfl) ?_
  obtain ⟨T9,X9,e9,st9⟩:=getS2 X5 hx hZ hown (host:="") (Or.inl (oW hw 165 rfl)) Via.refl e5 (Sta.ext O7.2 U3) (g:=(mkF m 47 #[vr a1,vi (.ofNat (2 * i+1)),vi c1] [(.int c1),(.int (.ofNat (2 * i+1))),(.ref a1)])) rfl (dE hby D1 17 rfl)
  refine oS st9 ?_
  show gH (T9.setTop (mkF m 50 #[vr a1,vi (.ofNat (2 * i+1)),vi c1] [(.int 8),(.int c1),(.int (.ofNat (2 * i+1))),(.ref a1)])) ..
  refine oS (fun _=>XS.ishr X9.here hx rfl (dE hby D1 18 rfl) rfl) ?_
  refine oS (fun _=>XS.i2b X9.here hx rfl (dE hby D1 19 rfl) rfl) ?_
  have V10p : Arv Z h5 a1 kb .byte (Int32.ofNat 32) ((vs++[.int (own_b0 c1)])++[(.int 0)]) (.int 0):=V5'.pad (pad_rep (vs++[.int (own_b0 c1)]) (.int 0) 1)
  obtain ⟨cl11,Ar11,qk11,Sz11,Mz11,Hz11,Uz11⟩:=id V10p
  obtain ⟨T12,h12,X12,e12,W12,st12⟩:=stB X9 hx hZ e9 Ar11 (j:=(Int32.ofNat (2 * i+1))) (oI (i:=2 * i+1) (n:=32) Sz11 (by omega) (by decide)) (g:=(mkF m 52 #[vr a1,vi (.ofNat (2 * i+1)),vi c1] [(.int ((c1>>>((8:Int32)&&&31)).toInt8.toInt32)),(.int (.ofNat (2 * i+1))),(.ref a1)])) rfl rfl (dE hby D1 20 rfl)
  refine oS st12 ?_
  have V12:=Arv.set Ar11 qk11 Sz11 Mz11 Hz11 Uz11 (fits_nar_byte _) W12 (vs++[.int (own_b0 c1)] : List Value).length (by rw [oC (by omega),List.length_append]; show _ = _+1; omega) (by simp)
  have z13:=W12.size
  have O14:=Old.wr O7 W12 (by omega)
  have K15:=K8.wr W12 (Or.inl (by simp))
  have N12:=Fr.snoc X12 N5 (by omega : Z.heap.size≤a1)
  have V12' : Arv Z h12 a1 kb .byte (Int32.ofNat 32) (vs++[.int (own_b0 c1),.int (own_b1 c1)]) (.int 0):=by have q:=V12; rw [own_set,List.append_assoc] at q; exact q
  show gH (T12.setTop (mkF m 53 #[vr a1,vi (.ofNat (2 * i+1)),vi c1] [])) ..
  exact own_ret0 X12 hx hret hlk (dE hby D1 21 rfl) (by rw [e12]; exact ⟨rfl,N12,K15,V12'⟩) (by decide) (by decide)
def L39 : List (Nat × Instr × Nat):=[(0,.aload_n 0,1),(1,.arraylength,1),(2,.iconst 1,1),(3,.ishr,1),(4,.ireturn,1)]
theorem D39 : ∀ q∈L39,decode jdk_52_method_6_code q.1 = .ok q.2:=by decide +kernel
theorem own_ulen (l:Launch) (Z:State) (a0:Array Value) (hw:∀ d∈tables_1,d.before a0 Z = true) (ws:List Jvm.Cond) (a1:Addr) (vs:List Value) (kb:ClassId) (h0:Heap) (O0:Old Z Z.heap.size h0) (V1:Arv Z h0 a1 kb .byte (Int32.ofNat 32) vs (.int 0)) :
    own_Met l Z (⟨"java/lang/StringUTF16","length","([B)I"⟩ : MethodName) jdk_52_method_6_code 1 (some .int) ws (⟨0,0,0,0⟩ : Room) #[(.ref a1)] h0 (fun v h L=>v = some (.int (.ofNat 16))∧Fr Z.heap.size L∧h = h0) 0 0:=by
  refine own_bodyA (ef:=fun m=>mkF m 0 #[.val (.ref a1)] []) (plainFor_of_name own_pn0) ?_
  intro p e s m below meth c T0 hx hZ hby hml hown hnm hret hlk X0 e0
  have N0:=Fr.nil Z.heap.size
  show gH (T0.setTop (mkF m 0 #[vr a1] [])) ..
  refine oS (fun _=>XS.aloadN X0.here hx rfl (dE hby D39 0 rfl) rfl rfl) ?_
  show gH (T0.setTop (mkF m 1 #[vr a1] [(.ref a1)])) ..
  obtain ⟨cl1,Ar1,qk1,Sz1,Mz1,Hz1,Uz1⟩:=id V1
  refine oS (X0.arraylength hx (by rw [e0]; exact Ar1.1) (State.isArrayOf_alike hZ.alike Ar1.2.1) (g:=(mkF m 1 #[vr a1] [(.ref a1)])) rfl rfl (dE hby D39 1 rfl)) ?_
  rw [len_of Sz1 Mz1]
  show gH (T0.setTop (mkF m 2 #[vr a1] [(.int (.ofNat 32))])) ..
  refine oS (fun _=>XS.iconst X0.here hx rfl (dE hby D39 2 rfl)) ?_
  refine oS (fun _=>XS.ishr X0.here hx rfl (dE hby D39 3 rfl) rfl) ?_
  show gH (T0.setTop (mkF m 4 #[vr a1] [(.int ((Int32.ofNat 32)>>>((1:Int32)&&&31)))])) ..
  exact own_retI X0 hx hret hlk (dE hby D39 4 rfl) (by rw [e0]; exact ⟨by rw [show Int32.ofNat 32>>>((1:Int32)&&&31) = Int32.ofNat 16 from by decide],N0,rfl⟩) (by decide) (by decide)
theorem own_pn38 : plainName "jdk/internal/util/Preconditions" = true:=by first | (simp [plainName,overriddenIn]; done) | decide +kernel
def L40 : List (Nat × Instr × Nat):=[(0,.iload_n 2,1),(1,.iload_n 0,1),(2,.ior,1),(3,.iload_n 1,1),(4,.ior,1),(5,.ifCond .lt 10,3),(8,.iload_n 1,1),(9,.iload_n 2,1),(10,.iload_n 0,1),(11,.isub,1),(12,.if_icmp .le 11,3),(23,.iload_n 0,1),(24,.ireturn,1)]
theorem D40 : ∀ q∈L40,decode jdk_41_method_13_code q.1 = .ok q.2:=by decide +kernel
theorem own_cfis (l:Launch) (Z:State) (a0:Array Value) (hw:∀ d∈tables_1,d.before a0 Z = true) (ws:List Jvm.Cond) (fm:Value) (k1 m1 : Nat) (h0:Heap) (O0:Old Z Z.heap.size h0) (hk:k1 < 15) (hm:m1 < 3) (hfm:fm = .null ∨ ∃ a,fm = .ref a) :
    own_Met l Z (⟨"jdk/internal/util/Preconditions","checkFromIndexSize","(IIILjava/util/function/BiFunction;)I"⟩ : MethodName) jdk_41_method_13_code 4 (some .int) ws (⟨0,0,0,0⟩ : Room) #[(.int (.ofNat k1)),(.int (.ofNat m1)),(.int (.ofNat 16)),fm] h0 (fun v h L=>v = some (.int (.ofNat k1))∧Fr Z.heap.size L∧h = h0) 0 0:=by
  rcases hfm with rfl | ⟨af,rfl⟩
  · skip
    refine own_bodyA (ef:=fun m=>mkF m 0 #[.val (.int (Int32.ofNat k1)),.val (.int (Int32.ofNat m1)),.val (.int (Int32.ofNat 16)),.val .null] []) (plainFor_of_name own_pn38) ?_
    intro p e s m below meth c T0 hx hZ hby hml hown hnm hret hlk X0 e0
    have N0:=Fr.nil Z.heap.size
    have z0 : Z.heap.size≤h0.size:=O0.2.1
    have Kr:=Keep.refl h0 []
    show gH (T0.setTop (mkF m 0 #[vi (.ofNat k1),vi (.ofNat m1),vi (.ofNat 16),.val .null] [])) ..
    refine oS (fun _=>XS.iloadN X0.here hx rfl (dE hby D40 0 rfl) rfl) ?_
    refine oS (fun _=>XS.iloadN X0.here hx rfl (dE hby D40 1 rfl) rfl) ?_
    refine oS (fun _=>XS.ior X0.here hx rfl (dE hby D40 2 rfl) rfl) ?_
    refine oS (fun _=>XS.iloadN X0.here hx rfl (dE hby D40 3 rfl) rfl) ?_
    refine oS (fun _=>XS.ior X0.here hx rfl (dE hby D40 4 rfl) rfl) ?_
    refine oS (fun _=>XS.ifNo X0.here hx rfl (dE hby D40 5 rfl) rfl ((if0 _ _).trans (flt (own_cfi ⟨k1,hk⟩ ⟨m1,hm⟩)).1)) ?_
    refine oS (fun _=>XS.iloadN X0.here hx rfl (dE hby D40 6 rfl) rfl) ?_
    refine oS (fun _=>XS.iloadN X0.here hx rfl (dE hby D40 7 rfl) rfl) ?_
    refine oS (fun _=>XS.iloadN X0.here hx rfl (dE hby D40 8 rfl) rfl) ?_
    refine oS (fun _=>XS.isub X0.here hx rfl (dE hby D40 9 rfl) rfl) ?_
    refine oS (fun _=>XS.icmpYes X0.here hx rfl (pc0:=12) (pc':=23) rfl (dE hby D40 10 rfl) rfl (flt (own_cfi2 ⟨k1,hk⟩ ⟨m1,hm⟩)).2.2.2 (by decide) (by decide)) ?_
    refine oS (fun _=>XS.iloadN X0.here hx rfl (dE hby D40 11 rfl) rfl) ?_
    show gH (T0.setTop (mkF m 24 #[vi (.ofNat k1),vi (.ofNat m1),vi (.ofNat 16),.val .null] [(.int (.ofNat k1))])) ..
    exact own_retI X0 hx hret hlk (dE hby D40 12 rfl) (by rw [e0]; exact ⟨rfl,N0,rfl⟩) (by decide) (by decide)
  · skip
    refine own_bodyA (ef:=fun m=>mkF m 0 #[.val (.int (Int32.ofNat k1)),.val (.int (Int32.ofNat m1)),.val (.int (Int32.ofNat 16)),.val (.ref af)] []) (plainFor_of_name own_pn38) ?_
    intro p e s m below meth c T0 hx hZ hby hml hown hnm hret hlk X0 e0
    have N0:=Fr.nil Z.heap.size
    have z0 : Z.heap.size≤h0.size:=O0.2.1
    have Kr:=Keep.refl h0 []
    show gH (T0.setTop (mkF m 0 #[vi (.ofNat k1),vi (.ofNat m1),vi (.ofNat 16),vr af] [])) ..
    refine oS (fun _=>XS.iloadN X0.here hx rfl (dE hby D40 0 rfl) rfl) ?_
    refine oS (fun _=>XS.iloadN X0.here hx rfl (dE hby D40 1 rfl) rfl) ?_
    refine oS (fun _=>XS.ior X0.here hx rfl (dE hby D40 2 rfl) rfl) ?_
    refine oS (fun _=>XS.iloadN X0.here hx rfl (dE hby D40 3 rfl) rfl) ?_
    refine oS (fun _=>XS.ior X0.here hx rfl (dE hby D40 4 rfl) rfl) ?_
    refine oS (fun _=>XS.ifNo X0.here hx rfl (dE hby D40 5 rfl) rfl ((if0 _ _).trans (flt (own_cfi ⟨k1,hk⟩ ⟨m1,hm⟩)).1)) ?_
    refine oS (fun _=>XS.iloadN X0.here hx rfl (dE hby D40 6 rfl) rfl) ?_
    refine oS (fun _=>XS.iloadN X0.here hx rfl (dE hby D40 7 rfl) rfl) ?_
    refine oS (fun _=>XS.iloadN X0.here hx rfl (dE hby D40 8 rfl) rfl) ?_
    refine oS (fun _=>XS.isub X0.here hx rfl (dE hby D40 9 rfl) rfl) ?_
    refine oS (fun _=>XS.icmpYes X0.here hx rfl (pc0:=12) (pc':=23) rfl (dE hby D40 10 rfl) rfl (flt (own_cfi2 ⟨k1,hk⟩ ⟨m1,hm⟩)).2.2.2 (by decide) (by decide)) ?_
    refine oS (fun _=>XS.iloadN X0.here hx rfl (dE hby D40 11 rfl) rfl) ?_
    show gH (T0.setTop (mkF m 24 #[vi (.ofNat k1),vi (.ofNat m1),vi (.ofNat 16),vr af] [(.int (.ofNat k1))])) ..
    exact own_retI X0 hx hret hlk (dE hby D40 12 rfl) (by rw [e0]; exact ⟨rfl,N0,rfl⟩) (by decide) (by decide)
def L41 : List (Nat × Instr × Nat):=[(0,.iload_n 0,1),(1,.iload_n 1,1),(2,.iload_n 2,1),(3,.getstatic 1053,3),(6,.invokestatic 1065,3),(9,.ireturn,1)]
theorem D41 : ∀ q∈L41,decode jdk_42_method_157_code q.1 = .ok q.2:=by decide +kernel
theorem own_pd39 : parseMethodDescriptor "(IIILjava/util/function/BiFunction;)I" = some ⟨[.int,.int,.int,(.object "java/util/function/BiFunction")],some .int⟩:=by decide +kernel
theorem own_cboc (l:Launch) (Z:State) (a0:Array Value) (hw:∀ d∈tables_1,d.before a0 Z = true) (ws:List Jvm.Cond)  (k1 m1 : Nat) (fm:Value) (h0:Heap) (O0:Old Z Z.heap.size h0) (hk:k1 < 15) (hm:m1 < 3) (SF:Sta Z Z.heap "jdk/internal/util/Preconditions" "SIOOBE_FORMATTER" "Ljava/util/function/BiFunction;" fm) (hfm:fm = .null ∨ ∃ a,fm = .ref a) :
    own_Met l Z (⟨"java/lang/String","checkBoundsOffCount","(III)I"⟩ : MethodName) jdk_42_method_157_code 3 (some .int) ws (⟨1,0,0,16⟩ : Room) #[(.int (.ofNat k1)),(.int (.ofNat m1)),(.int (.ofNat 16))] h0 (fun v h L=>v = some (.int (.ofNat k1))∧Fr Z.heap.size L∧h = h0) 0 0:=by
  rcases hfm with rfl | ⟨af,rfl⟩
  · skip
    refine own_bodyA (ef:=fun m=>mkF m 0 #[.val (.int (Int32.ofNat k1)),.val (.int (Int32.ofNat m1)),.val (.int (Int32.ofNat 16))] []) (plainFor_of_name own_pn7) ?_
    intro p e s m below meth c T0 hx hZ hby hml hown hnm hret hlk X0 e0
    have N0:=Fr.nil Z.heap.size
    have z0 : Z.heap.size≤h0.size:=O0.2.1
    have Kr:=Keep.refl h0 []
    show gH (T0.setTop (mkF m 0 #[vi (.ofNat k1),vi (.ofNat m1),vi (.ofNat 16)] [])) ..
    refine oS (fun _=>XS.iloadN X0.here hx rfl (dE hby D41 0 rfl) rfl) ?_
    refine oS (fun _=>XS.iloadN X0.here hx rfl (dE hby D41 1 rfl) rfl) ?_
    refine oS (fun _=>XS.iloadN X0.here hx rfl (dE hby D41 2 rfl) rfl) ?_
    obtain ⟨T1,X1,e1,st1⟩:=getS2 X0 hx hZ hown (host:="") (Or.inl (oW hw 260 rfl)) Via.refl e0 (Sta.ext O0.2 SF) (g:=(mkF m 3 #[vi (.ofNat k1),vi (.ofNat m1),vi (.ofNat 16)] [(.int (.ofNat 16)),(.int (.ofNat m1)),(.int (.ofNat k1))])) rfl (dE hby D41 3 rfl)
    refine oS st1 ?_
    obtain ⟨_,T2,L2,X2,⟨rfl,N2q,eh2⟩,st2⟩:=own_cS X1 hx hZ hown (own_cfis l Z a0 hw [] .null k1 m1 h0 O0 hk hm (Or.inl rfl)) (oW hw 262 rfl) (oW hw 263 rfl) (oW hw 261 rfl) (oW hw 264 rfl) (W:=0) (g:=(mkF m 6 #[vi (.ofNat k1),vi (.ofNat m1),vi (.ofNat 16)] [.null,(.int (.ofNat 16)),(.int (.ofNat m1)),(.int (.ofNat k1))])) rfl (by rw [hml]; rfl) (argsL:=[(.int (.ofNat k1)),(.int (.ofNat m1)),(.int (.ofNat 16)),.null]) (rest:=[]) (lenOf own_pd39 rfl) rfl (dE hby D41 4 rfl) rfl e1 (by decide) (by decide)
    have N2:=Fr.app N0 N2q
    refine oS st2 ?_
    show gH (T2.setTop (mkF m 9 #[vi (.ofNat k1),vi (.ofNat m1),vi (.ofNat 16)] [(.int (.ofNat k1))])) ..
    exact own_retI X2 hx hret hlk (dE hby D41 5 rfl) (by rw [eh2]; exact ⟨rfl,N2,rfl⟩) (by decide) (by decide)
  · skip
    refine own_bodyA (ef:=fun m=>mkF m 0 #[.val (.int (Int32.ofNat k1)),.val (.int (Int32.ofNat m1)),.val (.int (Int32.ofNat 16))] []) (plainFor_of_name own_pn7) ?_
    intro p e s m below meth c T0 hx hZ hby hml hown hnm hret hlk X0 e0
    have N0:=Fr.nil Z.heap.size
    have z0 : Z.heap.size≤h0.size:=O0.2.1
    have Kr:=Keep.refl h0 []
    show gH (T0.setTop (mkF m 0 #[vi (.ofNat k1),vi (.ofNat m1),vi (.ofNat 16)] [])) ..
    refine oS (fun _=>XS.iloadN X0.here hx rfl (dE hby D41 0 rfl) rfl) ?_
    refine oS (fun _=>XS.iloadN X0.here hx rfl (dE hby D41 1 rfl) rfl) ?_
    refine oS (fun _=>XS.iloadN X0.here hx rfl (dE hby D41 2 rfl) rfl) ?_
    obtain ⟨T1,X1,e1,st1⟩:=getS2 X0 hx hZ hown (host:="") (Or.inl (oW hw 260 rfl)) Via.refl e0 (Sta.ext O0.2 SF) (g:=(mkF m 3 #[vi (.ofNat k1),vi (.ofNat m1),vi (.ofNat 16)] [(.int (.ofNat 16)),(.int (.ofNat m1)),(.int (.ofNat k1))])) rfl (dE hby D41 3 rfl)
    refine oS st1 ?_
    obtain ⟨_,T2,L2,X2,⟨rfl,N2q,eh2⟩,st2⟩:=own_cS X1 hx hZ hown (own_cfis l Z a0 hw [] (.ref af) k1 m1 h0 O0 hk hm (Or.inr ⟨_,rfl⟩)) (oW hw 262 rfl) (oW hw 263 rfl) (oW hw 261 rfl) (oW hw 264 rfl) (W:=0) (g:=(mkF m 6 #[vi (.ofNat k1),vi (.ofNat m1),vi (.ofNat 16)] [(.ref af),(.int (.ofNat 16)),(.int (.ofNat m1)),(.int (.ofNat k1))])) rfl (by rw [hml]; rfl) (argsL:=[(.int (.ofNat k1)),(.int (.ofNat m1)),(.int (.ofNat 16)),(.ref af)]) (rest:=[]) (lenOf own_pd39 rfl) rfl (dE hby D41 4 rfl) rfl e1 (by decide) (by decide)
    have N2:=Fr.app N0 N2q
    refine oS st2 ?_
    show gH (T2.setTop (mkF m 9 #[vi (.ofNat k1),vi (.ofNat m1),vi (.ofNat 16)] [(.int (.ofNat k1))])) ..
    exact own_retI X2 hx hret hlk (dE hby D41 5 rfl) (by rw [eh2]; exact ⟨rfl,N2,rfl⟩) (by decide) (by decide)
def L42 : List (Nat × Instr × Nat):=[(0,.iload_n 0,1),(1,.iload_n 1,1),(2,.aload_n 2,1),(3,.invokestatic 48,3),(6,.invokestatic 419,3),(9,.pop,1),(10,.return_,1)]
theorem D42 : ∀ q∈L42,decode jdk_52_method_94_code q.1 = .ok q.2:=by decide +kernel
theorem own_pd40 : parseMethodDescriptor "([B)I" = some ⟨[(.array .byte)],some .int⟩:=by decide +kernel
theorem own_pd41 : parseMethodDescriptor "(III)I" = some ⟨[.int,.int,.int],some .int⟩:=by decide +kernel
theorem own_ucb (l:Launch) (Z:State) (a0:Array Value) (hw:∀ d∈tables_1,d.before a0 Z = true) (ws:List Jvm.Cond) (a1:Addr) (k1 m1 : Nat) (fm:Value) (vs:List Value) (kb:ClassId) (h0:Heap) (O0:Old Z Z.heap.size h0) (hk:k1 < 15) (hm:m1 < 3) (SF:Sta Z Z.heap "jdk/internal/util/Preconditions" "SIOOBE_FORMATTER" "Ljava/util/function/BiFunction;" fm) (hfm:fm = .null ∨ ∃ a,fm = .ref a) (V1:Arv Z h0 a1 kb .byte (Int32.ofNat 32) vs (.int 0)) :
    own_Met l Z (⟨"java/lang/StringUTF16","checkBoundsOffCount","(II[B)V"⟩ : MethodName) jdk_52_method_94_code 3 none ws (⟨2,0,0,32⟩ : Room) #[(.int (.ofNat k1)),(.int (.ofNat m1)),(.ref a1)] h0 (fun v h L=>v = none∧Fr Z.heap.size L∧h = h0) 0 0:=by
  refine own_bodyA (ef:=fun m=>mkF m 0 #[.val (.int (Int32.ofNat k1)),.val (.int (Int32.ofNat m1)),.val (.ref a1)] []) (plainFor_of_name own_pn0) ?_
  intro p e s m below meth c T0 hx hZ hby hml hown hnm hret hlk X0 e0
  have N0:=Fr.nil Z.heap.size
  show gH (T0.setTop (mkF m 0 #[vi (.ofNat k1),vi (.ofNat m1),vr a1] [])) ..
  refine oS (fun _=>XS.iloadN X0.here hx rfl (dE hby D42 0 rfl) rfl) ?_
  refine oS (fun _=>XS.iloadN X0.here hx rfl (dE hby D42 1 rfl) rfl) ?_
  refine oS (fun _=>XS.aloadN X0.here hx rfl (dE hby D42 2 rfl) rfl rfl) ?_
  obtain ⟨_,T1,L1,X1,⟨rfl,N1q,eh1⟩,st1⟩:=own_cS X0 hx hZ hown (own_ulen l Z a0 hw [] a1 vs kb h0 O0 V1) (oW hw 254 rfl) (oW hw 255 rfl) (oW hw 145 rfl) (oW hw 256 rfl) (W:=2) (g:=(mkF m 3 #[vi (.ofNat k1),vi (.ofNat m1),vr a1] [(.ref a1),(.int (.ofNat m1)),(.int (.ofNat k1))])) rfl (by rw [hml]; rfl) (argsL:=[(.ref a1)]) (rest:=[(.int (.ofNat m1)),(.int (.ofNat k1))]) (lenOf own_pd40 rfl) rfl (dE hby D42 3 rfl) rfl e0 (by decide) (by decide)
  have N1:=Fr.app N0 N1q
  refine oS st1 ?_
  obtain ⟨_,T2,L2,X2,⟨rfl,N2q,eh2⟩,st2⟩:=own_cS X1 hx hZ hown (own_cboc l Z a0 hw [] k1 m1 fm h0 O0 hk hm SF hfm) (oW hw 257 rfl) (oW hw 258 rfl) (oW hw 28 rfl) (oW hw 259 rfl) (W:=0) (g:=(mkF m 6 #[vi (.ofNat k1),vi (.ofNat m1),vr a1] [(.int (.ofNat 16)),(.int (.ofNat m1)),(.int (.ofNat k1))])) rfl (by rw [hml]; rfl) (argsL:=[(.int (.ofNat k1)),(.int (.ofNat m1)),(.int (.ofNat 16))]) (rest:=[]) (lenOf own_pd41 rfl) rfl (dE hby D42 4 rfl) rfl eh1 (by decide) (by decide)
  have N2:=Fr.app N1 N2q
  refine oS st2 ?_
  show gH (T2.setTop (mkF m 9 #[vi (.ofNat k1),vi (.ofNat m1),vr a1] [(.int (.ofNat k1))])) ..
  refine oS (fun _=>XS.pop X2.here hx rfl (dE hby D42 5 rfl) rfl rfl) ?_
  show gH (T2.setTop (mkF m 10 #[vi (.ofNat k1),vi (.ofNat m1),vr a1] [])) ..
  exact own_ret0 X2 hx hret hlk (dE hby D42 6 rfl) (by rw [eh2]; exact ⟨rfl,N2,rfl⟩) (by decide) (by decide)
def L43 : List (Nat × Instr × Nat):=[(0,.iload_n 0,1),(1,.ifCond .lt 8,3),(4,.iload_n 0,1),(5,.iload_n 1,1),(6,.if_icmp .lt 10,3),(16,.iload_n 0,1),(17,.ireturn,1)]
theorem D43 : ∀ q∈L43,decode jdk_41_method_11_code q.1 = .ok q.2:=by decide +kernel
theorem own_pci (l:Launch) (Z:State) (a0:Array Value) (hw:∀ d∈tables_1,d.before a0 Z = true) (ws:List Jvm.Cond) (fm:Value) (k1:Nat) (h0:Heap) (O0:Old Z Z.heap.size h0) (hk:k1 < 16) (hfm:fm = .null ∨ ∃ a,fm = .ref a) :
    own_Met l Z (⟨"jdk/internal/util/Preconditions","checkIndex","(IILjava/util/function/BiFunction;)I"⟩ : MethodName) jdk_41_method_11_code 3 (some .int) ws (⟨0,0,0,0⟩ : Room) #[(.int (.ofNat k1)),(.int (.ofNat 16)),fm] h0 (fun v h L=>v = some (.int (.ofNat k1))∧Fr Z.heap.size L∧h = h0) 0 0:=by
  rcases hfm with rfl | ⟨af,rfl⟩
  · skip
    refine own_bodyA (ef:=fun m=>mkF m 0 #[.val (.int (Int32.ofNat k1)),.val (.int (Int32.ofNat 16)),.val .null] []) (plainFor_of_name own_pn38) ?_
    intro p e s m below meth c T0 hx hZ hby hml hown hnm hret hlk X0 e0
    have N0:=Fr.nil Z.heap.size
    have z0 : Z.heap.size≤h0.size:=O0.2.1
    have Kr:=Keep.refl h0 []
    show gH (T0.setTop (mkF m 0 #[vi (.ofNat k1),vi (.ofNat 16),.val .null] [])) ..
    refine oS (fun _=>XS.iloadN X0.here hx rfl (dE hby D43 0 rfl) rfl) ?_
    refine oS (fun _=>XS.ifNo X0.here hx rfl (dE hby D43 1 rfl) rfl ((if0 _ _).trans (flt (oN (by omega))).1)) ?_
    refine oS (fun _=>XS.iloadN X0.here hx rfl (dE hby D43 2 rfl) rfl) ?_
    refine oS (fun _=>XS.iloadN X0.here hx rfl (dE hby D43 3 rfl) rfl) ?_
    refine oS (fun _=>XS.icmpYes X0.here hx rfl (pc0:=6) (pc':=16) rfl (dE hby D43 4 rfl) rfl (tlt (own_lt hk (by omega))).1 (by decide) (by decide)) ?_
    refine oS (fun _=>XS.iloadN X0.here hx rfl (dE hby D43 5 rfl) rfl) ?_
    show gH (T0.setTop (mkF m 17 #[vi (.ofNat k1),vi (.ofNat 16),.val .null] [(.int (.ofNat k1))])) ..
    exact own_retI X0 hx hret hlk (dE hby D43 6 rfl) (by rw [e0]; exact ⟨rfl,N0,rfl⟩) (by decide) (by decide)
  · skip
    refine own_bodyA (ef:=fun m=>mkF m 0 #[.val (.int (Int32.ofNat k1)),.val (.int (Int32.ofNat 16)),.val (.ref af)] []) (plainFor_of_name own_pn38) ?_
    intro p e s m below meth c T0 hx hZ hby hml hown hnm hret hlk X0 e0
    have N0:=Fr.nil Z.heap.size
    have z0 : Z.heap.size≤h0.size:=O0.2.1
    have Kr:=Keep.refl h0 []
    show gH (T0.setTop (mkF m 0 #[vi (.ofNat k1),vi (.ofNat 16),vr af] [])) ..
    refine oS (fun _=>XS.iloadN X0.here hx rfl (dE hby D43 0 rfl) rfl) ?_
    refine oS (fun _=>XS.ifNo X0.here hx rfl (dE hby D43 1 rfl) rfl ((if0 _ _).trans (flt (oN (by omega))).1)) ?_
    refine oS (fun _=>XS.iloadN X0.here hx rfl (dE hby D43 2 rfl) rfl) ?_
    refine oS (fun _=>XS.iloadN X0.here hx rfl (dE hby D43 3 rfl) rfl) ?_
    refine oS (fun _=>XS.icmpYes X0.here hx rfl (pc0:=6) (pc':=16) rfl (dE hby D43 4 rfl) rfl (tlt (own_lt hk (by omega))).1 (by decide) (by decide)) ?_
    refine oS (fun _=>XS.iloadN X0.here hx rfl (dE hby D43 5 rfl) rfl) ?_
    show gH (T0.setTop (mkF m 17 #[vi (.ofNat k1),vi (.ofNat 16),vr af] [(.int (.ofNat k1))])) ..
    exact own_retI X0 hx hret hlk (dE hby D43 6 rfl) (by rw [e0]; exact ⟨rfl,N0,rfl⟩) (by decide) (by decide)
def L44 : List (Nat × Instr × Nat):=[(0,.iload_n 0,1),(1,.iload_n 1,1),(2,.getstatic 1053,3),(5,.invokestatic 1059,3),(8,.pop,1),(9,.return_,1)]
theorem D44 : ∀ q∈L44,decode jdk_42_method_155_code q.1 = .ok q.2:=by decide +kernel
theorem own_pd42 : parseMethodDescriptor "(IILjava/util/function/BiFunction;)I" = some ⟨[.int,.int,(.object "java/util/function/BiFunction")],some .int⟩:=by decide +kernel
theorem own_sci (l:Launch) (Z:State) (a0:Array Value) (hw:∀ d∈tables_1,d.before a0 Z = true) (ws:List Jvm.Cond)  (k1:Nat) (fm:Value) (h0:Heap) (O0:Old Z Z.heap.size h0) (hk:k1 < 16) (SF:Sta Z Z.heap "jdk/internal/util/Preconditions" "SIOOBE_FORMATTER" "Ljava/util/function/BiFunction;" fm) (hfm:fm = .null ∨ ∃ a,fm = .ref a) :
    own_Met l Z (⟨"java/lang/String","checkIndex","(II)V"⟩ : MethodName) jdk_42_method_155_code 2 none ws (⟨1,0,0,16⟩ : Room) #[(.int (.ofNat k1)),(.int (.ofNat 16))] h0 (fun v h L=>v = none∧Fr Z.heap.size L∧h = h0) 0 0:=by
  rcases hfm with rfl | ⟨af,rfl⟩
  · skip
    refine own_bodyA (ef:=fun m=>mkF m 0 #[.val (.int (Int32.ofNat k1)),.val (.int (Int32.ofNat 16))] []) (plainFor_of_name own_pn7) ?_
    intro p e s m below meth c T0 hx hZ hby hml hown hnm hret hlk X0 e0
    have N0:=Fr.nil Z.heap.size
    have z0 : Z.heap.size≤h0.size:=O0.2.1
    have Kr:=Keep.refl h0 []
    show gH (T0.setTop (mkF m 0 #[vi (.ofNat k1),vi (.ofNat 16)] [])) ..
    refine oS (fun _=>XS.iloadN X0.here hx rfl (dE hby D44 0 rfl) rfl) ?_
    refine oS (fun _=>XS.iloadN X0.here hx rfl (dE hby D44 1 rfl) rfl) ?_
    obtain ⟨T1,X1,e1,st1⟩:=getS2 X0 hx hZ hown (host:="") (Or.inl (oW hw 260 rfl)) Via.refl e0 (Sta.ext O0.2 SF) (g:=(mkF m 2 #[vi (.ofNat k1),vi (.ofNat 16)] [(.int (.ofNat 16)),(.int (.ofNat k1))])) rfl (dE hby D44 2 rfl)
    refine oS st1 ?_
    obtain ⟨_,T2,L2,X2,⟨rfl,N2q,eh2⟩,st2⟩:=own_cS X1 hx hZ hown (own_pci l Z a0 hw [] .null k1 h0 O0 hk (Or.inl rfl)) (oW hw 309 rfl) (oW hw 310 rfl) (oW hw 261 rfl) (oW hw 311 rfl) (W:=0) (g:=(mkF m 5 #[vi (.ofNat k1),vi (.ofNat 16)] [.null,(.int (.ofNat 16)),(.int (.ofNat k1))])) rfl (by rw [hml]; rfl) (argsL:=[(.int (.ofNat k1)),(.int (.ofNat 16)),.null]) (rest:=[]) (lenOf own_pd42 rfl) rfl (dE hby D44 3 rfl) rfl e1 (by decide) (by decide)
    have N2:=Fr.app N0 N2q
    refine oS st2 ?_
    show gH (T2.setTop (mkF m 8 #[vi (.ofNat k1),vi (.ofNat 16)] [(.int (.ofNat k1))])) ..
    refine oS (fun _=>XS.pop X2.here hx rfl (dE hby D44 4 rfl) rfl rfl) ?_
    show gH (T2.setTop (mkF m 9 #[vi (.ofNat k1),vi (.ofNat 16)] [])) ..
    exact own_ret0 X2 hx hret hlk (dE hby D44 5 rfl) (by rw [eh2]; exact ⟨rfl,N2,rfl⟩) (by decide) (by decide)
  · skip
    refine own_bodyA (ef:=fun m=>mkF m 0 #[.val (.int (Int32.ofNat k1)),.val (.int (Int32.ofNat 16))] []) (plainFor_of_name own_pn7) ?_
    intro p e s m below meth c T0 hx hZ hby hml hown hnm hret hlk X0 e0
    have N0:=Fr.nil Z.heap.size
    have z0 : Z.heap.size≤h0.size:=O0.2.1
    have Kr:=Keep.refl h0 []
    show gH (T0.setTop (mkF m 0 #[vi (.ofNat k1),vi (.ofNat 16)] [])) ..
    refine oS (fun _=>XS.iloadN X0.here hx rfl (dE hby D44 0 rfl) rfl) ?_
    refine oS (fun _=>XS.iloadN X0.here hx rfl (dE hby D44 1 rfl) rfl) ?_
    obtain ⟨T1,X1,e1,st1⟩:=getS2 X0 hx hZ hown (host:="") (Or.inl (oW hw 260 rfl)) Via.refl e0 (Sta.ext O0.2 SF) (g:=(mkF m 2 #[vi (.ofNat k1),vi (.ofNat 16)] [(.int (.ofNat 16)),(.int (.ofNat k1))])) rfl (dE hby D44 2 rfl)
    refine oS st1 ?_
    obtain ⟨_,T2,L2,X2,⟨rfl,N2q,eh2⟩,st2⟩:=own_cS X1 hx hZ hown (own_pci l Z a0 hw [] (.ref af) k1 h0 O0 hk (Or.inr ⟨_,rfl⟩)) (oW hw 309 rfl) (oW hw 310 rfl) (oW hw 261 rfl) (oW hw 311 rfl) (W:=0) (g:=(mkF m 5 #[vi (.ofNat k1),vi (.ofNat 16)] [(.ref af),(.int (.ofNat 16)),(.int (.ofNat k1))])) rfl (by rw [hml]; rfl) (argsL:=[(.int (.ofNat k1)),(.int (.ofNat 16)),(.ref af)]) (rest:=[]) (lenOf own_pd42 rfl) rfl (dE hby D44 3 rfl) rfl e1 (by decide) (by decide)
    have N2:=Fr.app N0 N2q
    refine oS st2 ?_
    show gH (T2.setTop (mkF m 8 #[vi (.ofNat k1),vi (.ofNat 16)] [(.int (.ofNat k1))])) ..
    refine oS (fun _=>XS.pop X2.here hx rfl (dE hby D44 4 rfl) rfl rfl) ?_
    show gH (T2.setTop (mkF m 9 #[vi (.ofNat k1),vi (.ofNat 16)] [])) ..
    exact own_ret0 X2 hx hret hlk (dE hby D44 5 rfl) (by rw [eh2]; exact ⟨rfl,N2,rfl⟩) (by decide) (by decide)
def L45 : List (Nat × Instr × Nat):=[(0,.iload_n 0,1),(1,.aload_n 1,1),(2,.invokestatic 48,3),(5,.invokestatic 414,3),(8,.return_,1)]
theorem D45 : ∀ q∈L45,decode jdk_52_method_91_code q.1 = .ok q.2:=by decide +kernel
theorem own_uci (l:Launch) (Z:State) (a0:Array Value) (hw:∀ d∈tables_1,d.before a0 Z = true) (ws:List Jvm.Cond) (a1:Addr) (k1:Nat) (fm:Value) (vs:List Value) (kb:ClassId) (h0:Heap) (O0:Old Z Z.heap.size h0) (hk:k1 < 16) (SF:Sta Z Z.heap "jdk/internal/util/Preconditions" "SIOOBE_FORMATTER" "Ljava/util/function/BiFunction;" fm) (hfm:fm = .null ∨ ∃ a,fm = .ref a) (V1:Arv Z h0 a1 kb .byte (Int32.ofNat 32) vs (.int 0)) :
    own_Met l Z (⟨"java/lang/StringUTF16","checkIndex","(I[B)V"⟩ : MethodName) jdk_52_method_91_code 2 none ws (⟨2,0,0,32⟩ : Room) #[(.int (.ofNat k1)),(.ref a1)] h0 (fun v h L=>v = none∧Fr Z.heap.size L∧h = h0) 0 0:=by
  refine own_bodyA (ef:=fun m=>mkF m 0 #[.val (.int (Int32.ofNat k1)),.val (.ref a1)] []) (plainFor_of_name own_pn0) ?_
  intro p e s m below meth c T0 hx hZ hby hml hown hnm hret hlk X0 e0
  have N0:=Fr.nil Z.heap.size
  show gH (T0.setTop (mkF m 0 #[vi (.ofNat k1),vr a1] [])) ..
  refine oS (fun _=>XS.iloadN X0.here hx rfl (dE hby D45 0 rfl) rfl) ?_
  refine oS (fun _=>XS.aloadN X0.here hx rfl (dE hby D45 1 rfl) rfl rfl) ?_
  obtain ⟨_,T1,L1,X1,⟨rfl,N1q,eh1⟩,st1⟩:=own_cS X0 hx hZ hown (own_ulen l Z a0 hw [] a1 vs kb h0 O0 V1) (oW hw 254 rfl) (oW hw 255 rfl) (oW hw 145 rfl) (oW hw 256 rfl) (W:=1) (g:=(mkF m 2 #[vi (.ofNat k1),vr a1] [(.ref a1),(.int (.ofNat k1))])) rfl (by rw [hml]; rfl) (argsL:=[(.ref a1)]) (rest:=[(.int (.ofNat k1))]) (lenOf own_pd40 rfl) rfl (dE hby D45 2 rfl) rfl e0 (by decide) (by decide)
  have N1:=Fr.app N0 N1q
  refine oS st1 ?_
  obtain ⟨_,T2,L2,X2,⟨rfl,N2q,eh2⟩,st2⟩:=own_cS X1 hx hZ hown (own_sci l Z a0 hw [] k1 fm h0 O0 hk SF hfm) (oW hw 306 rfl) (oW hw 307 rfl) (oW hw 28 rfl) (oW hw 308 rfl) (W:=0) (g:=(mkF m 5 #[vi (.ofNat k1),vr a1] [(.int (.ofNat 16)),(.int (.ofNat k1))])) rfl (by rw [hml]; rfl) (argsL:=[(.int (.ofNat k1)),(.int (.ofNat 16))]) (rest:=[]) (lenOf own_pd18 rfl) rfl (dE hby D45 3 rfl) rfl eh1 (by decide) (by decide)
  have N2:=Fr.app N1 N2q
  refine oS st2 ?_
  show gH (T2.setTop (mkF m 8 #[vi (.ofNat k1),vr a1] [])) ..
  exact own_ret0 X2 hx hret hlk (dE hby D45 4 rfl) (by rw [eh2]; exact ⟨rfl,N2,rfl⟩) (by decide) (by decide)
def L46 : List (Nat × Instr × Nat):=[(0,.iload_n 1,1),(1,.aload_n 0,1),(2,.invokestatic 67,3),(5,.aload_n 0,1),(6,.iload_n 1,1),(7,.iload_n 2,1),(8,.invokestatic 111,3),(11,.return_,1)]
theorem D46 : ∀ q∈L46,decode jdk_52_method_71_code q.1 = .ok q.2:=by decide +kernel
theorem own_pd43 : parseMethodDescriptor "(I[B)V" = some ⟨[.int,(.array .byte)],none⟩:=by decide +kernel
theorem own_pcsb (l:Launch) (Z:State) (a0:Array Value) (hw:∀ d∈tables_1,d.before a0 Z = true) (ws:List Jvm.Cond) (a1:Addr) (c1:Int32) (i:Nat) (fm:Value) (vs:List Value) (kb:ClassId) (h0:Heap) (O0:Old Z Z.heap.size h0) (US:own_US Z) (SF:Sta Z Z.heap "jdk/internal/util/Preconditions" "SIOOBE_FORMATTER" "Ljava/util/function/BiFunction;" fm) (hfm:fm = .null ∨ ∃ a,fm = .ref a) (hi:i < 16) (g1:Z.heap.size≤a1) (hl:vs.length = 2 * i) (V1:Arv Z h0 a1 kb .byte (Int32.ofNat 32) vs (.int 0)) :
    own_Met l Z (⟨"java/lang/StringUTF16","putCharSB","([BII)V"⟩ : MethodName) jdk_52_method_71_code 3 none ws (⟨3,0,0,48⟩ : Room) #[(.ref a1),(.int (.ofNat i)),(.int c1)] h0 (fun v h L=>v = none∧Fr Z.heap.size L∧Keep h0 h [a1]∧Arv Z h a1 kb .byte (Int32.ofNat 32) (vs++[.int (own_b0 c1),.int (own_b1 c1)]) (.int 0)) 0 0:=by
  refine own_bodyA (ef:=fun m=>mkF m 0 #[.val (.ref a1),.val (.int (Int32.ofNat i)),.val (.int c1)] []) (plainFor_of_name own_pn0) ?_
  intro p e s m below meth c T0 hx hZ hby hml hown hnm hret hlk X0 e0
  have N0:=Fr.nil Z.heap.size
  have z0 : Z.heap.size≤h0.size:=O0.2.1
  have Kr:=Keep.refl h0 [a1]
  show gH (T0.setTop (mkF m 0 #[vr a1,vi (.ofNat i),vi c1] [])) ..
  have lta:=oL V1.lt
  refine oS (fun _=>XS.iloadN X0.here hx rfl (dE hby D46 0 rfl) rfl) ?_
  refine oS (fun _=>XS.aloadN X0.here hx rfl (dE hby D46 1 rfl) rfl rfl) ?_
  obtain ⟨_,T1,L1,X1,⟨rfl,N1q,eh1⟩,st1⟩:=own_cS X0 hx hZ hown (own_uci l Z a0 hw [] a1 i fm vs kb h0 O0 hi SF hfm V1) (oW hw 303 rfl) (oW hw 304 rfl) (oW hw 145 rfl) (oW hw 305 rfl) (W:=0) (g:=(mkF m 2 #[vr a1,vi (.ofNat i),vi c1] [(.ref a1),(.int (.ofNat i))])) rfl (by rw [hml]; rfl) (argsL:=[(.int (.ofNat i)),(.ref a1)]) (rest:=[]) (lenOf own_pd43 rfl) rfl (dE hby D46 2 rfl) rfl e0 (by decide) (by decide)
  have N1:=Fr.app N0 N1q
  refine oS st1 ?_
  show gH (T1.setTop (mkF m 5 #[vr a1,vi (.ofNat i),vi c1] [])) ..
  refine oS (fun _=>XS.aloadN X1.here hx rfl (dE hby D46 3 rfl) rfl rfl) ?_
  refine oS (fun _=>XS.iloadN X1.here hx rfl (dE hby D46 4 rfl) rfl) ?_
  refine oS (fun _=>XS.iloadN X1.here hx rfl (dE hby D46 5 rfl) rfl) ?_
  obtain ⟨_,T2,L2,X2,⟨rfl,N2q,K2_,Vn⟩,st2⟩:=own_cS X1 hx hZ hown (own_putC l Z a0 hw [] a1 c1 i vs kb h0 O0 US hi g1 hl V1) (oW hw 160 rfl) (oW hw 161 rfl) (oW hw 145 rfl) (oW hw 162 rfl) (W:=0) (g:=(mkF m 8 #[vr a1,vi (.ofNat i),vi c1] [(.int c1),(.int (.ofNat i)),(.ref a1)])) rfl (by rw [hml]; rfl) (argsL:=[(.ref a1),(.int (.ofNat i)),(.int c1)]) (rest:=[]) (lenOf own_pd2 rfl) rfl (dE hby D46 6 rfl) rfl eh1 (by decide) (by decide)
  have N2:=Fr.app N1 N2q
  refine oS st2 ?_
  have z3:=K2_.1
  have O4:=Old.keep O0 K2_ (allS (by omega) all0)
  have K5:=Kr.trans K2_ (allS (Or.inl (by simp)) all0)
  show gH (T2.setTop (mkF m 11 #[vr a1,vi (.ofNat i),vi c1] [])) ..
  exact own_ret0 X2 hx hret hlk (dE hby D46 7 rfl) ⟨rfl,N2,K5,Vn⟩ (by decide) (by decide)
def L47 : List (Nat × Instr × Nat):=[(10,.iload 5,2),(12,.iload 4,2),(14,.if_icmp .ge 27,3),(17,.aload_n 2,1),(18,.iload_n 3,1),(19,.iinc 3 1,3),(22,.aload_n 0,1),(23,.iload_n 1,1),(24,.iinc 1 1,3),(27,.baload,1),(28,.sipush 255,3),(31,.iand,1),(32,.invokestatic 111,3),(35,.iinc 5 1,3),(38,.goto (-28),3),(41,.return_,1),(0,.iload_n 3,1),(1,.iload 4,2),(3,.aload_n 2,1),(4,.invokestatic 173,3),(7,.iconst 0,1),(8,.istore 5,2)]
theorem D47 : ∀ q∈L47,decode jdk_52_method_86_code q.1 = .ok q.2:=by decide +kernel
theorem own_in_turn {p:Program} {l:Launch} {e:Env} {s:State} {m:MethodId} {args:Array Value} {below:List Frame} {meth:Method} {c:Code} {Z:State} {a0:Array Value} {locs:List Loc} {cells slots : Nat} {T0:State} {h0:Heap}  {hb0:Heap} (t d : Addr) (kt kd : ClassId) (cs es : List Int32) (ds r : List Int32) (ch:Int32) (i:Nat) (hx:p.tables.exec = Jvm.exec) (hZ:Z.Warmed39 s.vm) (hw:∀ d∈tables_1,d.before a0 Z = true) (hby:c.code = jdk_52_method_86_code) (hml:c.maxLocals = 6) (hown:s.vm.findClass "java/lang/StringUTF16" = some m.cls) (X0:Stand p l e (⟨3,0,0,60⟩ : Room) s m args below meth c T0 locs cells slots) (e0:T0.heap = h0) (N0:Fr Z.heap.size locs) (O0:Old Z Z.heap.size h0) (hret:meth.sig.returnType = none) (hlk:meth.locks = false) (hcs:cells+0≤0) (hss:slots+0≤0) (US:own_US Z) (hlen:cs.length+es.length≤15) (hr:∀ c∈es,0≤c.toInt∧¬ (255:Int32) < c) (hne:t ≠ d) (gd:Z.heap.size≤d) (Kb:Keep hb0 h0 [d]) (hi:ds.length = i) (hes:es = ds++ch :: r) (Vt:Arv Z h0 t kt .byte (Int32.ofNat es.length) (own_L1 es) (.int 0)) (Vd:Arv Z h0 d kd .byte (Int32.ofNat 32) (own_U2 (cs++ds)) (.int 0))
    (k1_:∀ (ds:List Int32) (i:Nat) (T':State) (h':Heap) (locs':List Loc),Stand p l e (⟨3,0,0,60⟩ : Room) s m args below meth c T' locs' cells slots→T'.heap = h'→Fr Z.heap.size locs'→Old Z Z.heap.size h'→Keep hb0 h' [d]→ds.length = i→es = ds++r→Arv Z h' t kt .byte (Int32.ofNat es.length) (own_L1 es) (.int 0)→Arv Z h' d kd .byte (Int32.ofNat 32) (own_U2 (cs++ds)) (.int 0)→own_G p.tables e below (own_F s below (fun v h L=>v = none∧Fr Z.heap.size L∧Keep hb0 h [d]∧Arv Z h d kd .byte (Int32.ofNat 32) (own_U2 (cs++es)) (.int 0)) 0 0) (T'.setTop (mkF m 10 #[vr t,vi (.ofNat (i)),vr d,vi (.ofNat (cs.length+i)),vi (.ofNat es.length),vi (.ofNat (i))] []))) :
    own_G p.tables e below (own_F s below (fun v h L=>v = none∧Fr Z.heap.size L∧Keep hb0 h [d]∧Arv Z h d kd .byte (Int32.ofNat 32) (own_U2 (cs++es)) (.int 0)) 0 0) (T0.setTop (mkF m 10 #[vr t,vi (.ofNat (i)),vr d,vi (.ofNat (cs.length+i)),vi (.ofNat es.length),vi (.ofNat (i))] [])):=by
  have z0 : Z.heap.size≤h0.size:=O0.2.1
  have Kr:=Keep.refl h0 [d]
  show gH (T0.setTop (mkF m 10 #[vr t,vi (.ofNat (i)),vr d,vi (.ofNat (cs.length+i)),vi (.ofNat es.length),vi (.ofNat (i))] [])) ..
  have ltt:=oL Vt.lt
  have ltd:=oL Vd.lt
  have hnN : @Ne Nat t d:=hne
  have hin : i < es.length:=by rw [hes,← hi]; simp
  have hrc:=hr ch (by rw [hes]; simp)
  refine oS (fun _=>XS.iload X0.here hx rfl (dE hby D47 0 rfl) rfl) ?_
  refine oS (fun _=>XS.iload X0.here hx rfl (dE hby D47 1 rfl) rfl) ?_
  refine oS (fun _=>XS.icmpNo X0.here hx rfl (dE hby D47 2 rfl) rfl (tlt (own_lt hin (by omega))).2.1) ?_
  refine oS (fun _=>XS.aloadN X0.here hx rfl (dE hby D47 3 rfl) rfl rfl) ?_
  refine oS (fun _=>XS.iloadN X0.here hx rfl (dE hby D47 4 rfl) rfl) ?_
  refine oS (fun _=>XS.iinc X0.here hx rfl (dE hby D47 5 rfl) rfl (l':=#[vr t,vi (.ofNat (i)),vr d,vi ((Int32.ofNat (cs.length+i))+(1:Int32)),vi (.ofNat es.length),vi (.ofNat (i))]) rfl) ?_
  refine oS (fun _=>XS.aloadN X0.here hx rfl (dE hby D47 6 rfl) rfl rfl) ?_
  refine oS (fun _=>XS.iloadN X0.here hx rfl (dE hby D47 7 rfl) rfl) ?_
  refine oS (fun _=>XS.iinc X0.here hx rfl (dE hby D47 8 rfl) rfl (l':=#[vr t,vi ((Int32.ofNat (i))+(1:Int32)),vr d,vi ((Int32.ofNat (cs.length+i))+(1:Int32)),vi (.ofNat es.length),vi (.ofNat (i))]) rfl) ?_
  show gH (T0.setTop (mkF m 27 #[vr t,vi ((Int32.ofNat (i))+(1:Int32)),vr d,vi ((Int32.ofNat (cs.length+i))+(1:Int32)),vi (.ofNat es.length),vi (.ofNat (i))] [(.int (.ofNat (i))),(.ref t),(.int (.ofNat (cs.length+i))),(.ref d)])) ..
  obtain ⟨cl1,Ar1,qk1,Sz1,Mz1,Hz1,Uz1⟩:=id Vt
  refine oS (X0.baloadBytes hx (j:=(Int32.ofNat (i))) (v:=(.int (own_lo ch))) (by rw [e0]; exact Ar1.1) (State.isArrayOf_alike hZ.alike Ar1.2.1) Ar1.2.2 (oI Sz1 hin (by omega)) (oR Sz1 Hz1 hin (by omega) (by rw [hes,← hi]; exact own_L1_at _ _ _ _)) (g:=(mkF m 27 #[vr t,vi ((Int32.ofNat (i))+(1:Int32)),vr d,vi ((Int32.ofNat (cs.length+i))+(1:Int32)),vi (.ofNat es.length),vi (.ofNat (i))] [(.int (.ofNat (i))),(.ref t),(.int (.ofNat (cs.length+i))),(.ref d)])) rfl rfl (dE hby D47 9 rfl)) ?_
  show gH (T0.setTop (mkF m 28 #[vr t,vi ((Int32.ofNat (i))+(1:Int32)),vr d,vi ((Int32.ofNat (cs.length+i))+(1:Int32)),vi (.ofNat es.length),vi (.ofNat (i))] [(.int (own_lo ch)),(.int (.ofNat (cs.length+i))),(.ref d)])) ..
  refine oS (fun _=>XS.sipush X0.here hx rfl (dE hby D47 10 rfl)) ?_
  refine oS (fun _=>XS.iand X0.here hx rfl (dE hby D47 11 rfl) rfl) ?_
  show gH (T0.setTop (mkF m 32 #[vr t,vi ((Int32.ofNat (i))+(1:Int32)),vr d,vi ((Int32.ofNat (cs.length+i))+(1:Int32)),vi (.ofNat es.length),vi (.ofNat (i))] [(.int ((own_lo ch)&&&(255:Int32))),(.int (.ofNat (cs.length+i))),(.ref d)])) ..
  rw [own_lo_mask hrc.1 hrc.2]
  obtain ⟨_,T2,L2,X2,⟨rfl,N2q,K2_,Vn⟩,st2⟩:=own_cS X0 hx hZ hown (own_putC l Z a0 hw [] d ch (cs.length+i) (own_U2 (cs++ds)) kd h0 O0 US (by omega) gd (by rw [own_U2_len,List.length_append,hi]) Vd) (oW hw 160 rfl) (oW hw 161 rfl) (oW hw 145 rfl) (oW hw 162 rfl) (W:=0) (g:=(mkF m 32 #[vr t,vi ((Int32.ofNat (i))+(1:Int32)),vr d,vi ((Int32.ofNat (cs.length+i))+(1:Int32)),vi (.ofNat es.length),vi (.ofNat (i))] [(.int ch),(.int (.ofNat (cs.length+i))),(.ref d)])) rfl (by rw [hml]; rfl) (argsL:=[(.ref d),(.int (.ofNat (cs.length+i))),(.int ch)]) (rest:=[]) (lenOf own_pd2 rfl) rfl (dE hby D47 12 rfl) rfl e0 hcs hss
  have N2:=Fr.app N0 N2q
  refine oS st2 ?_
  have z3:=K2_.1
  have O4:=Old.keep O0 K2_ (allS (by omega) all0)
  have K5:=Kr.trans K2_ (allS (Or.inl (by simp)) all0)
  show gH (T2.setTop (mkF m 35 #[vr t,vi ((Int32.ofNat (i))+(1:Int32)),vr d,vi ((Int32.ofNat (cs.length+i))+(1:Int32)),vi (.ofNat es.length),vi (.ofNat (i))] [])) ..
  refine oS (fun _=>XS.iinc X2.here hx rfl (dE hby D47 13 rfl) rfl (l':=#[vr t,vi ((Int32.ofNat (i))+(1:Int32)),vr d,vi ((Int32.ofNat (cs.length+i))+(1:Int32)),vi (.ofNat es.length),vi ((Int32.ofNat (i))+(1:Int32))]) rfl) ?_
  refine oS (fun _=>XS.goto X2.here hx rfl (pc0:=38) (pc':=10) rfl (dE hby D47 14 rfl) (by decide) (by decide)) ?_
  show gH (T2.setTop (mkF m 10 #[vr t,vi ((Int32.ofNat (i))+(1:Int32)),vr d,vi ((Int32.ofNat (cs.length+i))+(1:Int32)),vi (.ofNat es.length),vi ((Int32.ofNat (i))+(1:Int32))] [])) ..
  rw [oO i]
  show gH (T2.setTop (mkF m 10 #[vr t,vi (.ofNat (i+1)),vr d,vi ((Int32.ofNat (cs.length+i))+(1:Int32)),vi (.ofNat es.length),vi (.ofNat (i+1))] [])) ..
  rw [oO (cs.length+i)]
  show gH (T2.setTop (mkF m 10 #[vr t,vi (.ofNat (i+1)),vr d,vi (.ofNat (cs.length+(i+1))),vi (.ofNat es.length),vi (.ofNat (i+1))] [])) ..
  have q6:=(Vt.keep K2_ (ninS (show @Ne Nat t d by omega) nin0))
  exact k1_ (ds++[ch]) (i+1) _ _ _ X2 rfl N2 O4 (Kb.trans K5 (allS (Or.inl (by simp)) all0)) (by rw [List.length_append,hi]; rfl) (by rw [hes]; simp) q6 (by rw [← List.append_assoc,own_U2_app]; exact Vn)
theorem own_in_exit {p:Program} {l:Launch} {e:Env} {s:State} {m:MethodId} {args:Array Value} {below:List Frame} {meth:Method} {c:Code} {Z:State} {a0:Array Value} {locs:List Loc} {cells slots : Nat} {T0:State} {h0:Heap}  {hb0:Heap} (t d : Addr) (kt kd : ClassId) (cs es : List Int32) (ds:List Int32) (i:Nat) (hx:p.tables.exec = Jvm.exec) (hZ:Z.Warmed39 s.vm) (hw:∀ d∈tables_1,d.before a0 Z = true) (hby:c.code = jdk_52_method_86_code) (hml:c.maxLocals = 6) (hown:s.vm.findClass "java/lang/StringUTF16" = some m.cls) (X0:Stand p l e (⟨3,0,0,60⟩ : Room) s m args below meth c T0 locs cells slots) (e0:T0.heap = h0) (N0:Fr Z.heap.size locs) (O0:Old Z Z.heap.size h0) (hret:meth.sig.returnType = none) (hlk:meth.locks = false) (hcs:cells≤0) (hss:slots≤0) (hin:i = es.length) (hde:ds = es) (Kb:Keep hb0 h0 [d]) (Vd:Arv Z h0 d kd .byte (Int32.ofNat 32) (own_U2 (cs++ds)) (.int 0))
     :
    own_G p.tables e below (own_F s below (fun v h L=>v = none∧Fr Z.heap.size L∧Keep hb0 h [d]∧Arv Z h d kd .byte (Int32.ofNat 32) (own_U2 (cs++es)) (.int 0)) 0 0) (T0.setTop (mkF m 10 #[vr t,vi (.ofNat (i)),vr d,vi (.ofNat (cs.length+i)),vi (.ofNat es.length),vi (.ofNat (i))] [])):=by
  show gH (T0.setTop (mkF m 10 #[vr t,vi (.ofNat (i)),vr d,vi (.ofNat (cs.length+i)),vi (.ofNat es.length),vi (.ofNat (i))] [])) ..
  refine oS (fun _=>XS.iload X0.here hx rfl (dE hby D47 0 rfl) rfl) ?_
  refine oS (fun _=>XS.iload X0.here hx rfl (dE hby D47 1 rfl) rfl) ?_
  refine oS (fun _=>XS.icmpYes X0.here hx rfl (pc0:=14) (pc':=41) rfl (dE hby D47 2 rfl) rfl (flt (by rw [hin]; exact Int32.lt_irrefl)).2.1 (by decide) (by decide)) ?_
  show gH (T0.setTop (mkF m 41 #[vr t,vi (.ofNat (i)),vr d,vi (.ofNat (cs.length+i)),vi (.ofNat es.length),vi (.ofNat (i))] [])) ..
  exact own_ret0 X0 hx hret hlk (dE hby D47 15 rfl) (by rw [e0]; exact ⟨rfl,N0,Kb,by rw [hde] at Vd; exact Vd⟩) hcs hss
theorem own_in_loop {p:Program} {l:Launch} {e:Env} {s:State} {m:MethodId} {args:Array Value} {below:List Frame} {meth:Method} {c:Code} {Z:State} {a0:Array Value} {cells slots : Nat} {hb0:Heap} (t d : Addr) (kt kd : ClassId) (cs es : List Int32) (hx:p.tables.exec = Jvm.exec) (hZ:Z.Warmed39 s.vm) (hw:∀ d∈tables_1,d.before a0 Z = true) (hby:c.code = jdk_52_method_86_code) (hml:c.maxLocals = 6) (hown:s.vm.findClass "java/lang/StringUTF16" = some m.cls) (hret:meth.sig.returnType = none) (hlk:meth.locks = false) (hcs:cells+0≤0) (hss:slots+0≤0) (US:own_US Z) (hlen:cs.length+es.length≤15) (hr:∀ c∈es,0≤c.toInt∧¬ (255:Int32) < c) (hne:t ≠ d) (gd:Z.heap.size≤d) :
    ∀ (rest:List Int32) (ds:List Int32) (i:Nat) (T':State) (h':Heap) (locs':List Loc),Stand p l e (⟨3,0,0,60⟩ : Room) s m args below meth c T' locs' cells slots→T'.heap = h'→Fr Z.heap.size locs'→Old Z Z.heap.size h'→Keep hb0 h' [d]→ds.length = i→es = ds++rest→Arv Z h' t kt .byte (Int32.ofNat es.length) (own_L1 es) (.int 0)→Arv Z h' d kd .byte (Int32.ofNat 32) (own_U2 (cs++ds)) (.int 0)→own_G p.tables e below (own_F s below (fun v h L=>v = none∧Fr Z.heap.size L∧Keep hb0 h [d]∧Arv Z h d kd .byte (Int32.ofNat 32) (own_U2 (cs++es)) (.int 0)) 0 0) (T'.setTop (mkF m 10 #[vr t,vi (.ofNat (i)),vr d,vi (.ofNat (cs.length+i)),vi (.ofNat es.length),vi (.ofNat (i))] [])):=by
  intro rest
  induction rest with
  | nil =>
    intro ds i T' h' locs' X e1 N O Kb hi hes Vt Vd
    exact own_in_exit t d kt kd cs es ds i hx hZ hw hby hml hown X e1 N O hret hlk hcs hss (by rw [hes,← hi]; simp) (by rw [hes]; simp) Kb Vd
  | cons ch r ih =>
    intro ds i T' h' locs' X e1 N O Kb hi hes Vt Vd
    refine own_in_turn t d kt kd cs es ds r ch i hx hZ hw hby hml hown X e1 N O hret hlk hcs hss US hlen hr hne gd Kb hi hes Vt Vd ?_
    intro ds2 i2 T2 h2 L2 X2 e2 N2 O2 Kb2 gi ges Wt Wd
    exact ih ds2 i2 T2 h2 L2 X2 e2 N2 O2 Kb2 gi ges Wt Wd
theorem own_pd44 : parseMethodDescriptor "(II[B)V" = some ⟨[.int,.int,(.array .byte)],none⟩:=by decide +kernel
theorem own_uinf (l:Launch) (Z:State) (a0:Array Value) (hw:∀ d∈tables_1,d.before a0 Z = true) (ws:List Jvm.Cond) (t:Addr) (d:Addr) (fm:Value) (kt kd : ClassId) (cs es : List Int32) (h0:Heap) (O0:Old Z Z.heap.size h0) (US:own_US Z) (SF:Sta Z Z.heap "jdk/internal/util/Preconditions" "SIOOBE_FORMATTER" "Ljava/util/function/BiFunction;" fm) (hfm:fm = .null ∨ ∃ a,fm = .ref a) (hk:cs.length < 15) (hm:es.length < 3) (hlen:cs.length+es.length≤15) (hr:∀ c∈es,0≤c.toInt∧¬ (255:Int32) < c) (hne:t ≠ d) (gd:Z.heap.size≤d) (Vt:Arv Z h0 t kt .byte (Int32.ofNat es.length) (own_L1 es) (.int 0)) (Vd:Arv Z h0 d kd .byte (Int32.ofNat 32) (own_U2 cs) (.int 0)) :
    own_Met l Z (⟨"java/lang/StringUTF16","inflate","([BI[BII)V"⟩ : MethodName) jdk_52_method_86_code 6 none ws (⟨3,0,0,60⟩ : Room) #[(.ref t),(.int 0),(.ref d),(.int (.ofNat cs.length)),(.int (.ofNat es.length))] h0 (fun v h L=>v = none∧Fr Z.heap.size L∧Keep h0 h [d]∧Arv Z h d kd .byte (Int32.ofNat 32) (own_U2 (cs++es)) (.int 0)) 0 0:=by
  refine own_bodyA (ef:=fun m=>mkF m 0 #[.val (.ref t),.val (.int (0:Int32)),.val (.ref d),.val (.int (Int32.ofNat cs.length)),.val (.int (Int32.ofNat es.length)),.unset] []) (plainFor_of_name own_pn0) ?_
  intro p e s m below meth c T0 hx hZ hby hml hown hnm hret hlk X0 e0
  have N0:=Fr.nil Z.heap.size
  show gH (T0.setTop (mkF m 0 #[vr t,vi 0,vr d,vi (.ofNat cs.length),vi (.ofNat es.length),.unset] [])) ..
  refine oS (fun _=>XS.iloadN X0.here hx rfl (dE hby D47 16 rfl) rfl) ?_
  refine oS (fun _=>XS.iload X0.here hx rfl (dE hby D47 17 rfl) rfl) ?_
  refine oS (fun _=>XS.aloadN X0.here hx rfl (dE hby D47 18 rfl) rfl rfl) ?_
  obtain ⟨_,T1,L1,X1,⟨rfl,N1q,eh1⟩,st1⟩:=own_cS X0 hx hZ hown (own_ucb l Z a0 hw [] d cs.length es.length fm (own_U2 cs) kd h0 O0 hk hm SF hfm Vd) (oW hw 251 rfl) (oW hw 252 rfl) (oW hw 145 rfl) (oW hw 253 rfl) (W:=0) (g:=(mkF m 4 #[vr t,vi 0,vr d,vi (.ofNat cs.length),vi (.ofNat es.length),.unset] [(.ref d),(.int (.ofNat es.length)),(.int (.ofNat cs.length))])) rfl (by rw [hml]; rfl) (argsL:=[(.int (.ofNat cs.length)),(.int (.ofNat es.length)),(.ref d)]) (rest:=[]) (lenOf own_pd44 rfl) rfl (dE hby D47 19 rfl) rfl e0 (by decide) (by decide)
  have N1:=Fr.app N0 N1q
  refine oS st1 ?_
  show gH (T1.setTop (mkF m 7 #[vr t,vi 0,vr d,vi (.ofNat cs.length),vi (.ofNat es.length),.unset] [])) ..
  refine oS (fun _=>XS.iconst X1.here hx rfl (dE hby D47 20 rfl)) ?_
  refine oS (fun _=>XS.istore X1.here hx rfl (dE hby D47 21 rfl) rfl (l':=#[vr t,vi 0,vr d,vi (.ofNat cs.length),vi (.ofNat es.length),vi 0]) rfl) ?_
  show gH (T1.setTop (mkF m 10 #[vr t,vi 0,vr d,vi (.ofNat cs.length),vi (.ofNat es.length),vi 0] [])) ..
  exact own_in_loop t d kt kd cs es hx hZ hw hby hml hown hret hlk (Nat.le_refl _) (Nat.le_refl _) US hlen hr hne gd es [] 0 _ _ _ X1 eh1 N1 O0 (Keep.refl _ _) rfl rfl Vt (by rw [List.append_nil]; exact Vd)
theorem own_pn45 : plainName "java/lang/StringLatin1" = true:=by first | (simp [plainName,overriddenIn]; done) | decide +kernel
def L48 : List (Nat × Instr × Nat):=[(0,.aload_n 0,1),(1,.iload_n 1,1),(2,.aload_n 2,1),(3,.iload_n 3,1),(4,.iload 4,2),(6,.invokestatic 240,3),(9,.return_,1)]
theorem D48 : ∀ q∈L48,decode jdk_43_method_50_code q.1 = .ok q.2:=by decide +kernel
theorem own_pd46 : parseMethodDescriptor "([BI[BII)V" = some ⟨[(.array .byte),.int,(.array .byte),.int,.int],none⟩:=by decide +kernel
theorem own_linf (l:Launch) (Z:State) (a0:Array Value) (hw:∀ d∈tables_1,d.before a0 Z = true) (ws:List Jvm.Cond) (t:Addr) (d:Addr) (fm:Value) (kt kd : ClassId) (cs es : List Int32) (h0:Heap) (O0:Old Z Z.heap.size h0) (US:own_US Z) (SF:Sta Z Z.heap "jdk/internal/util/Preconditions" "SIOOBE_FORMATTER" "Ljava/util/function/BiFunction;" fm) (hfm:fm = .null ∨ ∃ a,fm = .ref a) (hk:cs.length < 15) (hm:es.length < 3) (hlen:cs.length+es.length≤15) (hr:∀ c∈es,0≤c.toInt∧¬ (255:Int32) < c) (hne:t ≠ d) (gd:Z.heap.size≤d) (Vt:Arv Z h0 t kt .byte (Int32.ofNat es.length) (own_L1 es) (.int 0)) (Vd:Arv Z h0 d kd .byte (Int32.ofNat 32) (own_U2 cs) (.int 0)) :
    own_Met l Z (⟨"java/lang/StringLatin1","inflate","([BI[BII)V"⟩ : MethodName) jdk_43_method_50_code 5 none ws (⟨4,0,0,80⟩ : Room) #[(.ref t),(.int 0),(.ref d),(.int (.ofNat cs.length)),(.int (.ofNat es.length))] h0 (fun v h L=>v = none∧Fr Z.heap.size L∧Keep h0 h [d]∧Arv Z h d kd .byte (Int32.ofNat 32) (own_U2 (cs++es)) (.int 0)) 0 0:=by
  refine own_bodyA (ef:=fun m=>mkF m 0 #[.val (.ref t),.val (.int (0:Int32)),.val (.ref d),.val (.int (Int32.ofNat cs.length)),.val (.int (Int32.ofNat es.length))] []) (plainFor_of_name own_pn45) ?_
  intro p e s m below meth c T0 hx hZ hby hml hown hnm hret hlk X0 e0
  have N0:=Fr.nil Z.heap.size
  have z0 : Z.heap.size≤h0.size:=O0.2.1
  have Kr:=Keep.refl h0 [d]
  show gH (T0.setTop (mkF m 0 #[vr t,vi 0,vr d,vi (.ofNat cs.length),vi (.ofNat es.length)] [])) ..
  have ltd:=oL Vd.lt
  refine oS (fun _=>XS.aloadN X0.here hx rfl (dE hby D48 0 rfl) rfl rfl) ?_
  refine oS (fun _=>XS.iloadN X0.here hx rfl (dE hby D48 1 rfl) rfl) ?_
  refine oS (fun _=>XS.aloadN X0.here hx rfl (dE hby D48 2 rfl) rfl rfl) ?_
  refine oS (fun _=>XS.iloadN X0.here hx rfl (dE hby D48 3 rfl) rfl) ?_
  refine oS (fun _=>XS.iload X0.here hx rfl (dE hby D48 4 rfl) rfl) ?_
  obtain ⟨_,T1,L1,X1,⟨rfl,N1q,K1_,Vn⟩,st1⟩:=own_cS X0 hx hZ hown (own_uinf l Z a0 hw [] t d fm kt kd cs es h0 O0 US SF hfm hk hm hlen hr hne gd Vt Vd) (oW hw 248 rfl) (oW hw 249 rfl) (oW hw 145 rfl) (oW hw 250 rfl) (W:=0) (g:=(mkF m 6 #[vr t,vi 0,vr d,vi (.ofNat cs.length),vi (.ofNat es.length)] [(.int (.ofNat es.length)),(.int (.ofNat cs.length)),(.ref d),(.int 0),(.ref t)])) rfl (by rw [hml]; rfl) (argsL:=[(.ref t),(.int 0),(.ref d),(.int (.ofNat cs.length)),(.int (.ofNat es.length))]) (rest:=[]) (lenOf own_pd46 rfl) rfl (dE hby D48 5 rfl) rfl e0 (by decide) (by decide)
  have N1:=Fr.app N0 N1q
  refine oS st1 ?_
  have z2:=K1_.1
  have O3:=Old.keep O0 K1_ (allS (by omega) all0)
  have K4:=Kr.trans K1_ (allS (Or.inl (by simp)) all0)
  show gH (T1.setTop (mkF m 9 #[vr t,vi 0,vr d,vi (.ofNat cs.length),vi (.ofNat es.length)] [])) ..
  exact own_ret0 X1 hx hret hlk (dE hby D48 6 rfl) ⟨rfl,N1,K4,Vn⟩ (by decide) (by decide)
def L49 : List (Nat × Instr × Nat):=[(0,.aload_n 0,1),(1,.invokevirtual 83,3),(4,.ifCond .ne 4,3),(7,.return_,1),(8,.aload_n 0,1),(9,.getfield 15,3),(12,.arraylength,1),(13,.invokestatic 26,3),(16,.astore_n 1,1),(17,.aload_n 0,1),(18,.getfield 15,3),(21,.iconst 0,1),(22,.aload_n 1,1),(23,.iconst 0,1),(24,.aload_n 0,1),(25,.getfield 79,3),(28,.invokestatic 125,3),(31,.aload_n 0,1),(32,.aload_n 1,1),(33,.putfield 15,3),(36,.aload_n 0,1),(37,.iconst 1,1),(38,.putfield 22,3),(41,.return_,1)]
theorem D49 : ∀ q∈L49,decode jdk_68_method_11_code q.1 = .ok q.2:=by decide +kernel
theorem own_inf1 (l:Launch) (Z:State) (a0:Array Value) (hw:∀ d∈tables_1,d.before a0 Z = true) (ws:List Jvm.Cond) (sb:Addr) (bv:Addr) (n:Nat) (w1:Int32) (h0:Heap) (O0:Old Z Z.heap.size h0) (S1:Sta Z Z.heap "java/lang/String" "COMPACT_STRINGS" "Z" (.int w1)) (hw1:¬ (w1 = (0:Int32))) (HB:own_SBx Z h0 sb bv 1 n) :
    own_Met l Z (⟨"java/lang/AbstractStringBuilder","inflate","()V"⟩ : MethodName) jdk_68_method_11_code 2 none ws (⟨1,0,0,14⟩ : Room) #[(.ref sb)] h0 (fun v h L=>v = none∧Fr Z.heap.size L∧h = h0) 0 0:=by
  refine own_bodyA (ef:=fun m=>mkF m 0 #[.val (.ref sb),.unset] []) (plainFor_of_name own_pn10) ?_
  intro p e s m below meth c T0 hx hZ hby hml hown hnm hret hlk X0 e0
  have N0:=Fr.nil Z.heap.size
  show gH (T0.setTop (mkF m 0 #[vr sb,.unset] [])) ..
  refine oS (fun _=>XS.aloadN X0.here hx rfl (dE hby D49 0 rfl) rfl rfl) ?_
  obtain ⟨_,T1,L1,X1,⟨rfl,N1q,eh1⟩,st1⟩:=own_cV X0 hx hZ hown (own_isl1 l Z a0 hw [] sb w1 h0 O0 S1 hw1 HB.2.1) (oW hw 242 rfl) (oW hw 72 rfl) (oW hw 74 rfl) (oW hw 73 rfl) (own_clsP (y:=(⟨"java/lang/AbstractStringBuilder","isLatin1","()Z"⟩ : MethodName)) (oW hw 74 rfl)) HB.1 (oW hw 24 rfl) (oW hw 75 rfl) (W:=0) (g:=(mkF m 1 #[vr sb,.unset] [(.ref sb)])) rfl (by rw [hml]; rfl) (argsL:=[]) (rest:=[]) (lenOf own_pd22 rfl) rfl (dE hby D49 1 rfl) rfl e0 (by decide) (by decide)
  have N1:=Fr.app N0 N1q
  refine oS st1 ?_
  show gH (T1.setTop (mkF m 4 #[vr sb,.unset] [(.int 0)])) ..
  refine oS (fun _=>XS.ifNo X1.here hx rfl (dE hby D49 2 rfl) rfl ((if0 _ _).trans (teq rfl).2)) ?_
  show gH (T1.setTop (mkF m 7 #[vr sb,.unset] [])) ..
  exact own_ret0 X1 hx hret hlk (dE hby D49 3 rfl) (by rw [eh1]; exact ⟨rfl,N1,rfl⟩) (by decide) (by decide)
theorem own_uinf0 (l:Launch) (Z:State) (a0:Array Value) (hw:∀ d∈tables_1,d.before a0 Z = true) (ws:List Jvm.Cond) (t:Addr) (d:Addr) (fm:Value) (kt kd : ClassId) (h0:Heap) (O0:Old Z Z.heap.size h0) (US:own_US Z) (SF:Sta Z Z.heap "jdk/internal/util/Preconditions" "SIOOBE_FORMATTER" "Ljava/util/function/BiFunction;" fm) (hfm:fm = .null ∨ ∃ a,fm = .ref a) (gd:Z.heap.size≤d) (Vd:Arv Z h0 d kd .byte (Int32.ofNat 32) (own_U2 []) (.int 0)) :
    own_Met l Z (⟨"java/lang/StringUTF16","inflate","([BI[BII)V"⟩ : MethodName) jdk_52_method_86_code 6 none ws (⟨3,0,0,60⟩ : Room) #[(.ref t),(.int 0),(.ref d),(.int 0),(.int (.ofNat 0))] h0 (fun v h L=>v = none∧Fr Z.heap.size L∧Keep h0 h [d]∧Arv Z h d kd .byte (Int32.ofNat 32) (own_U2 []) (.int 0)) 0 0:=by
  refine own_bodyA (ef:=fun m=>mkF m 0 #[.val (.ref t),.val (.int (0:Int32)),.val (.ref d),.val (.int (0:Int32)),.val (.int (Int32.ofNat 0)),.unset] []) (plainFor_of_name own_pn0) ?_
  intro p e s m below meth c T0 hx hZ hby hml hown hnm hret hlk X0 e0
  have N0:=Fr.nil Z.heap.size
  have Kr:=Keep.refl h0 [d]
  show gH (T0.setTop (mkF m 0 #[vr t,vi 0,vr d,vi 0,vi (.ofNat 0),.unset] [])) ..
  refine oS (fun _=>XS.iloadN X0.here hx rfl (dE hby D47 16 rfl) rfl) ?_
  refine oS (fun _=>XS.iload X0.here hx rfl (dE hby D47 17 rfl) rfl) ?_
  refine oS (fun _=>XS.aloadN X0.here hx rfl (dE hby D47 18 rfl) rfl rfl) ?_
  obtain ⟨_,T1,L1,X1,⟨rfl,N1q,eh1⟩,st1⟩:=own_cS X0 hx hZ hown (own_ucb l Z a0 hw [] d 0 0 fm (own_U2 []) kd h0 O0 (by decide) (by decide) SF hfm Vd) (oW hw 251 rfl) (oW hw 252 rfl) (oW hw 145 rfl) (oW hw 253 rfl) (W:=0) (g:=(mkF m 4 #[vr t,vi 0,vr d,vi 0,vi (.ofNat 0),.unset] [(.ref d),(.int (.ofNat 0)),(.int 0)])) rfl (by rw [hml]; rfl) (argsL:=[(.int 0),(.int (.ofNat 0)),(.ref d)]) (rest:=[]) (lenOf own_pd44 rfl) rfl (dE hby D47 19 rfl) rfl e0 (by decide) (by decide)
  have N1:=Fr.app N0 N1q
  refine oS st1 ?_
  show gH (T1.setTop (mkF m 7 #[vr t,vi 0,vr d,vi 0,vi (.ofNat 0),.unset] [])) ..
  refine oS (fun _=>XS.iconst X1.here hx rfl (dE hby D47 20 rfl)) ?_
  refine oS (fun _=>XS.istore X1.here hx rfl (dE hby D47 21 rfl) rfl (l':=#[vr t,vi 0,vr d,vi 0,vi (.ofNat 0),vi 0]) rfl) ?_
  refine oS (fun _=>XS.iload X1.here hx rfl (dE hby D47 0 rfl) rfl) ?_
  refine oS (fun _=>XS.iload X1.here hx rfl (dE hby D47 1 rfl) rfl) ?_
  refine oS (fun _=>XS.icmpYes X1.here hx rfl (pc0:=14) (pc':=41) rfl (dE hby D47 2 rfl) rfl (flt (by decide)).2.1 (by decide) (by decide)) ?_
  show gH (T1.setTop (mkF m 41 #[vr t,vi 0,vr d,vi 0,vi (.ofNat 0),vi 0] [])) ..
  exact own_ret0 X1 hx hret hlk (dE hby D47 15 rfl) (by rw [eh1]; exact ⟨rfl,N1,Kr,Vd⟩) (by decide) (by decide)
theorem own_linf0 (l:Launch) (Z:State) (a0:Array Value) (hw:∀ d∈tables_1,d.before a0 Z = true) (ws:List Jvm.Cond) (t:Addr) (d:Addr) (fm:Value) (kt kd : ClassId) (h0:Heap) (O0:Old Z Z.heap.size h0) (US:own_US Z) (SF:Sta Z Z.heap "jdk/internal/util/Preconditions" "SIOOBE_FORMATTER" "Ljava/util/function/BiFunction;" fm) (hfm:fm = .null ∨ ∃ a,fm = .ref a) (gd:Z.heap.size≤d) (Vd:Arv Z h0 d kd .byte (Int32.ofNat 32) (own_U2 []) (.int 0)) :
    own_Met l Z (⟨"java/lang/StringLatin1","inflate","([BI[BII)V"⟩ : MethodName) jdk_43_method_50_code 5 none ws (⟨4,0,0,80⟩ : Room) #[(.ref t),(.int 0),(.ref d),(.int 0),(.int (.ofNat 0))] h0 (fun v h L=>v = none∧Fr Z.heap.size L∧Keep h0 h [d]∧Arv Z h d kd .byte (Int32.ofNat 32) (own_U2 []) (.int 0)) 0 0:=by
  refine own_bodyA (ef:=fun m=>mkF m 0 #[.val (.ref t),.val (.int (0:Int32)),.val (.ref d),.val (.int (0:Int32)),.val (.int (Int32.ofNat 0))] []) (plainFor_of_name own_pn45) ?_
  intro p e s m below meth c T0 hx hZ hby hml hown hnm hret hlk X0 e0
  have N0:=Fr.nil Z.heap.size
  have z0 : Z.heap.size≤h0.size:=O0.2.1
  have Kr:=Keep.refl h0 [d]
  show gH (T0.setTop (mkF m 0 #[vr t,vi 0,vr d,vi 0,vi (.ofNat 0)] [])) ..
  have ltd:=oL Vd.lt
  refine oS (fun _=>XS.aloadN X0.here hx rfl (dE hby D48 0 rfl) rfl rfl) ?_
  refine oS (fun _=>XS.iloadN X0.here hx rfl (dE hby D48 1 rfl) rfl) ?_
  refine oS (fun _=>XS.aloadN X0.here hx rfl (dE hby D48 2 rfl) rfl rfl) ?_
  refine oS (fun _=>XS.iloadN X0.here hx rfl (dE hby D48 3 rfl) rfl) ?_
  refine oS (fun _=>XS.iload X0.here hx rfl (dE hby D48 4 rfl) rfl) ?_
  obtain ⟨_,T1,L1,X1,⟨rfl,N1q,K1_,Vn⟩,st1⟩:=own_cS X0 hx hZ hown (own_uinf0 l Z a0 hw [] t d fm kt kd h0 O0 US SF hfm gd Vd) (oW hw 248 rfl) (oW hw 249 rfl) (oW hw 145 rfl) (oW hw 250 rfl) (W:=0) (g:=(mkF m 6 #[vr t,vi 0,vr d,vi 0,vi (.ofNat 0)] [(.int (.ofNat 0)),(.int 0),(.ref d),(.int 0),(.ref t)])) rfl (by rw [hml]; rfl) (argsL:=[(.ref t),(.int 0),(.ref d),(.int 0),(.int (.ofNat 0))]) (rest:=[]) (lenOf own_pd46 rfl) rfl (dE hby D48 5 rfl) rfl e0 (by decide) (by decide)
  have N1:=Fr.app N0 N1q
  refine oS st1 ?_
  have z2:=K1_.1
  have O3:=Old.keep O0 K1_ (allS (by omega) all0)
  have K4:=Kr.trans K1_ (allS (Or.inl (by simp)) all0)
  show gH (T1.setTop (mkF m 9 #[vr t,vi 0,vr d,vi 0,vi (.ofNat 0)] [])) ..
  exact own_ret0 X1 hx hret hlk (dE hby D48 6 rfl) ⟨rfl,N1,K4,Vn⟩ (by decide) (by decide)
theorem own_inf0 (l:Launch) (Z:State) (a0:Array Value) (hw:∀ d∈tables_1,d.before a0 Z = true) (ws:List Jvm.Cond) (sb:Addr) (bv:Addr) (kb:ClassId) (w1:Int32) (fm:Value) (h0:Heap) (O0:Old Z Z.heap.size h0) (S1:Sta Z Z.heap "java/lang/String" "COMPACT_STRINGS" "Z" (.int w1)) (hw1:¬ (w1 = (0:Int32))) (US:own_US Z) (SF:Sta Z Z.heap "jdk/internal/util/Preconditions" "SIOOBE_FORMATTER" "Ljava/util/function/BiFunction;" fm) (hfm:fm = .null ∨ ∃ a,fm = .ref a) (gs:Z.heap.size≤sb) (HB:own_SBx Z h0 sb bv 0 0) (Vb:Arv Z h0 bv kb .byte (Int32.ofNat 16) (own_L1 []) (.int 0)) :
    own_Met l Z (⟨"java/lang/AbstractStringBuilder","inflate","()V"⟩ : MethodName) jdk_68_method_11_code 2 none ws (⟨5,1,32,100⟩ : Room) #[(.ref sb)] h0 (fun v h L=>v = none∧Fr Z.heap.size L∧Keep h0 h [sb]∧∃ d kd,h0.size≤d∧own_SBx Z h sb d 1 0∧Arv Z h d kd .byte (Int32.ofNat 32) (own_U2 []) (.int 0)) 1 32:=by
  refine own_bodyA (ef:=fun m=>mkF m 0 #[.val (.ref sb),.unset] []) (plainFor_of_name own_pn10) ?_
  intro p e s m below meth c T0 hx hZ hby hml hown hnm hret hlk X0 e0
  have N0:=Fr.nil Z.heap.size
  have z0 : Z.heap.size≤h0.size:=O0.2.1
  have Kr:=Keep.refl h0 [sb]
  show gH (T0.setTop (mkF m 0 #[vr sb,.unset] [])) ..
  have ltsb:=oL HB.1.lt
  have ltb:=oL Vb.lt
  refine oS (fun _=>XS.aloadN X0.here hx rfl (dE hby D49 0 rfl) rfl rfl) ?_
  obtain ⟨_,T1,L1,X1,⟨rfl,N1q,eh1⟩,st1⟩:=own_cV X0 hx hZ hown (own_isl0 l Z a0 hw [] sb w1 h0 O0 S1 hw1 HB.2.1) (oW hw 242 rfl) (oW hw 72 rfl) (oW hw 74 rfl) (oW hw 73 rfl) (own_clsP (y:=(⟨"java/lang/AbstractStringBuilder","isLatin1","()Z"⟩ : MethodName)) (oW hw 74 rfl)) HB.1 (oW hw 24 rfl) (oW hw 75 rfl) (W:=0) (g:=(mkF m 1 #[vr sb,.unset] [(.ref sb)])) rfl (by rw [hml]; rfl) (argsL:=[]) (rest:=[]) (lenOf own_pd22 rfl) rfl (dE hby D49 1 rfl) rfl e0 (by decide) (by decide)
  have N1:=Fr.app N0 N1q
  refine oS st1 ?_
  show gH (T1.setTop (mkF m 4 #[vr sb,.unset] [(.int 1)])) ..
  refine oS (fun _=>XS.ifYes X1.here hx rfl (pc0:=4) (pc':=8) rfl (dE hby D49 2 rfl) rfl ((if0 _ _).trans (feq (by decide)).2) (by decide) (by decide)) ?_
  refine oS (fun _=>XS.aloadN X1.here hx rfl (dE hby D49 4 rfl) rfl rfl) ?_
  obtain ⟨T2,X2,e2,st2⟩:=getF X1 hx hZ hown (host:="") (Or.inl (oW hw 29 rfl)) Via.refl eh1 HB.2.2.2.1 (g:=(mkF m 9 #[vr sb,.unset] [(.ref sb)])) rfl rfl (dE hby D49 5 rfl)
  refine oS st2 ?_
  show gH (T2.setTop (mkF m 12 #[vr sb,.unset] [(.ref bv)])) ..
  obtain ⟨cl3,Ar3,qk3,Sz3,Mz3,Hz3,Uz3⟩:=id Vb
  refine oS (X2.arraylength hx (by rw [e2]; exact Ar3.1) (State.isArrayOf_alike hZ.alike Ar3.2.1) (g:=(mkF m 12 #[vr sb,.unset] [(.ref bv)])) rfl rfl (dE hby D49 6 rfl)) ?_
  rw [len_of Sz3 Mz3]
  obtain ⟨_,T4,L4,X4,⟨d,kd,rfl,N4q,K4_,gd,ltd,Vd⟩,st4⟩:=own_cS X2 hx hZ hown (own_nbf l Z a0 hw [] 16 h0 O0 (by decide)) (oW hw 243 rfl) (oW hw 154 rfl) (oW hw 145 rfl) (oW hw 155 rfl) (W:=0) (g:=(mkF m 13 #[vr sb,.unset] [(.int (.ofNat 16))])) rfl (by rw [hml]; rfl) (argsL:=[(.int (.ofNat 16))]) (rest:=[]) (lenOf own_pd3 rfl) rfl (dE hby D49 7 rfl) rfl e2 (by decide) (by decide)
  have N4:=Fr.app N1 N4q
  refine oS st4 ?_
  have z5:=K4_.1
  have O6:=Old.keep O0 K4_ all0
  have K7:=Kr.trans K4_ all0
  show gH (T4.setTop (mkF m 16 #[vr sb,.unset] [(.ref d)])) ..
  refine oS (fun _=>XS.astoreN X4.here hx rfl (dE hby D49 8 rfl) rfl rfl (l':=#[vr sb,vr d]) rfl) ?_
  refine oS (fun _=>XS.aloadN X4.here hx rfl (dE hby D49 9 rfl) rfl rfl) ?_
  have q8:=(HB.2.2.2.1.keep K4_ nin0)
  obtain ⟨T9,X9,e9,st9⟩:=getF X4 hx hZ hown (host:="") (Or.inl (oW hw 29 rfl)) Via.refl rfl q8 (g:=(mkF m 18 #[vr sb,vr d] [(.ref sb)])) rfl rfl (dE hby D49 10 rfl)
  refine oS st9 ?_
  show gH (T9.setTop (mkF m 21 #[vr sb,vr d] [(.ref bv)])) ..
  refine oS (fun _=>XS.iconst X9.here hx rfl (dE hby D49 11 rfl)) ?_
  refine oS (fun _=>XS.aloadN X9.here hx rfl (dE hby D49 12 rfl) rfl rfl) ?_
  refine oS (fun _=>XS.iconst X9.here hx rfl (dE hby D49 13 rfl)) ?_
  refine oS (fun _=>XS.aloadN X9.here hx rfl (dE hby D49 14 rfl) rfl rfl) ?_
  have q10:=(HB.2.2.1.keep K4_ nin0)
  obtain ⟨T11,X11,e11,st11⟩:=getF X9 hx hZ hown (host:="") (Or.inl (oW hw 69 rfl)) Via.refl e9 q10 (g:=(mkF m 25 #[vr sb,vr d] [(.ref sb),(.int 0),(.ref d),(.int 0),(.ref bv)])) rfl rfl (dE hby D49 15 rfl)
  refine oS st11 ?_
  have q12:=(Vb.keep K4_ nin0)
  have Vb0 : Arv Z T4.heap bv kb .byte (Int32.ofNat 16) (own_L1 []) (.int 0):=q12
  obtain ⟨_,T13,L13,X13,⟨rfl,N13q,K13_,Vn⟩,st13⟩:=own_cS X11 hx hZ hown (own_linf0 l Z a0 hw [] bv d fm kb kd T4.heap O6 US SF hfm (by omega) Vd) (oW hw 244 rfl) (oW hw 245 rfl) (oW hw 246 rfl) (oW hw 247 rfl) (W:=0) (g:=(mkF m 28 #[vr sb,vr d] [(.int (.ofNat 0)),(.int 0),(.ref d),(.int 0),(.ref bv)])) rfl (by rw [hml]; rfl) (argsL:=[(.ref bv),(.int 0),(.ref d),(.int 0),(.int (.ofNat 0))]) (rest:=[]) (lenOf own_pd46 rfl) rfl (dE hby D49 16 rfl) rfl e11 (by decide) (by decide)
  have N13:=Fr.app N4 N13q
  refine oS st13 ?_
  have z14:=K13_.1
  have O15:=Old.keep O6 K13_ (allS (by omega) all0)
  have K16:=K7.trans K13_ (allS (Or.inr (by omega)) all0)
  show gH (T13.setTop (mkF m 31 #[vr sb,vr d] [])) ..
  refine oS (fun _=>XS.aloadN X13.here hx rfl (dE hby D49 17 rfl) rfl rfl) ?_
  refine oS (fun _=>XS.aloadN X13.here hx rfl (dE hby D49 18 rfl) rfl rfl) ?_
  have q17:=((HB.1.keep K4_).keep K13_)
  have q18:=(q8.keep K13_ (ninS (show @Ne Nat sb d by omega) nin0))
  obtain ⟨T19,h19,X19,e19,W19,st19⟩:=putF X13 hx hZ hown (host:="") (Or.inl (oW hw 29 rfl)) Via.refl rfl q18 q17 (Or.inl (oW hw 30 rfl)) (oW hw 15 rfl) (ty:=(.array .byte)) (by decide) rfl rfl (g:=(mkF m 33 #[vr sb,vr d] [(.ref d),(.ref sb)])) rfl rfl (dE hby D49 19 rfl)
  refine oS st19 ?_
  have z20:=W19.size
  have O21:=Old.wr O15 W19 (by omega)
  have K22:=K16.wr W19 (Or.inl (by simp))
  have N19:=Fr.snoc X19 N13 (by omega : Z.heap.size≤sb)
  have Fw19:=q18.same W19
  show gH (T19.setTop (mkF m 36 #[vr sb,vr d] [])) ..
  refine oS (fun _=>XS.aloadN X19.here hx rfl (dE hby D49 20 rfl) rfl rfl) ?_
  refine oS (fun _=>XS.iconst X19.here hx rfl (dE hby D49 21 rfl)) ?_
  have q23:=(q17.wr W19)
  have q24:=(((HB.2.1.keep K4_ nin0).keep K13_ (ninS (show @Ne Nat sb d by omega) nin0)).other W19 (Or.inr (slot_ne (Or.inl (oW hw 32 rfl)) (Or.inl (oW hw 30 rfl)) (by decide) (t:=.byte) (t':=(.array .byte)) (by decide) (by decide))))
  obtain ⟨T25,h25,X25,e25,W25,st25⟩:=putFN X19 hx hZ hown (oW hw 31 rfl) Via.refl e19 q24 q23 (Or.inl (oW hw 32 rfl)) (oW hw 15 rfl) (ty:=.byte) (v':=(.int (nar .byte (1:Int32)))) (by decide) rfl (fits_nar_byte _) (g:=(mkF m 38 #[vr sb,vr d] [(.int 1),(.ref sb)])) rfl rfl (dE hby D49 22 rfl)
  refine oS st25 ?_
  have z26:=W25.size
  have O27:=Old.wr O21 W25 (by omega)
  have K28:=K22.wr W25 (Or.inl (by simp))
  have N25:=Fr.snoc X25 N19 (by omega : Z.heap.size≤sb)
  have Fw25:=q24.same W25
  show gH (T25.setTop (mkF m 41 #[vr sb,vr d] [])) ..
  have q29:=(q23.wr W25)
  have q30:=(((q10.keep K13_ (ninS (show @Ne Nat sb d by omega) nin0)).other W19 (Or.inr (slot_ne (Or.inl (oW hw 70 rfl)) (Or.inl (oW hw 30 rfl)) (by decide) (t:=.int) (t':=(.array .byte)) (by decide) (by decide)))).other W25 (Or.inr (slot_ne (Or.inl (oW hw 70 rfl)) (Or.inl (oW hw 32 rfl)) (by decide) (t:=.int) (t':=.byte) (by decide) (by decide))))
  have q31:=(Fw19.other W25 (Or.inr (slot_ne (Or.inl (oW hw 30 rfl)) (Or.inl (oW hw 32 rfl)) (by decide) (t:=(.array .byte)) (t':=.byte) (by decide) (by decide))))
  have q32:=((((HB.2.2.2.2.keep K4_ nin0).keep K13_ (ninS (show @Ne Nat sb d by omega) nin0)).other W19 (Or.inr (slot_ne (Or.inl (oW hw 314 rfl)) (Or.inl (oW hw 30 rfl)) (by decide) (t:=.boolean) (t':=(.array .byte)) (by decide) (by decide)))).other W25 (Or.inr (slot_ne (Or.inl (oW hw 314 rfl)) (Or.inl (oW hw 32 rfl)) (by decide) (t:=.boolean) (t':=.byte) (by decide) (by decide))))
  have q33:=((Vn.other W19 (show @Ne Nat d sb by omega)).other W25 (show @Ne Nat d sb by omega))
  exact own_ret0 X25 hx hret hlk (dE hby D49 23 rfl) (by rw [e25]; exact ⟨rfl,N25,K28,d,kd,by omega,⟨q29,Fw25,q30,q31,q32⟩,q33⟩) (by decide) (by decide)
def L50 : List (Nat × Instr × Nat):=[(0,.getstatic 18,3),(3,.ifCond .eq 18,3),(6,.aload_n 0,1),(7,.getfield 22,3),(10,.aload_n 1,1),(11,.invokevirtual 40,3),(14,.if_icmp .eq 7,3),(21,.return_,1),(17,.aload_n 0,1),(18,.invokevirtual 195,3)]
theorem D50 : ∀ q∈L50,decode jdk_68_method_71_code q.1 = .ok q.2:=by decide +kernel
theorem own_ifnLL (l:Launch) (Z:State) (a0:Array Value) (hw:∀ d∈tables_1,d.before a0 Z = true) (ws:List Jvm.Cond) (sb:Addr) (a1:Addr) (bv:Addr) (n:Nat) (w1:Int32) (h0:Heap) (O0:Old Z Z.heap.size h0) (S1:Sta Z Z.heap "java/lang/String" "COMPACT_STRINGS" "Z" (.int w1)) (hw1:¬ (w1 = (0:Int32))) (HB:own_SBx Z h0 sb bv 0 n) (Es:Exa Z h0 a1 "java/lang/String") (Fc:Fld Z h0 a1 "java/lang/String" "coder" "B" (.int 0)) :
    own_Met l Z (⟨"java/lang/AbstractStringBuilder","inflateIfNeededFor","(Ljava/lang/String;)V"⟩ : MethodName) jdk_68_method_71_code 2 none ws (⟨1,0,0,14⟩ : Room) #[(.ref sb),(.ref a1)] h0 (fun v h L=>v = none∧Fr Z.heap.size L∧h = h0) 0 0:=by
  refine own_bodyA (ef:=fun m=>mkF m 0 #[.val (.ref sb),.val (.ref a1)] []) (plainFor_of_name own_pn10) ?_
  intro p e s m below meth c T0 hx hZ hby hml hown hnm hret hlk X0 e0
  have N0:=Fr.nil Z.heap.size
  obtain ⟨T1,X1,e1,st1⟩:=getS2 X0 hx hZ hown (host:="") (Or.inl (oW hw 27 rfl)) Via.refl e0 (Sta.ext O0.2 S1) (g:=(mkF m 0 #[vr sb,vr a1] [])) rfl (dE hby D50 0 rfl)
  refine oS st1 ?_
  show gH (T1.setTop (mkF m 3 #[vr sb,vr a1] [(.int w1)])) ..
  refine oS (fun _=>XS.ifNo X1.here hx rfl (dE hby D50 1 rfl) rfl ((if0 _ _).trans (feq hw1).1)) ?_
  refine oS (fun _=>XS.aloadN X1.here hx rfl (dE hby D50 2 rfl) rfl rfl) ?_
  obtain ⟨T2,X2,e2,st2⟩:=getF X1 hx hZ hown (host:="") (Or.inl (oW hw 31 rfl)) Via.refl e1 HB.2.1 (g:=(mkF m 7 #[vr sb,vr a1] [(.ref sb)])) rfl rfl (dE hby D50 3 rfl)
  refine oS st2 ?_
  show gH (T2.setTop (mkF m 10 #[vr sb,vr a1] [(.int 0)])) ..
  refine oS (fun _=>XS.aloadN X2.here hx rfl (dE hby D50 4 rfl) rfl rfl) ?_
  obtain ⟨_,T3,L3,X3,⟨rfl,N3q,eh3⟩,st3⟩:=own_cV X2 hx hZ hown (own_co0 l Z a0 hw [] a1 w1 h0 O0 S1 hw1 Fc) (oW hw 236 rfl) (oW hw 106 rfl) (oW hw 108 rfl) (oW hw 107 rfl) (own_clsP (y:=(⟨"java/lang/String","coder","()B"⟩ : MethodName)) (oW hw 108 rfl)) Es (oW hw 28 rfl) (oW hw 109 rfl) (W:=1) (g:=(mkF m 11 #[vr sb,vr a1] [(.ref a1),(.int 0)])) rfl (by rw [hml]; rfl) (argsL:=[]) (rest:=[(.int 0)]) (lenOf own_pd34 rfl) rfl (dE hby D50 5 rfl) rfl e2 (by decide) (by decide)
  have N3:=Fr.app N0 N3q
  refine oS st3 ?_
  show gH (T3.setTop (mkF m 14 #[vr sb,vr a1] [(.int 0),(.int 0)])) ..
  refine oS (fun _=>XS.icmpYes X3.here hx rfl (pc0:=14) (pc':=21) rfl (dE hby D50 6 rfl) rfl (teq rfl).1 (by decide) (by decide)) ?_
  show gH (T3.setTop (mkF m 21 #[vr sb,vr a1] [])) ..
  exact own_ret0 X3 hx hret hlk (dE hby D50 7 rfl) (by rw [eh3]; exact ⟨rfl,N3,rfl⟩) (by decide) (by decide)
theorem own_ifnUL (l:Launch) (Z:State) (a0:Array Value) (hw:∀ d∈tables_1,d.before a0 Z = true) (ws:List Jvm.Cond) (sb:Addr) (a1:Addr) (bv:Addr) (n:Nat) (w1:Int32) (h0:Heap) (O0:Old Z Z.heap.size h0) (S1:Sta Z Z.heap "java/lang/String" "COMPACT_STRINGS" "Z" (.int w1)) (hw1:¬ (w1 = (0:Int32))) (HB:own_SBx Z h0 sb bv 1 n) (Es:Exa Z h0 a1 "java/lang/String") (Fc:Fld Z h0 a1 "java/lang/String" "coder" "B" (.int 0)) :
    own_Met l Z (⟨"java/lang/AbstractStringBuilder","inflateIfNeededFor","(Ljava/lang/String;)V"⟩ : MethodName) jdk_68_method_71_code 2 none ws (⟨2,0,0,30⟩ : Room) #[(.ref sb),(.ref a1)] h0 (fun v h L=>v = none∧Fr Z.heap.size L∧h = h0) 0 0:=by
  refine own_bodyA (ef:=fun m=>mkF m 0 #[.val (.ref sb),.val (.ref a1)] []) (plainFor_of_name own_pn10) ?_
  intro p e s m below meth c T0 hx hZ hby hml hown hnm hret hlk X0 e0
  have N0:=Fr.nil Z.heap.size
  obtain ⟨T1,X1,e1,st1⟩:=getS2 X0 hx hZ hown (host:="") (Or.inl (oW hw 27 rfl)) Via.refl e0 (Sta.ext O0.2 S1) (g:=(mkF m 0 #[vr sb,vr a1] [])) rfl (dE hby D50 0 rfl)
  refine oS st1 ?_
  show gH (T1.setTop (mkF m 3 #[vr sb,vr a1] [(.int w1)])) ..
  refine oS (fun _=>XS.ifNo X1.here hx rfl (dE hby D50 1 rfl) rfl ((if0 _ _).trans (feq hw1).1)) ?_
  refine oS (fun _=>XS.aloadN X1.here hx rfl (dE hby D50 2 rfl) rfl rfl) ?_
  obtain ⟨T2,X2,e2,st2⟩:=getF X1 hx hZ hown (host:="") (Or.inl (oW hw 31 rfl)) Via.refl e1 HB.2.1 (g:=(mkF m 7 #[vr sb,vr a1] [(.ref sb)])) rfl rfl (dE hby D50 3 rfl)
  refine oS st2 ?_
  show gH (T2.setTop (mkF m 10 #[vr sb,vr a1] [(.int 1)])) ..
  refine oS (fun _=>XS.aloadN X2.here hx rfl (dE hby D50 4 rfl) rfl rfl) ?_
  obtain ⟨_,T3,L3,X3,⟨rfl,N3q,eh3⟩,st3⟩:=own_cV X2 hx hZ hown (own_co0 l Z a0 hw [] a1 w1 h0 O0 S1 hw1 Fc) (oW hw 236 rfl) (oW hw 106 rfl) (oW hw 108 rfl) (oW hw 107 rfl) (own_clsP (y:=(⟨"java/lang/String","coder","()B"⟩ : MethodName)) (oW hw 108 rfl)) Es (oW hw 28 rfl) (oW hw 109 rfl) (W:=1) (g:=(mkF m 11 #[vr sb,vr a1] [(.ref a1),(.int 1)])) rfl (by rw [hml]; rfl) (argsL:=[]) (rest:=[(.int 1)]) (lenOf own_pd34 rfl) rfl (dE hby D50 5 rfl) rfl e2 (by decide) (by decide)
  have N3:=Fr.app N0 N3q
  refine oS st3 ?_
  show gH (T3.setTop (mkF m 14 #[vr sb,vr a1] [(.int 0),(.int 1)])) ..
  refine oS (fun _=>XS.icmpNo X3.here hx rfl (dE hby D50 6 rfl) rfl (feq (by decide)).1) ?_
  refine oS (fun _=>XS.aloadN X3.here hx rfl (dE hby D50 8 rfl) rfl rfl) ?_
  obtain ⟨_,T4,L4,X4,⟨rfl,N4q,eh4⟩,st4⟩:=own_cP X3 hx hZ hown (own_inf1 l Z a0 hw [] sb bv n w1 h0 O0 S1 hw1 HB) (oW hw 237 rfl) (oW hw 238 rfl) (own_selP (own_clsP (oW hw 240 rfl)) (Cond.privateMethod_at (oW hw 239 rfl)) (oW hw 238 rfl) (by decide)) (oW hw 239 rfl) HB.1 (oW hw 24 rfl) (oW hw 241 rfl) (W:=0) (g:=(mkF m 18 #[vr sb,vr a1] [(.ref sb)])) rfl (by rw [hml]; rfl) (argsL:=[]) (rest:=[]) (lenOf own_pd14 rfl) rfl (dE hby D50 9 rfl) rfl eh3 (by decide) (by decide)
  have N4:=Fr.app N3 N4q
  refine oS st4 ?_
  show gH (T4.setTop (mkF m 21 #[vr sb,vr a1] [])) ..
  exact own_ret0 X4 hx hret hlk (dE hby D50 7 rfl) (by rw [eh4]; exact ⟨rfl,N4,rfl⟩) (by decide) (by decide)
theorem own_ifn0U (l:Launch) (Z:State) (a0:Array Value) (hw:∀ d∈tables_1,d.before a0 Z = true) (ws:List Jvm.Cond) (sb:Addr) (a1:Addr) (bv:Addr) (kb:ClassId) (w1:Int32) (fm:Value) (h0:Heap) (O0:Old Z Z.heap.size h0) (S1:Sta Z Z.heap "java/lang/String" "COMPACT_STRINGS" "Z" (.int w1)) (hw1:¬ (w1 = (0:Int32))) (US:own_US Z) (SF:Sta Z Z.heap "jdk/internal/util/Preconditions" "SIOOBE_FORMATTER" "Ljava/util/function/BiFunction;" fm) (hfm:fm = .null ∨ ∃ a,fm = .ref a) (gs:Z.heap.size≤sb) (HB:own_SBx Z h0 sb bv 0 0) (Vb:Arv Z h0 bv kb .byte (Int32.ofNat 16) (own_L1 []) (.int 0)) (Es:Exa Z h0 a1 "java/lang/String") (Fc:Fld Z h0 a1 "java/lang/String" "coder" "B" (.int 1)) :
    own_Met l Z (⟨"java/lang/AbstractStringBuilder","inflateIfNeededFor","(Ljava/lang/String;)V"⟩ : MethodName) jdk_68_method_71_code 2 none ws (⟨6,1,32,120⟩ : Room) #[(.ref sb),(.ref a1)] h0 (fun v h L=>v = none∧Fr Z.heap.size L∧Keep h0 h [sb]∧∃ d kd,h0.size≤d∧own_SBx Z h sb d 1 0∧Arv Z h d kd .byte (Int32.ofNat 32) (own_U2 []) (.int 0)) 1 32:=by
  refine own_bodyA (ef:=fun m=>mkF m 0 #[.val (.ref sb),.val (.ref a1)] []) (plainFor_of_name own_pn10) ?_
  intro p e s m below meth c T0 hx hZ hby hml hown hnm hret hlk X0 e0
  have N0:=Fr.nil Z.heap.size
  have z0 : Z.heap.size≤h0.size:=O0.2.1
  have Kr:=Keep.refl h0 [sb]
  obtain ⟨T1,X1,e1,st1⟩:=getS2 X0 hx hZ hown (host:="") (Or.inl (oW hw 27 rfl)) Via.refl e0 (Sta.ext O0.2 S1) (g:=(mkF m 0 #[vr sb,vr a1] [])) rfl (dE hby D50 0 rfl)
  refine oS st1 ?_
  show gH (T1.setTop (mkF m 3 #[vr sb,vr a1] [(.int w1)])) ..
  refine oS (fun _=>XS.ifNo X1.here hx rfl (dE hby D50 1 rfl) rfl ((if0 _ _).trans (feq hw1).1)) ?_
  refine oS (fun _=>XS.aloadN X1.here hx rfl (dE hby D50 2 rfl) rfl rfl) ?_
  obtain ⟨T2,X2,e2,st2⟩:=getF X1 hx hZ hown (host:="") (Or.inl (oW hw 31 rfl)) Via.refl e1 HB.2.1 (g:=(mkF m 7 #[vr sb,vr a1] [(.ref sb)])) rfl rfl (dE hby D50 3 rfl)
  refine oS st2 ?_
  show gH (T2.setTop (mkF m 10 #[vr sb,vr a1] [(.int 0)])) ..
  refine oS (fun _=>XS.aloadN X2.here hx rfl (dE hby D50 4 rfl) rfl rfl) ?_
  obtain ⟨_,T3,L3,X3,⟨rfl,N3q,eh3⟩,st3⟩:=own_cV X2 hx hZ hown (own_co1 l Z a0 hw [] a1 w1 h0 O0 S1 hw1 Fc) (oW hw 236 rfl) (oW hw 106 rfl) (oW hw 108 rfl) (oW hw 107 rfl) (own_clsP (y:=(⟨"java/lang/String","coder","()B"⟩ : MethodName)) (oW hw 108 rfl)) Es (oW hw 28 rfl) (oW hw 109 rfl) (W:=1) (g:=(mkF m 11 #[vr sb,vr a1] [(.ref a1),(.int 0)])) rfl (by rw [hml]; rfl) (argsL:=[]) (rest:=[(.int 0)]) (lenOf own_pd34 rfl) rfl (dE hby D50 5 rfl) rfl e2 (by decide) (by decide)
  have N3:=Fr.app N0 N3q
  refine oS st3 ?_
  show gH (T3.setTop (mkF m 14 #[vr sb,vr a1] [(.int 1),(.int 0)])) ..
  refine oS (fun _=>XS.icmpNo X3.here hx rfl (dE hby D50 6 rfl) rfl (feq (by decide)).1) ?_
  refine oS (fun _=>XS.aloadN X3.here hx rfl (dE hby D50 8 rfl) rfl rfl) ?_
  have ltsb:=oL HB.1.lt
  obtain ⟨_,T4,L4,X4,⟨rfl,N4q,K4_,Q_⟩,st4⟩:=own_cP X3 hx hZ hown (own_inf0 l Z a0 hw [] sb bv kb w1 fm h0 O0 S1 hw1 US SF hfm gs HB Vb) (oW hw 237 rfl) (oW hw 238 rfl) (own_selP (own_clsP (oW hw 240 rfl)) (Cond.privateMethod_at (oW hw 239 rfl)) (oW hw 238 rfl) (by decide)) (oW hw 239 rfl) HB.1 (oW hw 24 rfl) (oW hw 241 rfl) (W:=0) (g:=(mkF m 18 #[vr sb,vr a1] [(.ref sb)])) rfl (by rw [hml]; rfl) (argsL:=[]) (rest:=[]) (lenOf own_pd14 rfl) rfl (dE hby D50 9 rfl) rfl eh3 (by decide) (by decide)
  have N4:=Fr.app N3 N4q
  refine oS st4 ?_
  have z5:=K4_.1
  have O6:=Old.keep O0 K4_ (allS (by omega) all0)
  have K7:=Kr.trans K4_ (allS (Or.inl (by simp)) all0)
  show gH (T4.setTop (mkF m 21 #[vr sb,vr a1] [])) ..
  exact own_ret0 X4 hx hret hlk (dE hby D50 7 rfl) ⟨rfl,N4,K7,Q_⟩ (by decide) (by decide)
def L51 : List (Nat × Instr × Nat):=[(0,.aload_n 0,1),(1,.invokevirtual 335,3),(4,.iload_n 3,1),(5,.if_icmp .ne 23,3),(8,.aload_n 0,1),(9,.getfield 9,3),(12,.iconst 0,1),(13,.aload_n 1,1),(14,.iload_n 2,1),(15,.iload_n 3,1),(16,.ishl,1),(17,.aload_n 0,1),(18,.getfield 9,3),(21,.arraylength,1),(22,.invokestatic 212,3),(25,.goto 18,3),(43,.return_,1),(28,.aload_n 0,1),(29,.getfield 9,3),(32,.iconst 0,1),(33,.aload_n 1,1),(34,.iload_n 2,1),(35,.aload_n 0,1),(36,.getfield 9,3),(39,.arraylength,1),(40,.invokestatic 106,3)]
theorem D51 : ∀ q∈L51,decode jdk_42_method_147_code q.1 = .ok q.2:=by decide +kernel
theorem own_gbLL (l:Launch) (Z:State) (a0:Array Value) (hw:∀ d∈tables_1,d.before a0 Z = true) (ws:List Jvm.Cond) (a1:Addr) (d:Addr) (t:Addr) (kt kd : ClassId) (cs es : List Int32) (w1:Int32) (h0:Heap) (O0:Old Z Z.heap.size h0) (S1:Sta Z Z.heap "java/lang/String" "COMPACT_STRINGS" "Z" (.int w1)) (hw1:¬ (w1 = (0:Int32))) (net:@Ne Nat t d) (gd:Z.heap.size≤d) (hlen:cs.length+es.length≤15) (Hs:own_StL Z h0 a1 t kt es) (Vd:Arv Z h0 d kd .byte (Int32.ofNat 16) (own_L1 cs) (.int 0)) :
    own_Met l Z (⟨"java/lang/String","getBytes","([BIB)V"⟩ : MethodName) jdk_42_method_147_code 4 none ws (⟨1,0,0,30⟩ : Room) #[(.ref a1),(.ref d),(.int (.ofNat cs.length)),(.int 0)] h0 (fun v h L=>v = none∧Fr Z.heap.size L∧Keep h0 h [d]∧Arv Z h d kd .byte (Int32.ofNat 16) (own_L1 (cs++es)) (.int 0)) 0 0:=by
  refine own_bodyA (ef:=fun m=>mkF m 0 #[.val (.ref a1),.val (.ref d),.val (.int (Int32.ofNat cs.length)),.val (.int (0:Int32))] []) (plainFor_of_name own_pn7) ?_
  intro p e s m below meth c T0 hx hZ hby hml hown hnm hret hlk X0 e0
  have N0:=Fr.nil Z.heap.size
  have z0 : Z.heap.size≤h0.size:=O0.2.1
  have Kr:=Keep.refl h0 [d]
  show gH (T0.setTop (mkF m 0 #[vr a1,vr d,vi (.ofNat cs.length),vi 0] [])) ..
  have Vt:=Hs.2.2.2
  have ltt:=oL Vt.lt
  have ltd:=oL Vd.lt
  refine oS (fun _=>XS.aloadN X0.here hx rfl (dE hby D51 0 rfl) rfl rfl) ?_
  obtain ⟨_,T1,L1,X1,⟨rfl,N1q,eh1⟩,st1⟩:=own_cV X0 hx hZ hown (own_co0 l Z a0 hw [] a1 w1 h0 O0 S1 hw1 Hs.2.1) (oW hw 105 rfl) (oW hw 106 rfl) (oW hw 108 rfl) (oW hw 107 rfl) (own_clsP (y:=(⟨"java/lang/String","coder","()B"⟩ : MethodName)) (oW hw 108 rfl)) Hs.1 (oW hw 28 rfl) (oW hw 109 rfl) (W:=0) (g:=(mkF m 1 #[vr a1,vr d,vi (.ofNat cs.length),vi 0] [(.ref a1)])) rfl (by rw [hml]; rfl) (argsL:=[]) (rest:=[]) (lenOf own_pd34 rfl) rfl (dE hby D51 1 rfl) rfl e0 (by decide) (by decide)
  have N1:=Fr.app N0 N1q
  refine oS st1 ?_
  show gH (T1.setTop (mkF m 4 #[vr a1,vr d,vi (.ofNat cs.length),vi 0] [(.int 0)])) ..
  refine oS (fun _=>XS.iloadN X1.here hx rfl (dE hby D51 2 rfl) rfl) ?_
  refine oS (fun _=>XS.icmpNo X1.here hx rfl (dE hby D51 3 rfl) rfl (teq rfl).2) ?_
  refine oS (fun _=>XS.aloadN X1.here hx rfl (dE hby D51 4 rfl) rfl rfl) ?_
  obtain ⟨T2,X2,e2,st2⟩:=getF X1 hx hZ hown (host:="") (Or.inl (oW hw 96 rfl)) Via.refl eh1 Hs.2.2.1 (g:=(mkF m 9 #[vr a1,vr d,vi (.ofNat cs.length),vi 0] [(.ref a1)])) rfl rfl (dE hby D51 5 rfl)
  refine oS st2 ?_
  show gH (T2.setTop (mkF m 12 #[vr a1,vr d,vi (.ofNat cs.length),vi 0] [(.ref t)])) ..
  refine oS (fun _=>XS.iconst X2.here hx rfl (dE hby D51 6 rfl)) ?_
  refine oS (fun _=>XS.aloadN X2.here hx rfl (dE hby D51 7 rfl) rfl rfl) ?_
  refine oS (fun _=>XS.iloadN X2.here hx rfl (dE hby D51 8 rfl) rfl) ?_
  refine oS (fun _=>XS.iloadN X2.here hx rfl (dE hby D51 9 rfl) rfl) ?_
  refine oS (fun _=>XS.ishl X2.here hx rfl (dE hby D51 10 rfl) rfl) ?_
  show gH (T2.setTop (mkF m 17 #[vr a1,vr d,vi (.ofNat cs.length),vi 0] [(.int ((Int32.ofNat cs.length)<<<((0:Int32)&&&31))),(.ref d),(.int 0),(.ref t)])) ..
  rw [own_shl0 (by omega)]
  show gH (T2.setTop (mkF m 17 #[vr a1,vr d,vi (.ofNat cs.length),vi 0] [(.int (.ofNat cs.length)),(.ref d),(.int 0),(.ref t)])) ..
  refine oS (fun _=>XS.aloadN X2.here hx rfl (dE hby D51 11 rfl) rfl rfl) ?_
  obtain ⟨T3,X3,e3,st3⟩:=getF X2 hx hZ hown (host:="") (Or.inl (oW hw 96 rfl)) Via.refl e2 Hs.2.2.1 (g:=(mkF m 18 #[vr a1,vr d,vi (.ofNat cs.length),vi 0] [(.ref a1),(.int (.ofNat cs.length)),(.ref d),(.int 0),(.ref t)])) rfl rfl (dE hby D51 12 rfl)
  refine oS st3 ?_
  show gH (T3.setTop (mkF m 21 #[vr a1,vr d,vi (.ofNat cs.length),vi 0] [(.ref t),(.int (.ofNat cs.length)),(.ref d),(.int 0),(.ref t)])) ..
  obtain ⟨cl4,Ar4,qk4,Sz4,Mz4,Hz4,Uz4⟩:=id Vt
  refine oS (X3.arraylength hx (by rw [e3]; exact Ar4.1) (State.isArrayOf_alike hZ.alike Ar4.2.1) (g:=(mkF m 21 #[vr a1,vr d,vi (.ofNat cs.length),vi 0] [(.ref t),(.int (.ofNat cs.length)),(.ref d),(.int 0),(.ref t)])) rfl rfl (dE hby D51 13 rfl)) ?_
  rw [len_of Sz4 Mz4]
  have Vp5 : Arv Z h0 d kd .byte (Int32.ofNat 16) ((own_L1 cs)++List.replicate (es.length) (.int 0)) (.int 0):=Vd.pad (pad_rep _ _ (es.length))
  obtain ⟨T5,h5,L5,X5,e5,N5,K5_,V5,st5⟩:=cpA X3 hx hZ hown (oW hw 270 rfl) (oW hw 95 rfl) (oW hw 93 rfl) (oW hw 94 rfl) e3 Vt Vp5 (Or.inl ⟨rfl,rfl⟩) (by decide) (oN (by omega)) (oN (by omega)) (by rw [oC (by omega)]; first | (show 0+_≤_; omega) | (rw [oC (by omega)]; show 0+_≤_; omega)) (by rw [oC (by omega),oC (by omega)]; first | omega | (rw [oC (by omega)]; omega)) (us:=(List.range (es.length)).map fun i=>((own_L1 es)).getD (0+i) (.int 0)) (by rw [oC (by omega)]; rfl) (by rw [oC (by omega),oC (by omega),List.length_append,List.length_replicate,own_L1_len cs]; omega) N1 (by omega) (g:=(mkF m 22 #[vr a1,vr d,vi (.ofNat cs.length),vi 0] [(.int (.ofNat es.length)),(.int (.ofNat cs.length)),(.ref d),(.int 0),(.ref t)])) rfl (by rw [hml]; rfl) rfl (dE hby D51 14 rfl) (by decide) (W:=0) (by show 2 * 0+_≤_; exact Nat.le_of_eq rfl) (by decide)
  refine oS st5 ?_
  have z6:=K5_.1
  have O7:=Old.keep O0 K5_ (allS (by omega) all0)
  have K8:=Kr.trans K5_ (allS (Or.inl (by simp)) all0)
  have V5' : Arv Z h5 d kd .byte (Int32.ofNat 16) ((own_L1 cs)++(own_L1 es)) (.int 0):=own_acp (d:=cs.length) (k:=es.length) (by omega) (own_L1_len cs) (own_L1_len es) (by have q:=V5; rw [oC (n:=es.length) (by omega)] at q; exact q)
  show gH (T5.setTop (mkF m 25 #[vr a1,vr d,vi (.ofNat cs.length),vi 0] [])) ..
  refine oS (fun _=>XS.goto X5.here hx rfl (pc0:=25) (pc':=43) rfl (dE hby D51 15 rfl) (by decide) (by decide)) ?_
  show gH (T5.setTop (mkF m 43 #[vr a1,vr d,vi (.ofNat cs.length),vi 0] [])) ..
  exact own_ret0 X5 hx hret hlk (dE hby D51 16 rfl) (by rw [e5]; exact ⟨rfl,N5,K8,by rw [own_L1_app]; exact V5'⟩) (by decide) (by decide)
theorem own_gbUL (l:Launch) (Z:State) (a0:Array Value) (hw:∀ d∈tables_1,d.before a0 Z = true) (ws:List Jvm.Cond) (a1:Addr) (d:Addr) (t:Addr) (kt kd : ClassId) (cs es : List Int32) (w1:Int32) (fm:Value) (h0:Heap) (O0:Old Z Z.heap.size h0) (S1:Sta Z Z.heap "java/lang/String" "COMPACT_STRINGS" "Z" (.int w1)) (hw1:¬ (w1 = (0:Int32))) (US:own_US Z) (SF:Sta Z Z.heap "jdk/internal/util/Preconditions" "SIOOBE_FORMATTER" "Ljava/util/function/BiFunction;" fm) (hfm:fm = .null ∨ ∃ a,fm = .ref a) (net:@Ne Nat t d) (gd:Z.heap.size≤d) (hk:cs.length < 15) (hm:es.length < 3) (hlen:cs.length+es.length≤15) (hr:∀ c∈es,0≤c.toInt∧¬ (255:Int32) < c) (Hs:own_StL Z h0 a1 t kt es) (Vd:Arv Z h0 d kd .byte (Int32.ofNat 32) (own_U2 cs) (.int 0)) :
    own_Met l Z (⟨"java/lang/String","getBytes","([BIB)V"⟩ : MethodName) jdk_42_method_147_code 4 none ws (⟨5,0,0,100⟩ : Room) #[(.ref a1),(.ref d),(.int (.ofNat cs.length)),(.int 1)] h0 (fun v h L=>v = none∧Fr Z.heap.size L∧Keep h0 h [d]∧Arv Z h d kd .byte (Int32.ofNat 32) (own_U2 (cs++es)) (.int 0)) 0 0:=by
  refine own_bodyA (ef:=fun m=>mkF m 0 #[.val (.ref a1),.val (.ref d),.val (.int (Int32.ofNat cs.length)),.val (.int (1:Int32))] []) (plainFor_of_name own_pn7) ?_
  intro p e s m below meth c T0 hx hZ hby hml hown hnm hret hlk X0 e0
  have N0:=Fr.nil Z.heap.size
  have z0 : Z.heap.size≤h0.size:=O0.2.1
  have Kr:=Keep.refl h0 [d]
  show gH (T0.setTop (mkF m 0 #[vr a1,vr d,vi (.ofNat cs.length),vi 1] [])) ..
  have Vt:=Hs.2.2.2
  have ltt:=oL Vt.lt
  have ltd:=oL Vd.lt
  refine oS (fun _=>XS.aloadN X0.here hx rfl (dE hby D51 0 rfl) rfl rfl) ?_
  obtain ⟨_,T1,L1,X1,⟨rfl,N1q,eh1⟩,st1⟩:=own_cV X0 hx hZ hown (own_co0 l Z a0 hw [] a1 w1 h0 O0 S1 hw1 Hs.2.1) (oW hw 105 rfl) (oW hw 106 rfl) (oW hw 108 rfl) (oW hw 107 rfl) (own_clsP (y:=(⟨"java/lang/String","coder","()B"⟩ : MethodName)) (oW hw 108 rfl)) Hs.1 (oW hw 28 rfl) (oW hw 109 rfl) (W:=0) (g:=(mkF m 1 #[vr a1,vr d,vi (.ofNat cs.length),vi 1] [(.ref a1)])) rfl (by rw [hml]; rfl) (argsL:=[]) (rest:=[]) (lenOf own_pd34 rfl) rfl (dE hby D51 1 rfl) rfl e0 (by decide) (by decide)
  have N1:=Fr.app N0 N1q
  refine oS st1 ?_
  show gH (T1.setTop (mkF m 4 #[vr a1,vr d,vi (.ofNat cs.length),vi 1] [(.int 0)])) ..
  refine oS (fun _=>XS.iloadN X1.here hx rfl (dE hby D51 2 rfl) rfl) ?_
  refine oS (fun _=>XS.icmpYes X1.here hx rfl (pc0:=5) (pc':=28) rfl (dE hby D51 3 rfl) rfl (feq (by decide)).2 (by decide) (by decide)) ?_
  refine oS (fun _=>XS.aloadN X1.here hx rfl (dE hby D51 17 rfl) rfl rfl) ?_
  obtain ⟨T2,X2,e2,st2⟩:=getF X1 hx hZ hown (host:="") (Or.inl (oW hw 96 rfl)) Via.refl eh1 Hs.2.2.1 (g:=(mkF m 29 #[vr a1,vr d,vi (.ofNat cs.length),vi 1] [(.ref a1)])) rfl rfl (dE hby D51 18 rfl)
  refine oS st2 ?_
  show gH (T2.setTop (mkF m 32 #[vr a1,vr d,vi (.ofNat cs.length),vi 1] [(.ref t)])) ..
  refine oS (fun _=>XS.iconst X2.here hx rfl (dE hby D51 19 rfl)) ?_
  refine oS (fun _=>XS.aloadN X2.here hx rfl (dE hby D51 20 rfl) rfl rfl) ?_
  refine oS (fun _=>XS.iloadN X2.here hx rfl (dE hby D51 21 rfl) rfl) ?_
  refine oS (fun _=>XS.aloadN X2.here hx rfl (dE hby D51 22 rfl) rfl rfl) ?_
  obtain ⟨T3,X3,e3,st3⟩:=getF X2 hx hZ hown (host:="") (Or.inl (oW hw 96 rfl)) Via.refl e2 Hs.2.2.1 (g:=(mkF m 36 #[vr a1,vr d,vi (.ofNat cs.length),vi 1] [(.ref a1),(.int (.ofNat cs.length)),(.ref d),(.int 0),(.ref t)])) rfl rfl (dE hby D51 23 rfl)
  refine oS st3 ?_
  show gH (T3.setTop (mkF m 39 #[vr a1,vr d,vi (.ofNat cs.length),vi 1] [(.ref t),(.int (.ofNat cs.length)),(.ref d),(.int 0),(.ref t)])) ..
  obtain ⟨cl4,Ar4,qk4,Sz4,Mz4,Hz4,Uz4⟩:=id Vt
  refine oS (X3.arraylength hx (by rw [e3]; exact Ar4.1) (State.isArrayOf_alike hZ.alike Ar4.2.1) (g:=(mkF m 39 #[vr a1,vr d,vi (.ofNat cs.length),vi 1] [(.ref t),(.int (.ofNat cs.length)),(.ref d),(.int 0),(.ref t)])) rfl rfl (dE hby D51 24 rfl)) ?_
  rw [len_of Sz4 Mz4]
  obtain ⟨_,T5,L5,X5,⟨rfl,N5q,K5_,Vn⟩,st5⟩:=own_cS X3 hx hZ hown (own_linf l Z a0 hw [] t d fm kt kd cs es h0 O0 US SF hfm hk hm hlen hr net gd Vt Vd) (oW hw 312 rfl) (oW hw 245 rfl) (oW hw 246 rfl) (oW hw 247 rfl) (W:=0) (g:=(mkF m 40 #[vr a1,vr d,vi (.ofNat cs.length),vi 1] [(.int (.ofNat es.length)),(.int (.ofNat cs.length)),(.ref d),(.int 0),(.ref t)])) rfl (by rw [hml]; rfl) (argsL:=[(.ref t),(.int 0),(.ref d),(.int (.ofNat cs.length)),(.int (.ofNat es.length))]) (rest:=[]) (lenOf own_pd46 rfl) rfl (dE hby D51 25 rfl) rfl e3 (by decide) (by decide)
  have N5:=Fr.app N1 N5q
  refine oS st5 ?_
  have z6:=K5_.1
  have O7:=Old.keep O0 K5_ (allS (by omega) all0)
  have K8:=Kr.trans K5_ (allS (Or.inl (by simp)) all0)
  show gH (T5.setTop (mkF m 43 #[vr a1,vr d,vi (.ofNat cs.length),vi 1] [])) ..
  exact own_ret0 X5 hx hret hlk (dE hby D51 16 rfl) ⟨rfl,N5,K8,Vn⟩ (by decide) (by decide)
theorem own_gb0U (l:Launch) (Z:State) (a0:Array Value) (hw:∀ d∈tables_1,d.before a0 Z = true) (ws:List Jvm.Cond) (a1:Addr) (d:Addr) (t:Addr) (kt kd : ClassId) (es:List Int32) (w1:Int32) (h0:Heap) (O0:Old Z Z.heap.size h0) (S1:Sta Z Z.heap "java/lang/String" "COMPACT_STRINGS" "Z" (.int w1)) (hw1:¬ (w1 = (0:Int32))) (net:@Ne Nat t d) (gd:Z.heap.size≤d) (hlen:es.length≤15) (Hs:own_StU Z h0 a1 t kt es) (Vd:Arv Z h0 d kd .byte (Int32.ofNat 32) (own_U2 []) (.int 0)) :
    own_Met l Z (⟨"java/lang/String","getBytes","([BIB)V"⟩ : MethodName) jdk_42_method_147_code 4 none ws (⟨1,0,0,30⟩ : Room) #[(.ref a1),(.ref d),(.int (.ofNat 0)),(.int 1)] h0 (fun v h L=>v = none∧Fr Z.heap.size L∧Keep h0 h [d]∧Arv Z h d kd .byte (Int32.ofNat 32) (own_U2 es) (.int 0)) 0 0:=by
  refine own_bodyA (ef:=fun m=>mkF m 0 #[.val (.ref a1),.val (.ref d),.val (.int (Int32.ofNat 0)),.val (.int (1:Int32))] []) (plainFor_of_name own_pn7) ?_
  intro p e s m below meth c T0 hx hZ hby hml hown hnm hret hlk X0 e0
  have N0:=Fr.nil Z.heap.size
  have z0 : Z.heap.size≤h0.size:=O0.2.1
  have Kr:=Keep.refl h0 [d]
  show gH (T0.setTop (mkF m 0 #[vr a1,vr d,vi (.ofNat 0),vi 1] [])) ..
  have Vt:=Hs.2.2.2
  have ltt:=oL Vt.lt
  have ltd:=oL Vd.lt
  refine oS (fun _=>XS.aloadN X0.here hx rfl (dE hby D51 0 rfl) rfl rfl) ?_
  obtain ⟨_,T1,L1,X1,⟨rfl,N1q,eh1⟩,st1⟩:=own_cV X0 hx hZ hown (own_co1 l Z a0 hw [] a1 w1 h0 O0 S1 hw1 Hs.2.1) (oW hw 105 rfl) (oW hw 106 rfl) (oW hw 108 rfl) (oW hw 107 rfl) (own_clsP (y:=(⟨"java/lang/String","coder","()B"⟩ : MethodName)) (oW hw 108 rfl)) Hs.1 (oW hw 28 rfl) (oW hw 109 rfl) (W:=0) (g:=(mkF m 1 #[vr a1,vr d,vi (.ofNat 0),vi 1] [(.ref a1)])) rfl (by rw [hml]; rfl) (argsL:=[]) (rest:=[]) (lenOf own_pd34 rfl) rfl (dE hby D51 1 rfl) rfl e0 (by decide) (by decide)
  have N1:=Fr.app N0 N1q
  refine oS st1 ?_
  show gH (T1.setTop (mkF m 4 #[vr a1,vr d,vi (.ofNat 0),vi 1] [(.int 1)])) ..
  refine oS (fun _=>XS.iloadN X1.here hx rfl (dE hby D51 2 rfl) rfl) ?_
  refine oS (fun _=>XS.icmpNo X1.here hx rfl (dE hby D51 3 rfl) rfl (teq rfl).2) ?_
  refine oS (fun _=>XS.aloadN X1.here hx rfl (dE hby D51 4 rfl) rfl rfl) ?_
  obtain ⟨T2,X2,e2,st2⟩:=getF X1 hx hZ hown (host:="") (Or.inl (oW hw 96 rfl)) Via.refl eh1 Hs.2.2.1 (g:=(mkF m 9 #[vr a1,vr d,vi (.ofNat 0),vi 1] [(.ref a1)])) rfl rfl (dE hby D51 5 rfl)
  refine oS st2 ?_
  show gH (T2.setTop (mkF m 12 #[vr a1,vr d,vi (.ofNat 0),vi 1] [(.ref t)])) ..
  refine oS (fun _=>XS.iconst X2.here hx rfl (dE hby D51 6 rfl)) ?_
  refine oS (fun _=>XS.aloadN X2.here hx rfl (dE hby D51 7 rfl) rfl rfl) ?_
  refine oS (fun _=>XS.iloadN X2.here hx rfl (dE hby D51 8 rfl) rfl) ?_
  refine oS (fun _=>XS.iloadN X2.here hx rfl (dE hby D51 9 rfl) rfl) ?_
  refine oS (fun _=>XS.ishl X2.here hx rfl (dE hby D51 10 rfl) rfl) ?_
  show gH (T2.setTop (mkF m 17 #[vr a1,vr d,vi (.ofNat 0),vi 1] [(.int ((Int32.ofNat 0)<<<((1:Int32)&&&31))),(.ref d),(.int 0),(.ref t)])) ..
  rw [(show Int32.ofNat 0<<<((1:Int32)&&&31) = Int32.ofNat 0 from by decide)]
  show gH (T2.setTop (mkF m 17 #[vr a1,vr d,vi (.ofNat 0),vi 1] [(.int (.ofNat 0)),(.ref d),(.int 0),(.ref t)])) ..
  refine oS (fun _=>XS.aloadN X2.here hx rfl (dE hby D51 11 rfl) rfl rfl) ?_
  obtain ⟨T3,X3,e3,st3⟩:=getF X2 hx hZ hown (host:="") (Or.inl (oW hw 96 rfl)) Via.refl e2 Hs.2.2.1 (g:=(mkF m 18 #[vr a1,vr d,vi (.ofNat 0),vi 1] [(.ref a1),(.int (.ofNat 0)),(.ref d),(.int 0),(.ref t)])) rfl rfl (dE hby D51 12 rfl)
  refine oS st3 ?_
  show gH (T3.setTop (mkF m 21 #[vr a1,vr d,vi (.ofNat 0),vi 1] [(.ref t),(.int (.ofNat 0)),(.ref d),(.int 0),(.ref t)])) ..
  obtain ⟨cl4,Ar4,qk4,Sz4,Mz4,Hz4,Uz4⟩:=id Vt
  refine oS (X3.arraylength hx (by rw [e3]; exact Ar4.1) (State.isArrayOf_alike hZ.alike Ar4.2.1) (g:=(mkF m 21 #[vr a1,vr d,vi (.ofNat 0),vi 1] [(.ref t),(.int (.ofNat 0)),(.ref d),(.int 0),(.ref t)])) rfl rfl (dE hby D51 13 rfl)) ?_
  rw [len_of Sz4 Mz4]
  have Vp5 : Arv Z h0 d kd .byte (Int32.ofNat 32) ((own_U2 [])++List.replicate (2 * es.length) (.int 0)) (.int 0):=Vd.pad (pad_rep _ _ (2 * es.length))
  obtain ⟨T5,h5,L5,X5,e5,N5,K5_,V5,st5⟩:=cpA X3 hx hZ hown (oW hw 270 rfl) (oW hw 95 rfl) (oW hw 93 rfl) (oW hw 94 rfl) e3 Vt Vp5 (Or.inl ⟨rfl,rfl⟩) (by decide) (oN (by omega)) (oN (by omega)) (by rw [oC (by omega)]; first | (show 0+_≤_; omega) | (rw [oC (by omega)]; show 0+_≤_; omega)) (by rw [oC (by omega),oC (by omega)]; first | omega | (rw [oC (by omega)]; omega)) (us:=(List.range (2 * es.length)).map fun i=>((own_U2 es)).getD (0+i) (.int 0)) (by rw [oC (by omega)]; rfl) (by rw [oC (by omega),oC (by omega),List.length_append,List.length_replicate]; show _≤0+_; omega) N1 (by omega) (g:=(mkF m 22 #[vr a1,vr d,vi (.ofNat 0),vi 1] [(.int (.ofNat (2 * es.length))),(.int (.ofNat 0)),(.ref d),(.int 0),(.ref t)])) rfl (by rw [hml]; rfl) rfl (dE hby D51 14 rfl) (by decide) (W:=0) (by show 2 * 0+_≤_; exact Nat.le_of_eq rfl) (by decide)
  refine oS st5 ?_
  have z6:=K5_.1
  have O7:=Old.keep O0 K5_ (allS (by omega) all0)
  have K8:=Kr.trans K5_ (allS (Or.inl (by simp)) all0)
  have V5' : Arv Z h5 d kd .byte (Int32.ofNat 32) ((own_U2 [])++(own_U2 es)) (.int 0):=own_acp (d:=0) (k:=2 * es.length) (by omega) (rfl) (own_U2_len es) (by have q:=V5; rw [oC (n:=2 * es.length) (by omega)] at q; exact q)
  show gH (T5.setTop (mkF m 25 #[vr a1,vr d,vi (.ofNat 0),vi 1] [])) ..
  refine oS (fun _=>XS.goto X5.here hx rfl (pc0:=25) (pc':=43) rfl (dE hby D51 15 rfl) (by decide) (by decide)) ?_
  show gH (T5.setTop (mkF m 43 #[vr a1,vr d,vi (.ofNat 0),vi 1] [])) ..
  exact own_ret0 X5 hx hret hlk (dE hby D51 16 rfl) (by rw [e5]; exact ⟨rfl,N5,K8,V5'⟩) (by decide) (by decide)
def L52 : List (Nat × Instr × Nat):=[(0,.aload_n 0,1),(1,.aload_n 2,1),(2,.invokevirtual 397,3),(5,.aload_n 2,1),(6,.aload_n 0,1),(7,.getfield 15,3),(10,.iload_n 1,1),(11,.aload_n 0,1),(12,.getfield 22,3),(15,.invokevirtual 399,3),(18,.return_,1)]
theorem D52 : ∀ q∈L52,decode jdk_68_method_73_code q.1 = .ok q.2:=by decide +kernel
theorem own_pd47 : parseMethodDescriptor "(Ljava/lang/String;)V" = some ⟨[(.object "java/lang/String")],none⟩:=by decide +kernel
theorem own_pd48 : parseMethodDescriptor "([BIB)V" = some ⟨[(.array .byte),.int,.byte],none⟩:=by decide +kernel
theorem own_psaLL (l:Launch) (Z:State) (a0:Array Value) (hw:∀ d∈tables_1,d.before a0 Z = true) (ws:List Jvm.Cond) (sb:Addr) (a1:Addr) (t bv : Addr) (kt kb : ClassId) (cs es : List Int32) (w1:Int32) (fm:Value) (h0:Heap) (O0:Old Z Z.heap.size h0) (S1:Sta Z Z.heap "java/lang/String" "COMPACT_STRINGS" "Z" (.int w1)) (hw1:¬ (w1 = (0:Int32))) (US:own_US Z) (SF:Sta Z Z.heap "jdk/internal/util/Preconditions" "SIOOBE_FORMATTER" "Ljava/util/function/BiFunction;" fm) (hfm:fm = .null ∨ ∃ a,fm = .ref a) (gs:Z.heap.size≤sb) (gb:Z.heap.size≤bv) (nsb:@Ne Nat sb bv) (ntb:@Ne Nat t bv) (nts:@Ne Nat t sb) (nas:@Ne Nat a1 sb) (nab:@Ne Nat a1 bv) (hlen:cs.length+es.length≤15) (Hs:own_StL Z h0 a1 t kt es) (HB:own_SBx Z h0 sb bv 0 cs.length) (Vb:Arv Z h0 bv kb .byte (Int32.ofNat 16) (own_L1 cs) (.int 0)) :
    own_Met l Z (⟨"java/lang/AbstractStringBuilder","putStringAt","(ILjava/lang/String;)V"⟩ : MethodName) jdk_68_method_73_code 3 none ws (⟨7,0,0,140⟩ : Room) #[(.ref sb),(.int (.ofNat cs.length)),(.ref a1)] h0 (fun v h L=>v = none∧Fr Z.heap.size L∧Keep h0 h [bv]∧own_SBx Z h sb bv 0 cs.length∧Arv Z h bv kb .byte (Int32.ofNat 16) (own_L1 (cs++es)) (.int 0)) 0 0:=by
  refine own_bodyA (ef:=fun m=>mkF m 0 #[.val (.ref sb),.val (.int (Int32.ofNat cs.length)),.val (.ref a1)] []) (plainFor_of_name own_pn10) ?_
  intro p e s m below meth c T0 hx hZ hby hml hown hnm hret hlk X0 e0
  have N0:=Fr.nil Z.heap.size
  have z0 : Z.heap.size≤h0.size:=O0.2.1
  have Kr:=Keep.refl h0 [bv]
  show gH (T0.setTop (mkF m 0 #[vr sb,vi (.ofNat cs.length),vr a1] [])) ..
  have lta:=oL Hs.1.lt
  have ltt:=oL Hs.2.2.2.lt
  have ltsb:=oL HB.1.lt
  have ltbv:=oL Vb.lt
  refine oS (fun _=>XS.aloadN X0.here hx rfl (dE hby D52 0 rfl) rfl rfl) ?_
  refine oS (fun _=>XS.aloadN X0.here hx rfl (dE hby D52 1 rfl) rfl rfl) ?_
  obtain ⟨_,T1,L1,X1,⟨rfl,N1q,eh1⟩,st1⟩:=own_cP X0 hx hZ hown (own_ifnLL l Z a0 hw [] sb a1 bv cs.length w1 h0 O0 S1 hw1 HB Hs.1 Hs.2.1) (oW hw 231 rfl) (oW hw 232 rfl) (own_selP (own_clsP (oW hw 234 rfl)) (Cond.privateMethod_at (oW hw 233 rfl)) (oW hw 232 rfl) (by decide)) (oW hw 233 rfl) HB.1 (oW hw 24 rfl) (oW hw 235 rfl) (W:=0) (g:=(mkF m 2 #[vr sb,vi (.ofNat cs.length),vr a1] [(.ref a1),(.ref sb)])) rfl (by rw [hml]; rfl) (argsL:=[(.ref a1)]) (rest:=[]) (lenOf own_pd47 rfl) rfl (dE hby D52 2 rfl) rfl e0 (by decide) (by decide)
  have N1:=Fr.app N0 N1q
  refine oS st1 ?_
  show gH (T1.setTop (mkF m 5 #[vr sb,vi (.ofNat cs.length),vr a1] [])) ..
  refine oS (fun _=>XS.aloadN X1.here hx rfl (dE hby D52 3 rfl) rfl rfl) ?_
  refine oS (fun _=>XS.aloadN X1.here hx rfl (dE hby D52 4 rfl) rfl rfl) ?_
  obtain ⟨T2,X2,e2,st2⟩:=getF X1 hx hZ hown (host:="") (Or.inl (oW hw 29 rfl)) Via.refl eh1 HB.2.2.2.1 (g:=(mkF m 7 #[vr sb,vi (.ofNat cs.length),vr a1] [(.ref sb),(.ref a1)])) rfl rfl (dE hby D52 5 rfl)
  refine oS st2 ?_
  show gH (T2.setTop (mkF m 10 #[vr sb,vi (.ofNat cs.length),vr a1] [(.ref bv),(.ref a1)])) ..
  refine oS (fun _=>XS.iloadN X2.here hx rfl (dE hby D52 6 rfl) rfl) ?_
  refine oS (fun _=>XS.aloadN X2.here hx rfl (dE hby D52 7 rfl) rfl rfl) ?_
  obtain ⟨T3,X3,e3,st3⟩:=getF X2 hx hZ hown (host:="") (Or.inl (oW hw 31 rfl)) Via.refl e2 HB.2.1 (g:=(mkF m 12 #[vr sb,vi (.ofNat cs.length),vr a1] [(.ref sb),(.int (.ofNat cs.length)),(.ref bv),(.ref a1)])) rfl rfl (dE hby D52 8 rfl)
  refine oS st3 ?_
  obtain ⟨_,T4,L4,X4,⟨rfl,N4q,K4_,Vn⟩,st4⟩:=own_cV X3 hx hZ hown (own_gbLL l Z a0 hw [] a1 bv t kt kb cs es w1 h0 O0 S1 hw1 ntb gb hlen Hs Vb) (oW hw 265 rfl) (oW hw 266 rfl) (oW hw 268 rfl) (oW hw 267 rfl) (own_clsP (y:=(⟨"java/lang/String","getBytes","([BIB)V"⟩ : MethodName)) (oW hw 268 rfl)) Hs.1 (oW hw 28 rfl) (oW hw 269 rfl) (W:=0) (g:=(mkF m 15 #[vr sb,vi (.ofNat cs.length),vr a1] [(.int 0),(.int (.ofNat cs.length)),(.ref bv),(.ref a1)])) rfl (by rw [hml]; rfl) (argsL:=[(.ref bv),(.int (.ofNat cs.length)),(.int 0)]) (rest:=[]) (lenOf own_pd48 rfl) rfl (dE hby D52 9 rfl) rfl e3 (by decide) (by decide)
  have N4:=Fr.app N1 N4q
  refine oS st4 ?_
  have z5:=K4_.1
  have O6:=Old.keep O0 K4_ (allS (by omega) all0)
  have K7:=Kr.trans K4_ (allS (Or.inl (by simp)) all0)
  show gH (T4.setTop (mkF m 18 #[vr sb,vi (.ofNat cs.length),vr a1] [])) ..
  have q8:=(HB.1.keep K4_)
  have q9:=(HB.2.1.keep K4_ (ninS (show @Ne Nat sb bv by omega) nin0))
  have q10:=(HB.2.2.1.keep K4_ (ninS (show @Ne Nat sb bv by omega) nin0))
  have q11:=(HB.2.2.2.1.keep K4_ (ninS (show @Ne Nat sb bv by omega) nin0))
  have q12:=(HB.2.2.2.2.keep K4_ (ninS (show @Ne Nat sb bv by omega) nin0))
  exact own_ret0 X4 hx hret hlk (dE hby D52 10 rfl) ⟨rfl,N4,K7,⟨q8,q9,q10,q11,q12⟩,Vn⟩ (by decide) (by decide)
def L53 : List (Nat × Instr × Nat):=[(0,.aload_n 1,1),(1,.ifnonnull 8,3),(9,.aload_n 1,1),(10,.invokevirtual 32,3),(13,.istore_n 2,1),(14,.aload_n 0,1),(15,.aload_n 0,1),(16,.getfield 79,3),(19,.iload_n 2,1),(20,.iadd,1),(21,.invokevirtual 100,3),(24,.aload_n 0,1),(25,.aload_n 0,1),(26,.getfield 79,3),(29,.aload_n 1,1),(30,.invokevirtual 208,3),(33,.aload_n 0,1),(34,.dup,1),(35,.getfield 79,3),(38,.iload_n 2,1),(39,.iadd,1),(40,.putfield 79,3),(43,.aload_n 0,1),(44,.areturn,1)]
theorem D53 : ∀ q∈L53,decode jdk_68_method_22_code q.1 = .ok q.2:=by decide +kernel
theorem own_pd49 : parseMethodDescriptor "(ILjava/lang/String;)V" = some ⟨[.int,(.object "java/lang/String")],none⟩:=by decide +kernel
theorem own_aapLL (l:Launch) (Z:State) (a0:Array Value) (hw:∀ d∈tables_1,d.before a0 Z = true) (ws:List Jvm.Cond) (sb:Addr) (a1:Addr) (t bv : Addr) (kt kb : ClassId) (cs es : List Int32) (w1:Int32) (fm:Value) (h0:Heap) (O0:Old Z Z.heap.size h0) (S1:Sta Z Z.heap "java/lang/String" "COMPACT_STRINGS" "Z" (.int w1)) (hw1:¬ (w1 = (0:Int32))) (US:own_US Z) (SF:Sta Z Z.heap "jdk/internal/util/Preconditions" "SIOOBE_FORMATTER" "Ljava/util/function/BiFunction;" fm) (hfm:fm = .null ∨ ∃ a,fm = .ref a) (gs:Z.heap.size≤sb) (gb:Z.heap.size≤bv) (nsb:@Ne Nat sb bv) (ntb:@Ne Nat t bv) (nts:@Ne Nat t sb) (nas:@Ne Nat a1 sb) (nab:@Ne Nat a1 bv) (hlen:cs.length+es.length≤15) (Hs:own_StL Z h0 a1 t kt es) (HB:own_SBx Z h0 sb bv 0 cs.length) (Vb:Arv Z h0 bv kb .byte (Int32.ofNat 16) (own_L1 cs) (.int 0)) :
    own_Met l Z (⟨"java/lang/AbstractStringBuilder","append","(Ljava/lang/String;)Ljava/lang/AbstractStringBuilder;"⟩ : MethodName) jdk_68_method_22_code 3 (some (.object "java/lang/AbstractStringBuilder")) ws (⟨8,0,0,160⟩ : Room) #[(.ref sb),(.ref a1)] h0 (fun v h L=>v = some (.ref sb)∧Fr Z.heap.size L∧Keep h0 h [sb,bv]∧own_SBL Z h sb bv kb (cs++es)) 0 0:=by
  refine own_bodyA (ef:=fun m=>mkF m 0 #[.val (.ref sb),.val (.ref a1),.unset] []) (plainFor_of_name own_pn10) ?_
  intro p e s m below meth c T0 hx hZ hby hml hown hnm hret hlk X0 e0
  have N0:=Fr.nil Z.heap.size
  have z0 : Z.heap.size≤h0.size:=O0.2.1
  have Kr:=Keep.refl h0 [sb,bv]
  show gH (T0.setTop (mkF m 0 #[vr sb,vr a1,.unset] [])) ..
  have lta:=oL Hs.1.lt
  have ltt:=oL Hs.2.2.2.lt
  have ltsb:=oL HB.1.lt
  have ltbv:=oL Vb.lt
  refine oS (fun _=>XS.aloadN X0.here hx rfl (dE hby D53 0 rfl) rfl rfl) ?_
  refine oS (fun _=>XS.ifnonnullYes X0.here hx rfl (pc0:=1) (pc':=9) rfl (dE hby D53 1 rfl) rfl (by decide) (by decide)) ?_
  refine oS (fun _=>XS.aloadN X0.here hx rfl (dE hby D53 2 rfl) rfl rfl) ?_
  obtain ⟨_,T1,L1,X1,⟨rfl,N1q,eh1⟩,st1⟩:=own_cV X0 hx hZ hown (own_lenL l Z a0 hw [] a1 t kt es w1 h0 O0 S1 hw1 (by omega) Hs) (oW hw 216 rfl) (oW hw 217 rfl) (oW hw 219 rfl) (oW hw 218 rfl) (own_clsP (y:=(⟨"java/lang/String","length","()I"⟩ : MethodName)) (oW hw 219 rfl)) Hs.1 (oW hw 28 rfl) (oW hw 220 rfl) (W:=0) (g:=(mkF m 10 #[vr sb,vr a1,.unset] [(.ref a1)])) rfl (by rw [hml]; rfl) (argsL:=[]) (rest:=[]) (lenOf own_pd15 rfl) rfl (dE hby D53 3 rfl) rfl e0 (by decide) (by decide)
  have N1:=Fr.app N0 N1q
  refine oS st1 ?_
  show gH (T1.setTop (mkF m 13 #[vr sb,vr a1,.unset] [(.int (.ofNat es.length))])) ..
  refine oS (fun _=>XS.istoreN X1.here hx rfl (dE hby D53 4 rfl) rfl (l':=#[vr sb,vr a1,vi (.ofNat es.length)]) rfl) ?_
  refine oS (fun _=>XS.aloadN X1.here hx rfl (dE hby D53 5 rfl) rfl rfl) ?_
  refine oS (fun _=>XS.aloadN X1.here hx rfl (dE hby D53 6 rfl) rfl rfl) ?_
  obtain ⟨T2,X2,e2,st2⟩:=getF X1 hx hZ hown (host:="") (Or.inl (oW hw 69 rfl)) Via.refl eh1 HB.2.2.1 (g:=(mkF m 16 #[vr sb,vr a1,vi (.ofNat es.length)] [(.ref sb),(.ref sb)])) rfl rfl (dE hby D53 7 rfl)
  refine oS st2 ?_
  show gH (T2.setTop (mkF m 19 #[vr sb,vr a1,vi (.ofNat es.length)] [(.int (.ofNat cs.length)),(.ref sb)])) ..
  refine oS (fun _=>XS.iloadN X2.here hx rfl (dE hby D53 8 rfl) rfl) ?_
  refine oS (fun _=>XS.iadd X2.here hx rfl (dE hby D53 9 rfl) rfl) ?_
  show gH (T2.setTop (mkF m 21 #[vr sb,vr a1,vi (.ofNat es.length)] [(.int ((Int32.ofNat cs.length)+(Int32.ofNat es.length))),(.ref sb)])) ..
  rw [own_plus cs.length es.length]
  obtain ⟨_,T3,L3,X3,⟨rfl,N3q,eh3⟩,st3⟩:=own_cP X2 hx hZ hown (own_ens0 l Z a0 hw [] sb (cs.length+es.length) bv kb (own_L1 cs) h0 O0 (by omega) HB.2.2.2.1 HB.2.1 Vb) (oW hw 221 rfl) (oW hw 222 rfl) (own_selP (own_clsP (oW hw 224 rfl)) (Cond.privateMethod_at (oW hw 223 rfl)) (oW hw 222 rfl) (by decide)) (oW hw 223 rfl) HB.1 (oW hw 24 rfl) (oW hw 225 rfl) (W:=0) (g:=(mkF m 21 #[vr sb,vr a1,vi (.ofNat es.length)] [(.int (.ofNat (cs.length+es.length))),(.ref sb)])) rfl (by rw [hml]; rfl) (argsL:=[(.int (.ofNat (cs.length+es.length)))]) (rest:=[]) (lenOf own_pd12 rfl) rfl (dE hby D53 10 rfl) rfl e2 (by decide) (by decide)
  have N3:=Fr.app N1 N3q
  refine oS st3 ?_
  show gH (T3.setTop (mkF m 24 #[vr sb,vr a1,vi (.ofNat es.length)] [])) ..
  refine oS (fun _=>XS.aloadN X3.here hx rfl (dE hby D53 11 rfl) rfl rfl) ?_
  refine oS (fun _=>XS.aloadN X3.here hx rfl (dE hby D53 12 rfl) rfl rfl) ?_
  obtain ⟨T4,X4,e4,st4⟩:=getF X3 hx hZ hown (host:="") (Or.inl (oW hw 69 rfl)) Via.refl eh3 HB.2.2.1 (g:=(mkF m 26 #[vr sb,vr a1,vi (.ofNat es.length)] [(.ref sb),(.ref sb)])) rfl rfl (dE hby D53 13 rfl)
  refine oS st4 ?_
  show gH (T4.setTop (mkF m 29 #[vr sb,vr a1,vi (.ofNat es.length)] [(.int (.ofNat cs.length)),(.ref sb)])) ..
  refine oS (fun _=>XS.aloadN X4.here hx rfl (dE hby D53 14 rfl) rfl rfl) ?_
  obtain ⟨_,T5,L5,X5,⟨rfl,N5q,K5_,HB2,Vn⟩,st5⟩:=own_cP X4 hx hZ hown (own_psaLL l Z a0 hw [] sb a1 t bv kt kb cs es w1 fm h0 O0 S1 hw1 US SF hfm gs gb nsb ntb nts nas nab hlen Hs HB Vb) (oW hw 226 rfl) (oW hw 227 rfl) (own_selP (own_clsP (oW hw 229 rfl)) (Cond.privateMethod_at (oW hw 228 rfl)) (oW hw 227 rfl) (by decide)) (oW hw 228 rfl) HB.1 (oW hw 24 rfl) (oW hw 230 rfl) (W:=0) (g:=(mkF m 30 #[vr sb,vr a1,vi (.ofNat es.length)] [(.ref a1),(.int (.ofNat cs.length)),(.ref sb)])) rfl (by rw [hml]; rfl) (argsL:=[(.int (.ofNat cs.length)),(.ref a1)]) (rest:=[]) (lenOf own_pd49 rfl) rfl (dE hby D53 15 rfl) rfl e4 (by decide) (by decide)
  have N5:=Fr.app N3 N5q
  refine oS st5 ?_
  have z6:=K5_.1
  have O7:=Old.keep O0 K5_ (allS (by omega) all0)
  have K8:=Kr.trans K5_ (allS (Or.inl (by simp)) all0)
  show gH (T5.setTop (mkF m 33 #[vr sb,vr a1,vi (.ofNat es.length)] [])) ..
  have ltd:=oL Vn.lt
  refine oS (fun _=>XS.aloadN X5.here hx rfl (dE hby D53 16 rfl) rfl rfl) ?_
  refine oS (fun _=>XS.dup X5.here hx rfl (dE hby D53 17 rfl) rfl rfl) ?_
  obtain ⟨T9,X9,e9,st9⟩:=getF X5 hx hZ hown (host:="") (Or.inl (oW hw 69 rfl)) Via.refl rfl HB2.2.2.1 (g:=(mkF m 35 #[vr sb,vr a1,vi (.ofNat es.length)] [(.ref sb),(.ref sb)])) rfl rfl (dE hby D53 18 rfl)
  refine oS st9 ?_
  show gH (T9.setTop (mkF m 38 #[vr sb,vr a1,vi (.ofNat es.length)] [(.int (.ofNat cs.length)),(.ref sb)])) ..
  refine oS (fun _=>XS.iloadN X9.here hx rfl (dE hby D53 19 rfl) rfl) ?_
  refine oS (fun _=>XS.iadd X9.here hx rfl (dE hby D53 20 rfl) rfl) ?_
  show gH (T9.setTop (mkF m 40 #[vr sb,vr a1,vi (.ofNat es.length)] [(.int ((Int32.ofNat cs.length)+(Int32.ofNat es.length))),(.ref sb)])) ..
  rw [own_plus cs.length es.length]
  obtain ⟨T10,h10,X10,e10,W10,st10⟩:=putF X9 hx hZ hown (host:="") (Or.inl (oW hw 69 rfl)) Via.refl e9 HB2.2.2.1 HB2.1 (Or.inl (oW hw 70 rfl)) (oW hw 15 rfl) (ty:=.int) (by decide) rfl rfl (g:=(mkF m 40 #[vr sb,vr a1,vi (.ofNat es.length)] [(.int (.ofNat (cs.length+es.length))),(.ref sb)])) rfl rfl (dE hby D53 21 rfl)
  refine oS st10 ?_
  have z11:=W10.size
  have O12:=Old.wr O7 W10 (by omega)
  have K13:=K8.wr W10 (Or.inl (by simp))
  have N10:=Fr.snoc X10 N5 (by omega : Z.heap.size≤sb)
  have Fw10:=HB2.2.2.1.same W10
  show gH (T10.setTop (mkF m 43 #[vr sb,vr a1,vi (.ofNat es.length)] [])) ..
  refine oS (fun _=>XS.aloadN X10.here hx rfl (dE hby D53 22 rfl) rfl rfl) ?_
  show gH (T10.setTop (mkF m 44 #[vr sb,vr a1,vi (.ofNat es.length)] [(.ref sb)])) ..
  have Fcn : Fld Z h10 sb "java/lang/AbstractStringBuilder" "count" "I" (.int (.ofNat (cs++es).length)):=by have q:=Fw10; rw [List.length_append]; exact q
  have q14:=(HB2.1.wr W10)
  have q15:=(HB2.2.1.other W10 (Or.inr (slot_ne (Or.inl (oW hw 32 rfl)) (Or.inl (oW hw 70 rfl)) (by decide) (t:=.byte) (t':=.int) (by decide) (by decide))))
  have q16:=(HB2.2.2.2.1.other W10 (Or.inr (slot_ne (Or.inl (oW hw 30 rfl)) (Or.inl (oW hw 70 rfl)) (by decide) (t:=(.array .byte)) (t':=.int) (by decide) (by decide))))
  have q17:=(HB2.2.2.2.2.other W10 (Or.inr (slot_ne (Or.inl (oW hw 314 rfl)) (Or.inl (oW hw 70 rfl)) (by decide) (t:=.boolean) (t':=.int) (by decide) (by decide))))
  have q18:=(Vn.other W10 (show @Ne Nat bv sb by omega))
  exact own_retA X10 hx hret rfl rfl hlk (dE hby D53 23 rfl) (by rw [e10]; exact ⟨rfl,N10,K13,⟨⟨q14,q15,Fcn,q16,q17⟩,q18⟩⟩) (by decide) (by decide)
def L54 : List (Nat × Instr × Nat):=[(0,.aload_n 0,1),(1,.aload_n 1,1),(2,.invokespecial 29,3),(5,.pop,1),(6,.aload_n 0,1),(7,.areturn,1)]
theorem D54 : ∀ q∈L54,decode jdk_67_method_7_code q.1 = .ok q.2:=by decide +kernel
theorem own_pd50 : parseMethodDescriptor "(Ljava/lang/String;)Ljava/lang/AbstractStringBuilder;" = some ⟨[(.object "java/lang/String")],some (.object "java/lang/AbstractStringBuilder")⟩:=by decide +kernel
theorem own_sapLL (l:Launch) (Z:State) (a0:Array Value) (hw:∀ d∈tables_1,d.before a0 Z = true) (ws:List Jvm.Cond) (sb:Addr) (a1:Addr) (t bv : Addr) (kt kb : ClassId) (cs es : List Int32) (w1:Int32) (fm:Value) (h0:Heap) (O0:Old Z Z.heap.size h0) (S1:Sta Z Z.heap "java/lang/String" "COMPACT_STRINGS" "Z" (.int w1)) (hw1:¬ (w1 = (0:Int32))) (US:own_US Z) (SF:Sta Z Z.heap "jdk/internal/util/Preconditions" "SIOOBE_FORMATTER" "Ljava/util/function/BiFunction;" fm) (hfm:fm = .null ∨ ∃ a,fm = .ref a) (gs:Z.heap.size≤sb) (gb:Z.heap.size≤bv) (nsb:@Ne Nat sb bv) (ntb:@Ne Nat t bv) (nts:@Ne Nat t sb) (nas:@Ne Nat a1 sb) (nab:@Ne Nat a1 bv) (hlen:cs.length+es.length≤15) (Hs:own_StL Z h0 a1 t kt es) (HB:own_SBx Z h0 sb bv 0 cs.length) (Vb:Arv Z h0 bv kb .byte (Int32.ofNat 16) (own_L1 cs) (.int 0)) :
    own_Met l Z (⟨"java/lang/StringBuilder","append","(Ljava/lang/String;)Ljava/lang/StringBuilder;"⟩ : MethodName) jdk_67_method_7_code 2 (some (.object "java/lang/StringBuilder")) ws (⟨9,0,0,180⟩ : Room) #[(.ref sb),(.ref a1)] h0 (fun v h L=>v = some (.ref sb)∧Fr Z.heap.size L∧Keep h0 h [sb,bv]∧own_SBL Z h sb bv kb (cs++es)) 0 0:=by
  refine own_bodyA (ef:=fun m=>mkF m 0 #[.val (.ref sb),.val (.ref a1)] []) (plainFor_of_name own_pn11) ?_
  intro p e s m below meth c T0 hx hZ hby hml hown hnm hret hlk X0 e0
  have N0:=Fr.nil Z.heap.size
  have z0 : Z.heap.size≤h0.size:=O0.2.1
  have Kr:=Keep.refl h0 [sb,bv]
  show gH (T0.setTop (mkF m 0 #[vr sb,vr a1] [])) ..
  have ltsb:=oL HB.1.lt
  have ltbv:=oL Vb.lt
  refine oS (fun _=>XS.aloadN X0.here hx rfl (dE hby D54 0 rfl) rfl rfl) ?_
  refine oS (fun _=>XS.aloadN X0.here hx rfl (dE hby D54 1 rfl) rfl rfl) ?_
  obtain ⟨_,T1,L1,X1,⟨rfl,N1q,K1_,Q_⟩,st1⟩:=own_cU X0 hx hZ hown (own_aapLL l Z a0 hw [] sb a1 t bv kt kb cs es w1 fm h0 O0 S1 hw1 US SF hfm gs gb nsb ntb nts nas nab hlen Hs HB Vb) (oW hw 212 rfl) (oW hw 213 rfl) (own_sameM (own_clsP (y:=(⟨"java/lang/AbstractStringBuilder","getValue","()[B"⟩ : MethodName)) (oW hw 58 rfl)) (oW hw 213 rfl) (by decide)) (oW hw 67 rfl) (by decide) HB.1 (oW hw 24 rfl) (oW hw 215 rfl) (W:=0) (g:=(mkF m 2 #[vr sb,vr a1] [(.ref a1),(.ref sb)])) rfl (by rw [hml]; rfl) (argsL:=[(.ref a1)]) (rest:=[]) (lenOf own_pd50 rfl) rfl (dE hby D54 2 rfl) rfl e0 (by decide) (by decide)
  have N1:=Fr.app N0 N1q
  refine oS st1 ?_
  have z2:=K1_.1
  have O3:=Old.keep O0 K1_ (allS (by omega) (allS (by omega) all0))
  have K4:=Kr.trans K1_ (allS (Or.inl (by simp)) (allS (Or.inl (by simp)) all0))
  show gH (T1.setTop (mkF m 5 #[vr sb,vr a1] [(.ref sb)])) ..
  refine oS (fun _=>XS.pop X1.here hx rfl (dE hby D54 3 rfl) rfl rfl) ?_
  refine oS (fun _=>XS.aloadN X1.here hx rfl (dE hby D54 4 rfl) rfl rfl) ?_
  show gH (T1.setTop (mkF m 7 #[vr sb,vr a1] [(.ref sb)])) ..
  exact own_retA X1 hx hret rfl rfl hlk (dE hby D54 5 rfl) ⟨rfl,N1,K4,Q_⟩ (by decide) (by decide)
theorem own_psaUL (l:Launch) (Z:State) (a0:Array Value) (hw:∀ d∈tables_1,d.before a0 Z = true) (ws:List Jvm.Cond) (sb:Addr) (a1:Addr) (t bv : Addr) (kt kb : ClassId) (cs es : List Int32) (w1:Int32) (fm:Value) (h0:Heap) (O0:Old Z Z.heap.size h0) (S1:Sta Z Z.heap "java/lang/String" "COMPACT_STRINGS" "Z" (.int w1)) (hw1:¬ (w1 = (0:Int32))) (US:own_US Z) (SF:Sta Z Z.heap "jdk/internal/util/Preconditions" "SIOOBE_FORMATTER" "Ljava/util/function/BiFunction;" fm) (hfm:fm = .null ∨ ∃ a,fm = .ref a) (gs:Z.heap.size≤sb) (gb:Z.heap.size≤bv) (nsb:@Ne Nat sb bv) (ntb:@Ne Nat t bv) (nts:@Ne Nat t sb) (nas:@Ne Nat a1 sb) (nab:@Ne Nat a1 bv) (hk:cs.length < 15) (hm:es.length < 3) (hlen:cs.length+es.length≤15) (hr:∀ c∈es,0≤c.toInt∧¬ (255:Int32) < c) (Hs:own_StL Z h0 a1 t kt es) (HB:own_SBx Z h0 sb bv 1 cs.length) (Vb:Arv Z h0 bv kb .byte (Int32.ofNat 32) (own_U2 cs) (.int 0)) :
    own_Met l Z (⟨"java/lang/AbstractStringBuilder","putStringAt","(ILjava/lang/String;)V"⟩ : MethodName) jdk_68_method_73_code 3 none ws (⟨7,0,0,140⟩ : Room) #[(.ref sb),(.int (.ofNat cs.length)),(.ref a1)] h0 (fun v h L=>v = none∧Fr Z.heap.size L∧Keep h0 h [bv]∧own_SBx Z h sb bv 1 cs.length∧Arv Z h bv kb .byte (Int32.ofNat 32) (own_U2 (cs++es)) (.int 0)) 0 0:=by
  refine own_bodyA (ef:=fun m=>mkF m 0 #[.val (.ref sb),.val (.int (Int32.ofNat cs.length)),.val (.ref a1)] []) (plainFor_of_name own_pn10) ?_
  intro p e s m below meth c T0 hx hZ hby hml hown hnm hret hlk X0 e0
  have N0:=Fr.nil Z.heap.size
  have z0 : Z.heap.size≤h0.size:=O0.2.1
  have Kr:=Keep.refl h0 [bv]
  show gH (T0.setTop (mkF m 0 #[vr sb,vi (.ofNat cs.length),vr a1] [])) ..
  have lta:=oL Hs.1.lt
  have ltt:=oL Hs.2.2.2.lt
  have ltsb:=oL HB.1.lt
  have ltbv:=oL Vb.lt
  refine oS (fun _=>XS.aloadN X0.here hx rfl (dE hby D52 0 rfl) rfl rfl) ?_
  refine oS (fun _=>XS.aloadN X0.here hx rfl (dE hby D52 1 rfl) rfl rfl) ?_
  obtain ⟨_,T1,L1,X1,⟨rfl,N1q,eh1⟩,st1⟩:=own_cP X0 hx hZ hown (own_ifnUL l Z a0 hw [] sb a1 bv cs.length w1 h0 O0 S1 hw1 HB Hs.1 Hs.2.1) (oW hw 231 rfl) (oW hw 232 rfl) (own_selP (own_clsP (oW hw 234 rfl)) (Cond.privateMethod_at (oW hw 233 rfl)) (oW hw 232 rfl) (by decide)) (oW hw 233 rfl) HB.1 (oW hw 24 rfl) (oW hw 235 rfl) (W:=0) (g:=(mkF m 2 #[vr sb,vi (.ofNat cs.length),vr a1] [(.ref a1),(.ref sb)])) rfl (by rw [hml]; rfl) (argsL:=[(.ref a1)]) (rest:=[]) (lenOf own_pd47 rfl) rfl (dE hby D52 2 rfl) rfl e0 (by decide) (by decide)
  have N1:=Fr.app N0 N1q
  refine oS st1 ?_
  show gH (T1.setTop (mkF m 5 #[vr sb,vi (.ofNat cs.length),vr a1] [])) ..
  refine oS (fun _=>XS.aloadN X1.here hx rfl (dE hby D52 3 rfl) rfl rfl) ?_
  refine oS (fun _=>XS.aloadN X1.here hx rfl (dE hby D52 4 rfl) rfl rfl) ?_
  obtain ⟨T2,X2,e2,st2⟩:=getF X1 hx hZ hown (host:="") (Or.inl (oW hw 29 rfl)) Via.refl eh1 HB.2.2.2.1 (g:=(mkF m 7 #[vr sb,vi (.ofNat cs.length),vr a1] [(.ref sb),(.ref a1)])) rfl rfl (dE hby D52 5 rfl)
  refine oS st2 ?_
  show gH (T2.setTop (mkF m 10 #[vr sb,vi (.ofNat cs.length),vr a1] [(.ref bv),(.ref a1)])) ..
  refine oS (fun _=>XS.iloadN X2.here hx rfl (dE hby D52 6 rfl) rfl) ?_
  refine oS (fun _=>XS.aloadN X2.here hx rfl (dE hby D52 7 rfl) rfl rfl) ?_
  obtain ⟨T3,X3,e3,st3⟩:=getF X2 hx hZ hown (host:="") (Or.inl (oW hw 31 rfl)) Via.refl e2 HB.2.1 (g:=(mkF m 12 #[vr sb,vi (.ofNat cs.length),vr a1] [(.ref sb),(.int (.ofNat cs.length)),(.ref bv),(.ref a1)])) rfl rfl (dE hby D52 8 rfl)
  refine oS st3 ?_
  obtain ⟨_,T4,L4,X4,⟨rfl,N4q,K4_,Vn⟩,st4⟩:=own_cV X3 hx hZ hown (own_gbUL l Z a0 hw [] a1 bv t kt kb cs es w1 fm h0 O0 S1 hw1 US SF hfm ntb gb hk hm hlen hr Hs Vb) (oW hw 265 rfl) (oW hw 266 rfl) (oW hw 268 rfl) (oW hw 267 rfl) (own_clsP (y:=(⟨"java/lang/String","getBytes","([BIB)V"⟩ : MethodName)) (oW hw 268 rfl)) Hs.1 (oW hw 28 rfl) (oW hw 269 rfl) (W:=0) (g:=(mkF m 15 #[vr sb,vi (.ofNat cs.length),vr a1] [(.int 1),(.int (.ofNat cs.length)),(.ref bv),(.ref a1)])) rfl (by rw [hml]; rfl) (argsL:=[(.ref bv),(.int (.ofNat cs.length)),(.int 1)]) (rest:=[]) (lenOf own_pd48 rfl) rfl (dE hby D52 9 rfl) rfl e3 (by decide) (by decide)
  have N4:=Fr.app N1 N4q
  refine oS st4 ?_
  have z5:=K4_.1
  have O6:=Old.keep O0 K4_ (allS (by omega) all0)
  have K7:=Kr.trans K4_ (allS (Or.inl (by simp)) all0)
  show gH (T4.setTop (mkF m 18 #[vr sb,vi (.ofNat cs.length),vr a1] [])) ..
  have q8:=(HB.1.keep K4_)
  have q9:=(HB.2.1.keep K4_ (ninS (show @Ne Nat sb bv by omega) nin0))
  have q10:=(HB.2.2.1.keep K4_ (ninS (show @Ne Nat sb bv by omega) nin0))
  have q11:=(HB.2.2.2.1.keep K4_ (ninS (show @Ne Nat sb bv by omega) nin0))
  have q12:=(HB.2.2.2.2.keep K4_ (ninS (show @Ne Nat sb bv by omega) nin0))
  exact own_ret0 X4 hx hret hlk (dE hby D52 10 rfl) ⟨rfl,N4,K7,⟨q8,q9,q10,q11,q12⟩,Vn⟩ (by decide) (by decide)
theorem own_aapUL (l:Launch) (Z:State) (a0:Array Value) (hw:∀ d∈tables_1,d.before a0 Z = true) (ws:List Jvm.Cond) (sb:Addr) (a1:Addr) (t bv : Addr) (kt kb : ClassId) (cs es : List Int32) (w1:Int32) (fm:Value) (h0:Heap) (O0:Old Z Z.heap.size h0) (S1:Sta Z Z.heap "java/lang/String" "COMPACT_STRINGS" "Z" (.int w1)) (hw1:¬ (w1 = (0:Int32))) (US:own_US Z) (SF:Sta Z Z.heap "jdk/internal/util/Preconditions" "SIOOBE_FORMATTER" "Ljava/util/function/BiFunction;" fm) (hfm:fm = .null ∨ ∃ a,fm = .ref a) (gs:Z.heap.size≤sb) (gb:Z.heap.size≤bv) (nsb:@Ne Nat sb bv) (ntb:@Ne Nat t bv) (nts:@Ne Nat t sb) (nas:@Ne Nat a1 sb) (nab:@Ne Nat a1 bv) (hk:cs.length < 15) (hm:es.length < 3) (hlen:cs.length+es.length≤15) (hr:∀ c∈es,0≤c.toInt∧¬ (255:Int32) < c) (Hs:own_StL Z h0 a1 t kt es) (HB:own_SBx Z h0 sb bv 1 cs.length) (Vb:Arv Z h0 bv kb .byte (Int32.ofNat 32) (own_U2 cs) (.int 0)) :
    own_Met l Z (⟨"java/lang/AbstractStringBuilder","append","(Ljava/lang/String;)Ljava/lang/AbstractStringBuilder;"⟩ : MethodName) jdk_68_method_22_code 3 (some (.object "java/lang/AbstractStringBuilder")) ws (⟨8,0,0,160⟩ : Room) #[(.ref sb),(.ref a1)] h0 (fun v h L=>v = some (.ref sb)∧Fr Z.heap.size L∧Keep h0 h [sb,bv]∧own_SBU Z h sb bv kb (cs++es)) 0 0:=by
  refine own_bodyA (ef:=fun m=>mkF m 0 #[.val (.ref sb),.val (.ref a1),.unset] []) (plainFor_of_name own_pn10) ?_
  intro p e s m below meth c T0 hx hZ hby hml hown hnm hret hlk X0 e0
  have N0:=Fr.nil Z.heap.size
  have z0 : Z.heap.size≤h0.size:=O0.2.1
  have Kr:=Keep.refl h0 [sb,bv]
  show gH (T0.setTop (mkF m 0 #[vr sb,vr a1,.unset] [])) ..
  have lta:=oL Hs.1.lt
  have ltt:=oL Hs.2.2.2.lt
  have ltsb:=oL HB.1.lt
  have ltbv:=oL Vb.lt
  refine oS (fun _=>XS.aloadN X0.here hx rfl (dE hby D53 0 rfl) rfl rfl) ?_
  refine oS (fun _=>XS.ifnonnullYes X0.here hx rfl (pc0:=1) (pc':=9) rfl (dE hby D53 1 rfl) rfl (by decide) (by decide)) ?_
  refine oS (fun _=>XS.aloadN X0.here hx rfl (dE hby D53 2 rfl) rfl rfl) ?_
  obtain ⟨_,T1,L1,X1,⟨rfl,N1q,eh1⟩,st1⟩:=own_cV X0 hx hZ hown (own_lenL l Z a0 hw [] a1 t kt es w1 h0 O0 S1 hw1 (by omega) Hs) (oW hw 216 rfl) (oW hw 217 rfl) (oW hw 219 rfl) (oW hw 218 rfl) (own_clsP (y:=(⟨"java/lang/String","length","()I"⟩ : MethodName)) (oW hw 219 rfl)) Hs.1 (oW hw 28 rfl) (oW hw 220 rfl) (W:=0) (g:=(mkF m 10 #[vr sb,vr a1,.unset] [(.ref a1)])) rfl (by rw [hml]; rfl) (argsL:=[]) (rest:=[]) (lenOf own_pd15 rfl) rfl (dE hby D53 3 rfl) rfl e0 (by decide) (by decide)
  have N1:=Fr.app N0 N1q
  refine oS st1 ?_
  show gH (T1.setTop (mkF m 13 #[vr sb,vr a1,.unset] [(.int (.ofNat es.length))])) ..
  refine oS (fun _=>XS.istoreN X1.here hx rfl (dE hby D53 4 rfl) rfl (l':=#[vr sb,vr a1,vi (.ofNat es.length)]) rfl) ?_
  refine oS (fun _=>XS.aloadN X1.here hx rfl (dE hby D53 5 rfl) rfl rfl) ?_
  refine oS (fun _=>XS.aloadN X1.here hx rfl (dE hby D53 6 rfl) rfl rfl) ?_
  obtain ⟨T2,X2,e2,st2⟩:=getF X1 hx hZ hown (host:="") (Or.inl (oW hw 69 rfl)) Via.refl eh1 HB.2.2.1 (g:=(mkF m 16 #[vr sb,vr a1,vi (.ofNat es.length)] [(.ref sb),(.ref sb)])) rfl rfl (dE hby D53 7 rfl)
  refine oS st2 ?_
  show gH (T2.setTop (mkF m 19 #[vr sb,vr a1,vi (.ofNat es.length)] [(.int (.ofNat cs.length)),(.ref sb)])) ..
  refine oS (fun _=>XS.iloadN X2.here hx rfl (dE hby D53 8 rfl) rfl) ?_
  refine oS (fun _=>XS.iadd X2.here hx rfl (dE hby D53 9 rfl) rfl) ?_
  show gH (T2.setTop (mkF m 21 #[vr sb,vr a1,vi (.ofNat es.length)] [(.int ((Int32.ofNat cs.length)+(Int32.ofNat es.length))),(.ref sb)])) ..
  rw [own_plus cs.length es.length]
  obtain ⟨_,T3,L3,X3,⟨rfl,N3q,eh3⟩,st3⟩:=own_cP X2 hx hZ hown (own_ens1 l Z a0 hw [] sb (cs.length+es.length) bv kb (own_U2 cs) h0 O0 (by omega) HB.2.2.2.1 HB.2.1 Vb) (oW hw 221 rfl) (oW hw 222 rfl) (own_selP (own_clsP (oW hw 224 rfl)) (Cond.privateMethod_at (oW hw 223 rfl)) (oW hw 222 rfl) (by decide)) (oW hw 223 rfl) HB.1 (oW hw 24 rfl) (oW hw 225 rfl) (W:=0) (g:=(mkF m 21 #[vr sb,vr a1,vi (.ofNat es.length)] [(.int (.ofNat (cs.length+es.length))),(.ref sb)])) rfl (by rw [hml]; rfl) (argsL:=[(.int (.ofNat (cs.length+es.length)))]) (rest:=[]) (lenOf own_pd12 rfl) rfl (dE hby D53 10 rfl) rfl e2 (by decide) (by decide)
  have N3:=Fr.app N1 N3q
  refine oS st3 ?_
  show gH (T3.setTop (mkF m 24 #[vr sb,vr a1,vi (.ofNat es.length)] [])) ..
  refine oS (fun _=>XS.aloadN X3.here hx rfl (dE hby D53 11 rfl) rfl rfl) ?_
  refine oS (fun _=>XS.aloadN X3.here hx rfl (dE hby D53 12 rfl) rfl rfl) ?_
  obtain ⟨T4,X4,e4,st4⟩:=getF X3 hx hZ hown (host:="") (Or.inl (oW hw 69 rfl)) Via.refl eh3 HB.2.2.1 (g:=(mkF m 26 #[vr sb,vr a1,vi (.ofNat es.length)] [(.ref sb),(.ref sb)])) rfl rfl (dE hby D53 13 rfl)
  refine oS st4 ?_
  show gH (T4.setTop (mkF m 29 #[vr sb,vr a1,vi (.ofNat es.length)] [(.int (.ofNat cs.length)),(.ref sb)])) ..
  refine oS (fun _=>XS.aloadN X4.here hx rfl (dE hby D53 14 rfl) rfl rfl) ?_
  obtain ⟨_,T5,L5,X5,⟨rfl,N5q,K5_,HB2,Vn⟩,st5⟩:=own_cP X4 hx hZ hown (own_psaUL l Z a0 hw [] sb a1 t bv kt kb cs es w1 fm h0 O0 S1 hw1 US SF hfm gs gb nsb ntb nts nas nab hk hm hlen hr Hs HB Vb) (oW hw 226 rfl) (oW hw 227 rfl) (own_selP (own_clsP (oW hw 229 rfl)) (Cond.privateMethod_at (oW hw 228 rfl)) (oW hw 227 rfl) (by decide)) (oW hw 228 rfl) HB.1 (oW hw 24 rfl) (oW hw 230 rfl) (W:=0) (g:=(mkF m 30 #[vr sb,vr a1,vi (.ofNat es.length)] [(.ref a1),(.int (.ofNat cs.length)),(.ref sb)])) rfl (by rw [hml]; rfl) (argsL:=[(.int (.ofNat cs.length)),(.ref a1)]) (rest:=[]) (lenOf own_pd49 rfl) rfl (dE hby D53 15 rfl) rfl e4 (by decide) (by decide)
  have N5:=Fr.app N3 N5q
  refine oS st5 ?_
  have z6:=K5_.1
  have O7:=Old.keep O0 K5_ (allS (by omega) all0)
  have K8:=Kr.trans K5_ (allS (Or.inl (by simp)) all0)
  show gH (T5.setTop (mkF m 33 #[vr sb,vr a1,vi (.ofNat es.length)] [])) ..
  have ltd:=oL Vn.lt
  refine oS (fun _=>XS.aloadN X5.here hx rfl (dE hby D53 16 rfl) rfl rfl) ?_
  refine oS (fun _=>XS.dup X5.here hx rfl (dE hby D53 17 rfl) rfl rfl) ?_
  obtain ⟨T9,X9,e9,st9⟩:=getF X5 hx hZ hown (host:="") (Or.inl (oW hw 69 rfl)) Via.refl rfl HB2.2.2.1 (g:=(mkF m 35 #[vr sb,vr a1,vi (.ofNat es.length)] [(.ref sb),(.ref sb)])) rfl rfl (dE hby D53 18 rfl)
  refine oS st9 ?_
  show gH (T9.setTop (mkF m 38 #[vr sb,vr a1,vi (.ofNat es.length)] [(.int (.ofNat cs.length)),(.ref sb)])) ..
  refine oS (fun _=>XS.iloadN X9.here hx rfl (dE hby D53 19 rfl) rfl) ?_
  refine oS (fun _=>XS.iadd X9.here hx rfl (dE hby D53 20 rfl) rfl) ?_
  show gH (T9.setTop (mkF m 40 #[vr sb,vr a1,vi (.ofNat es.length)] [(.int ((Int32.ofNat cs.length)+(Int32.ofNat es.length))),(.ref sb)])) ..
  rw [own_plus cs.length es.length]
  obtain ⟨T10,h10,X10,e10,W10,st10⟩:=putF X9 hx hZ hown (host:="") (Or.inl (oW hw 69 rfl)) Via.refl e9 HB2.2.2.1 HB2.1 (Or.inl (oW hw 70 rfl)) (oW hw 15 rfl) (ty:=.int) (by decide) rfl rfl (g:=(mkF m 40 #[vr sb,vr a1,vi (.ofNat es.length)] [(.int (.ofNat (cs.length+es.length))),(.ref sb)])) rfl rfl (dE hby D53 21 rfl)
  refine oS st10 ?_
  have z11:=W10.size
  have O12:=Old.wr O7 W10 (by omega)
  have K13:=K8.wr W10 (Or.inl (by simp))
  have N10:=Fr.snoc X10 N5 (by omega : Z.heap.size≤sb)
  have Fw10:=HB2.2.2.1.same W10
  show gH (T10.setTop (mkF m 43 #[vr sb,vr a1,vi (.ofNat es.length)] [])) ..
  refine oS (fun _=>XS.aloadN X10.here hx rfl (dE hby D53 22 rfl) rfl rfl) ?_
  show gH (T10.setTop (mkF m 44 #[vr sb,vr a1,vi (.ofNat es.length)] [(.ref sb)])) ..
  have Fcn : Fld Z h10 sb "java/lang/AbstractStringBuilder" "count" "I" (.int (.ofNat (cs++es).length)):=by have q:=Fw10; rw [List.length_append]; exact q
  have q14:=(HB2.1.wr W10)
  have q15:=(HB2.2.1.other W10 (Or.inr (slot_ne (Or.inl (oW hw 32 rfl)) (Or.inl (oW hw 70 rfl)) (by decide) (t:=.byte) (t':=.int) (by decide) (by decide))))
  have q16:=(HB2.2.2.2.1.other W10 (Or.inr (slot_ne (Or.inl (oW hw 30 rfl)) (Or.inl (oW hw 70 rfl)) (by decide) (t:=(.array .byte)) (t':=.int) (by decide) (by decide))))
  have q17:=(HB2.2.2.2.2.other W10 (Or.inr (slot_ne (Or.inl (oW hw 314 rfl)) (Or.inl (oW hw 70 rfl)) (by decide) (t:=.boolean) (t':=.int) (by decide) (by decide))))
  have q18:=(Vn.other W10 (show @Ne Nat bv sb by omega))
  exact own_retA X10 hx hret rfl rfl hlk (dE hby D53 23 rfl) (by rw [e10]; exact ⟨rfl,N10,K13,⟨⟨q14,q15,Fcn,q16,q17⟩,q18⟩⟩) (by decide) (by decide)
theorem own_sapUL (l:Launch) (Z:State) (a0:Array Value) (hw:∀ d∈tables_1,d.before a0 Z = true) (ws:List Jvm.Cond) (sb:Addr) (a1:Addr) (t bv : Addr) (kt kb : ClassId) (cs es : List Int32) (w1:Int32) (fm:Value) (h0:Heap) (O0:Old Z Z.heap.size h0) (S1:Sta Z Z.heap "java/lang/String" "COMPACT_STRINGS" "Z" (.int w1)) (hw1:¬ (w1 = (0:Int32))) (US:own_US Z) (SF:Sta Z Z.heap "jdk/internal/util/Preconditions" "SIOOBE_FORMATTER" "Ljava/util/function/BiFunction;" fm) (hfm:fm = .null ∨ ∃ a,fm = .ref a) (gs:Z.heap.size≤sb) (gb:Z.heap.size≤bv) (nsb:@Ne Nat sb bv) (ntb:@Ne Nat t bv) (nts:@Ne Nat t sb) (nas:@Ne Nat a1 sb) (nab:@Ne Nat a1 bv) (hk:cs.length < 15) (hm:es.length < 3) (hlen:cs.length+es.length≤15) (hr:∀ c∈es,0≤c.toInt∧¬ (255:Int32) < c) (Hs:own_StL Z h0 a1 t kt es) (HB:own_SBx Z h0 sb bv 1 cs.length) (Vb:Arv Z h0 bv kb .byte (Int32.ofNat 32) (own_U2 cs) (.int 0)) :
    own_Met l Z (⟨"java/lang/StringBuilder","append","(Ljava/lang/String;)Ljava/lang/StringBuilder;"⟩ : MethodName) jdk_67_method_7_code 2 (some (.object "java/lang/StringBuilder")) ws (⟨9,0,0,180⟩ : Room) #[(.ref sb),(.ref a1)] h0 (fun v h L=>v = some (.ref sb)∧Fr Z.heap.size L∧Keep h0 h [sb,bv]∧own_SBU Z h sb bv kb (cs++es)) 0 0:=by
  refine own_bodyA (ef:=fun m=>mkF m 0 #[.val (.ref sb),.val (.ref a1)] []) (plainFor_of_name own_pn11) ?_
  intro p e s m below meth c T0 hx hZ hby hml hown hnm hret hlk X0 e0
  have N0:=Fr.nil Z.heap.size
  have z0 : Z.heap.size≤h0.size:=O0.2.1
  have Kr:=Keep.refl h0 [sb,bv]
  show gH (T0.setTop (mkF m 0 #[vr sb,vr a1] [])) ..
  have ltsb:=oL HB.1.lt
  have ltbv:=oL Vb.lt
  refine oS (fun _=>XS.aloadN X0.here hx rfl (dE hby D54 0 rfl) rfl rfl) ?_
  refine oS (fun _=>XS.aloadN X0.here hx rfl (dE hby D54 1 rfl) rfl rfl) ?_
  obtain ⟨_,T1,L1,X1,⟨rfl,N1q,K1_,Q_⟩,st1⟩:=own_cU X0 hx hZ hown (own_aapUL l Z a0 hw [] sb a1 t bv kt kb cs es w1 fm h0 O0 S1 hw1 US SF hfm gs gb nsb ntb nts nas nab hk hm hlen hr Hs HB Vb) (oW hw 212 rfl) (oW hw 213 rfl) (own_sameM (own_clsP (y:=(⟨"java/lang/AbstractStringBuilder","getValue","()[B"⟩ : MethodName)) (oW hw 58 rfl)) (oW hw 213 rfl) (by decide)) (oW hw 67 rfl) (by decide) HB.1 (oW hw 24 rfl) (oW hw 215 rfl) (W:=0) (g:=(mkF m 2 #[vr sb,vr a1] [(.ref a1),(.ref sb)])) rfl (by rw [hml]; rfl) (argsL:=[(.ref a1)]) (rest:=[]) (lenOf own_pd50 rfl) rfl (dE hby D54 2 rfl) rfl e0 (by decide) (by decide)
  have N1:=Fr.app N0 N1q
  refine oS st1 ?_
  have z2:=K1_.1
  have O3:=Old.keep O0 K1_ (allS (by omega) (allS (by omega) all0))
  have K4:=Kr.trans K1_ (allS (Or.inl (by simp)) (allS (Or.inl (by simp)) all0))
  show gH (T1.setTop (mkF m 5 #[vr sb,vr a1] [(.ref sb)])) ..
  refine oS (fun _=>XS.pop X1.here hx rfl (dE hby D54 3 rfl) rfl rfl) ?_
  refine oS (fun _=>XS.aloadN X1.here hx rfl (dE hby D54 4 rfl) rfl rfl) ?_
  show gH (T1.setTop (mkF m 7 #[vr sb,vr a1] [(.ref sb)])) ..
  exact own_retA X1 hx hret rfl rfl hlk (dE hby D54 5 rfl) ⟨rfl,N1,K4,Q_⟩ (by decide) (by decide)
theorem own_psa0U (l:Launch) (Z:State) (a0:Array Value) (hw:∀ d∈tables_1,d.before a0 Z = true) (ws:List Jvm.Cond) (sb:Addr) (a1:Addr) (t bv : Addr) (kt kb : ClassId) (es:List Int32) (w1:Int32) (fm:Value) (h0:Heap) (O0:Old Z Z.heap.size h0) (S1:Sta Z Z.heap "java/lang/String" "COMPACT_STRINGS" "Z" (.int w1)) (hw1:¬ (w1 = (0:Int32))) (US:own_US Z) (SF:Sta Z Z.heap "jdk/internal/util/Preconditions" "SIOOBE_FORMATTER" "Ljava/util/function/BiFunction;" fm) (hfm:fm = .null ∨ ∃ a,fm = .ref a) (gs:Z.heap.size≤sb) (gb:Z.heap.size≤bv) (nsb:@Ne Nat sb bv) (ntb:@Ne Nat t bv) (nts:@Ne Nat t sb) (nas:@Ne Nat a1 sb) (nab:@Ne Nat a1 bv) (hlen:es.length≤15) (Hs:own_StU Z h0 a1 t kt es) (HB:own_SBx Z h0 sb bv 0 0) (Vb:Arv Z h0 bv kb .byte (Int32.ofNat 16) (own_L1 []) (.int 0)) :
    own_Met l Z (⟨"java/lang/AbstractStringBuilder","putStringAt","(ILjava/lang/String;)V"⟩ : MethodName) jdk_68_method_73_code 3 none ws (⟨7,1,32,140⟩ : Room) #[(.ref sb),(.int (.ofNat 0)),(.ref a1)] h0 (fun v h L=>v = none∧Fr Z.heap.size L∧Keep h0 h [sb]∧∃ d kd,h0.size≤d∧own_SBx Z h sb d 1 0∧Arv Z h d kd .byte (Int32.ofNat 32) (own_U2 es) (.int 0)) 1 32:=by
  refine own_bodyA (ef:=fun m=>mkF m 0 #[.val (.ref sb),.val (.int (Int32.ofNat 0)),.val (.ref a1)] []) (plainFor_of_name own_pn10) ?_
  intro p e s m below meth c T0 hx hZ hby hml hown hnm hret hlk X0 e0
  have N0:=Fr.nil Z.heap.size
  have z0 : Z.heap.size≤h0.size:=O0.2.1
  have Kr:=Keep.refl h0 [sb]
  show gH (T0.setTop (mkF m 0 #[vr sb,vi (.ofNat 0),vr a1] [])) ..
  have lta:=oL Hs.1.lt
  have ltt:=oL Hs.2.2.2.lt
  have ltsb:=oL HB.1.lt
  have ltbv:=oL Vb.lt
  refine oS (fun _=>XS.aloadN X0.here hx rfl (dE hby D52 0 rfl) rfl rfl) ?_
  refine oS (fun _=>XS.aloadN X0.here hx rfl (dE hby D52 1 rfl) rfl rfl) ?_
  obtain ⟨_,T1,L1,X1,⟨rfl,N1q,K1_,d,kd,gd,HB2,Vd⟩,st1⟩:=own_cP X0 hx hZ hown (own_ifn0U l Z a0 hw [] sb a1 bv kb w1 fm h0 O0 S1 hw1 US SF hfm gs HB Vb Hs.1 Hs.2.1) (oW hw 231 rfl) (oW hw 232 rfl) (own_selP (own_clsP (oW hw 234 rfl)) (Cond.privateMethod_at (oW hw 233 rfl)) (oW hw 232 rfl) (by decide)) (oW hw 233 rfl) HB.1 (oW hw 24 rfl) (oW hw 235 rfl) (W:=0) (g:=(mkF m 2 #[vr sb,vi (.ofNat 0),vr a1] [(.ref a1),(.ref sb)])) rfl (by rw [hml]; rfl) (argsL:=[(.ref a1)]) (rest:=[]) (lenOf own_pd47 rfl) rfl (dE hby D52 2 rfl) rfl e0 (by decide) (by decide)
  have N1:=Fr.app N0 N1q
  refine oS st1 ?_
  have z2:=K1_.1
  have O3:=Old.keep O0 K1_ (allS (by omega) all0)
  have K4:=Kr.trans K1_ (allS (Or.inl (by simp)) all0)
  show gH (T1.setTop (mkF m 5 #[vr sb,vi (.ofNat 0),vr a1] [])) ..
  have ltd:=oL Vd.lt
  refine oS (fun _=>XS.aloadN X1.here hx rfl (dE hby D52 3 rfl) rfl rfl) ?_
  refine oS (fun _=>XS.aloadN X1.here hx rfl (dE hby D52 4 rfl) rfl rfl) ?_
  obtain ⟨T5,X5,e5,st5⟩:=getF X1 hx hZ hown (host:="") (Or.inl (oW hw 29 rfl)) Via.refl rfl HB2.2.2.2.1 (g:=(mkF m 7 #[vr sb,vi (.ofNat 0),vr a1] [(.ref sb),(.ref a1)])) rfl rfl (dE hby D52 5 rfl)
  refine oS st5 ?_
  show gH (T5.setTop (mkF m 10 #[vr sb,vi (.ofNat 0),vr a1] [(.ref d),(.ref a1)])) ..
  refine oS (fun _=>XS.iloadN X5.here hx rfl (dE hby D52 6 rfl) rfl) ?_
  refine oS (fun _=>XS.aloadN X5.here hx rfl (dE hby D52 7 rfl) rfl rfl) ?_
  obtain ⟨T6,X6,e6,st6⟩:=getF X5 hx hZ hown (host:="") (Or.inl (oW hw 31 rfl)) Via.refl e5 HB2.2.1 (g:=(mkF m 12 #[vr sb,vi (.ofNat 0),vr a1] [(.ref sb),(.int (.ofNat 0)),(.ref d),(.ref a1)])) rfl rfl (dE hby D52 8 rfl)
  refine oS st6 ?_
  have q7:=(Hs.1.keep K1_)
  have q8:=(Hs.2.1.keep K1_ (ninS (show @Ne Nat a1 sb by omega) nin0))
  have q9:=(Hs.2.2.1.keep K1_ (ninS (show @Ne Nat a1 sb by omega) nin0))
  have q10:=(Hs.2.2.2.keep K1_ (ninS (show @Ne Nat t sb by omega) nin0))
  obtain ⟨_,T11,L11,X11,⟨rfl,N11q,K11_,Vn⟩,st11⟩:=own_cV X6 hx hZ hown (own_gb0U l Z a0 hw [] a1 d t kt kd es w1 T1.heap O3 S1 hw1 (show @Ne Nat t d by omega) (by omega) hlen ⟨q7,q8,q9,q10⟩ Vd) (oW hw 265 rfl) (oW hw 266 rfl) (oW hw 268 rfl) (oW hw 267 rfl) (own_clsP (y:=(⟨"java/lang/String","getBytes","([BIB)V"⟩ : MethodName)) (oW hw 268 rfl)) q7 (oW hw 28 rfl) (oW hw 269 rfl) (W:=0) (g:=(mkF m 15 #[vr sb,vi (.ofNat 0),vr a1] [(.int 1),(.int (.ofNat 0)),(.ref d),(.ref a1)])) rfl (by rw [hml]; rfl) (argsL:=[(.ref d),(.int (.ofNat 0)),(.int 1)]) (rest:=[]) (lenOf own_pd48 rfl) rfl (dE hby D52 9 rfl) rfl e6 (by decide) (by decide)
  have N11:=Fr.app N1 N11q
  refine oS st11 ?_
  have z12:=K11_.1
  have O13:=Old.keep O3 K11_ (allS (by omega) all0)
  have K14:=K4.trans K11_ (allS (Or.inr (by omega)) all0)
  show gH (T11.setTop (mkF m 18 #[vr sb,vi (.ofNat 0),vr a1] [])) ..
  have q15:=(HB2.1.keep K11_)
  have q16:=(HB2.2.1.keep K11_ (ninS (show @Ne Nat sb d by omega) nin0))
  have q17:=(HB2.2.2.1.keep K11_ (ninS (show @Ne Nat sb d by omega) nin0))
  have q18:=(HB2.2.2.2.1.keep K11_ (ninS (show @Ne Nat sb d by omega) nin0))
  have q19:=(HB2.2.2.2.2.keep K11_ (ninS (show @Ne Nat sb d by omega) nin0))
  exact own_ret0 X11 hx hret hlk (dE hby D52 10 rfl) ⟨rfl,N11,K14,d,kd,by omega,⟨q15,q16,q17,q18,q19⟩,Vn⟩ (by decide) (by decide)
theorem own_aap0U (l:Launch) (Z:State) (a0:Array Value) (hw:∀ d∈tables_1,d.before a0 Z = true) (ws:List Jvm.Cond) (sb:Addr) (a1:Addr) (t bv : Addr) (kt kb : ClassId) (es:List Int32) (w1:Int32) (fm:Value) (h0:Heap) (O0:Old Z Z.heap.size h0) (S1:Sta Z Z.heap "java/lang/String" "COMPACT_STRINGS" "Z" (.int w1)) (hw1:¬ (w1 = (0:Int32))) (US:own_US Z) (SF:Sta Z Z.heap "jdk/internal/util/Preconditions" "SIOOBE_FORMATTER" "Ljava/util/function/BiFunction;" fm) (hfm:fm = .null ∨ ∃ a,fm = .ref a) (gs:Z.heap.size≤sb) (gb:Z.heap.size≤bv) (nsb:@Ne Nat sb bv) (ntb:@Ne Nat t bv) (nts:@Ne Nat t sb) (nas:@Ne Nat a1 sb) (nab:@Ne Nat a1 bv) (hlen:es.length≤15) (Hs:own_StU Z h0 a1 t kt es) (HB:own_SBx Z h0 sb bv 0 0) (Vb:Arv Z h0 bv kb .byte (Int32.ofNat 16) (own_L1 []) (.int 0)) :
    own_Met l Z (⟨"java/lang/AbstractStringBuilder","append","(Ljava/lang/String;)Ljava/lang/AbstractStringBuilder;"⟩ : MethodName) jdk_68_method_22_code 3 (some (.object "java/lang/AbstractStringBuilder")) ws (⟨8,1,32,160⟩ : Room) #[(.ref sb),(.ref a1)] h0 (fun v h L=>v = some (.ref sb)∧Fr Z.heap.size L∧Keep h0 h [sb]∧∃ d kd,h0.size≤d∧own_SBU Z h sb d kd es) 1 32:=by
  refine own_bodyA (ef:=fun m=>mkF m 0 #[.val (.ref sb),.val (.ref a1),.unset] []) (plainFor_of_name own_pn10) ?_
  intro p e s m below meth c T0 hx hZ hby hml hown hnm hret hlk X0 e0
  have N0:=Fr.nil Z.heap.size
  have z0 : Z.heap.size≤h0.size:=O0.2.1
  have Kr:=Keep.refl h0 [sb]
  show gH (T0.setTop (mkF m 0 #[vr sb,vr a1,.unset] [])) ..
  have lta:=oL Hs.1.lt
  have ltt:=oL Hs.2.2.2.lt
  have ltsb:=oL HB.1.lt
  have ltbv:=oL Vb.lt
  refine oS (fun _=>XS.aloadN X0.here hx rfl (dE hby D53 0 rfl) rfl rfl) ?_
  refine oS (fun _=>XS.ifnonnullYes X0.here hx rfl (pc0:=1) (pc':=9) rfl (dE hby D53 1 rfl) rfl (by decide) (by decide)) ?_
  refine oS (fun _=>XS.aloadN X0.here hx rfl (dE hby D53 2 rfl) rfl rfl) ?_
  obtain ⟨_,T1,L1,X1,⟨rfl,N1q,eh1⟩,st1⟩:=own_cV X0 hx hZ hown (own_lenU l Z a0 hw [] a1 t kt es w1 h0 O0 S1 hw1 (by omega) Hs) (oW hw 216 rfl) (oW hw 217 rfl) (oW hw 219 rfl) (oW hw 218 rfl) (own_clsP (y:=(⟨"java/lang/String","length","()I"⟩ : MethodName)) (oW hw 219 rfl)) Hs.1 (oW hw 28 rfl) (oW hw 220 rfl) (W:=0) (g:=(mkF m 10 #[vr sb,vr a1,.unset] [(.ref a1)])) rfl (by rw [hml]; rfl) (argsL:=[]) (rest:=[]) (lenOf own_pd15 rfl) rfl (dE hby D53 3 rfl) rfl e0 (by decide) (by decide)
  have N1:=Fr.app N0 N1q
  refine oS st1 ?_
  show gH (T1.setTop (mkF m 13 #[vr sb,vr a1,.unset] [(.int (.ofNat es.length))])) ..
  refine oS (fun _=>XS.istoreN X1.here hx rfl (dE hby D53 4 rfl) rfl (l':=#[vr sb,vr a1,vi (.ofNat es.length)]) rfl) ?_
  refine oS (fun _=>XS.aloadN X1.here hx rfl (dE hby D53 5 rfl) rfl rfl) ?_
  refine oS (fun _=>XS.aloadN X1.here hx rfl (dE hby D53 6 rfl) rfl rfl) ?_
  obtain ⟨T2,X2,e2,st2⟩:=getF X1 hx hZ hown (host:="") (Or.inl (oW hw 69 rfl)) Via.refl eh1 HB.2.2.1 (g:=(mkF m 16 #[vr sb,vr a1,vi (.ofNat es.length)] [(.ref sb),(.ref sb)])) rfl rfl (dE hby D53 7 rfl)
  refine oS st2 ?_
  show gH (T2.setTop (mkF m 19 #[vr sb,vr a1,vi (.ofNat es.length)] [(.int (.ofNat 0)),(.ref sb)])) ..
  refine oS (fun _=>XS.iloadN X2.here hx rfl (dE hby D53 8 rfl) rfl) ?_
  refine oS (fun _=>XS.iadd X2.here hx rfl (dE hby D53 9 rfl) rfl) ?_
  show gH (T2.setTop (mkF m 21 #[vr sb,vr a1,vi (.ofNat es.length)] [(.int ((Int32.ofNat 0)+(Int32.ofNat es.length))),(.ref sb)])) ..
  rw [own_plus 0 es.length]
  obtain ⟨_,T3,L3,X3,⟨rfl,N3q,eh3⟩,st3⟩:=own_cP X2 hx hZ hown (own_ens0 l Z a0 hw [] sb (0+es.length) bv kb (own_L1 []) h0 O0 (by omega) HB.2.2.2.1 HB.2.1 Vb) (oW hw 221 rfl) (oW hw 222 rfl) (own_selP (own_clsP (oW hw 224 rfl)) (Cond.privateMethod_at (oW hw 223 rfl)) (oW hw 222 rfl) (by decide)) (oW hw 223 rfl) HB.1 (oW hw 24 rfl) (oW hw 225 rfl) (W:=0) (g:=(mkF m 21 #[vr sb,vr a1,vi (.ofNat es.length)] [(.int (.ofNat (0+es.length))),(.ref sb)])) rfl (by rw [hml]; rfl) (argsL:=[(.int (.ofNat (0+es.length)))]) (rest:=[]) (lenOf own_pd12 rfl) rfl (dE hby D53 10 rfl) rfl e2 (by decide) (by decide)
  have N3:=Fr.app N1 N3q
  refine oS st3 ?_
  show gH (T3.setTop (mkF m 24 #[vr sb,vr a1,vi (.ofNat es.length)] [])) ..
  refine oS (fun _=>XS.aloadN X3.here hx rfl (dE hby D53 11 rfl) rfl rfl) ?_
  refine oS (fun _=>XS.aloadN X3.here hx rfl (dE hby D53 12 rfl) rfl rfl) ?_
  obtain ⟨T4,X4,e4,st4⟩:=getF X3 hx hZ hown (host:="") (Or.inl (oW hw 69 rfl)) Via.refl eh3 HB.2.2.1 (g:=(mkF m 26 #[vr sb,vr a1,vi (.ofNat es.length)] [(.ref sb),(.ref sb)])) rfl rfl (dE hby D53 13 rfl)
  refine oS st4 ?_
  show gH (T4.setTop (mkF m 29 #[vr sb,vr a1,vi (.ofNat es.length)] [(.int (.ofNat 0)),(.ref sb)])) ..
  refine oS (fun _=>XS.aloadN X4.here hx rfl (dE hby D53 14 rfl) rfl rfl) ?_
  obtain ⟨_,T5,L5,X5,⟨rfl,N5q,K5_,d,kd,gd,HB2,Vn⟩,st5⟩:=own_cP X4 hx hZ hown (own_psa0U l Z a0 hw [] sb a1 t bv kt kb es w1 fm h0 O0 S1 hw1 US SF hfm gs gb nsb ntb nts nas nab hlen Hs HB Vb) (oW hw 226 rfl) (oW hw 227 rfl) (own_selP (own_clsP (oW hw 229 rfl)) (Cond.privateMethod_at (oW hw 228 rfl)) (oW hw 227 rfl) (by decide)) (oW hw 228 rfl) HB.1 (oW hw 24 rfl) (oW hw 230 rfl) (W:=0) (g:=(mkF m 30 #[vr sb,vr a1,vi (.ofNat es.length)] [(.ref a1),(.int (.ofNat 0)),(.ref sb)])) rfl (by rw [hml]; rfl) (argsL:=[(.int (.ofNat 0)),(.ref a1)]) (rest:=[]) (lenOf own_pd49 rfl) rfl (dE hby D53 15 rfl) rfl e4 (by decide) (by decide)
  have N5:=Fr.app N3 N5q
  refine oS st5 ?_
  have z6:=K5_.1
  have O7:=Old.keep O0 K5_ (allS (by omega) all0)
  have K8:=Kr.trans K5_ (allS (Or.inl (by simp)) all0)
  show gH (T5.setTop (mkF m 33 #[vr sb,vr a1,vi (.ofNat es.length)] [])) ..
  have ltd:=oL Vn.lt
  refine oS (fun _=>XS.aloadN X5.here hx rfl (dE hby D53 16 rfl) rfl rfl) ?_
  refine oS (fun _=>XS.dup X5.here hx rfl (dE hby D53 17 rfl) rfl rfl) ?_
  obtain ⟨T9,X9,e9,st9⟩:=getF X5 hx hZ hown (host:="") (Or.inl (oW hw 69 rfl)) Via.refl rfl HB2.2.2.1 (g:=(mkF m 35 #[vr sb,vr a1,vi (.ofNat es.length)] [(.ref sb),(.ref sb)])) rfl rfl (dE hby D53 18 rfl)
  refine oS st9 ?_
  show gH (T9.setTop (mkF m 38 #[vr sb,vr a1,vi (.ofNat es.length)] [(.int (.ofNat 0)),(.ref sb)])) ..
  refine oS (fun _=>XS.iloadN X9.here hx rfl (dE hby D53 19 rfl) rfl) ?_
  refine oS (fun _=>XS.iadd X9.here hx rfl (dE hby D53 20 rfl) rfl) ?_
  show gH (T9.setTop (mkF m 40 #[vr sb,vr a1,vi (.ofNat es.length)] [(.int ((Int32.ofNat 0)+(Int32.ofNat es.length))),(.ref sb)])) ..
  rw [own_plus 0 es.length]
  obtain ⟨T10,h10,X10,e10,W10,st10⟩:=putF X9 hx hZ hown (host:="") (Or.inl (oW hw 69 rfl)) Via.refl e9 HB2.2.2.1 HB2.1 (Or.inl (oW hw 70 rfl)) (oW hw 15 rfl) (ty:=.int) (by decide) rfl rfl (g:=(mkF m 40 #[vr sb,vr a1,vi (.ofNat es.length)] [(.int (.ofNat (0+es.length))),(.ref sb)])) rfl rfl (dE hby D53 21 rfl)
  refine oS st10 ?_
  have z11:=W10.size
  have O12:=Old.wr O7 W10 (by omega)
  have K13:=K8.wr W10 (Or.inl (by simp))
  have N10:=Fr.snoc X10 N5 (by omega : Z.heap.size≤sb)
  have Fw10:=HB2.2.2.1.same W10
  show gH (T10.setTop (mkF m 43 #[vr sb,vr a1,vi (.ofNat es.length)] [])) ..
  refine oS (fun _=>XS.aloadN X10.here hx rfl (dE hby D53 22 rfl) rfl rfl) ?_
  show gH (T10.setTop (mkF m 44 #[vr sb,vr a1,vi (.ofNat es.length)] [(.ref sb)])) ..
  have Fcn : Fld Z h10 sb "java/lang/AbstractStringBuilder" "count" "I" (.int (.ofNat es.length)):=by have q:=Fw10; rw [Nat.zero_add] at q; exact q
  have q14:=(HB2.1.wr W10)
  have q15:=(HB2.2.1.other W10 (Or.inr (slot_ne (Or.inl (oW hw 32 rfl)) (Or.inl (oW hw 70 rfl)) (by decide) (t:=.byte) (t':=.int) (by decide) (by decide))))
  have q16:=(HB2.2.2.2.1.other W10 (Or.inr (slot_ne (Or.inl (oW hw 30 rfl)) (Or.inl (oW hw 70 rfl)) (by decide) (t:=(.array .byte)) (t':=.int) (by decide) (by decide))))
  have q17:=(HB2.2.2.2.2.other W10 (Or.inr (slot_ne (Or.inl (oW hw 314 rfl)) (Or.inl (oW hw 70 rfl)) (by decide) (t:=.boolean) (t':=.int) (by decide) (by decide))))
  have q18:=(Vn.other W10 (show @Ne Nat d sb by omega))
  exact own_retA X10 hx hret rfl rfl hlk (dE hby D53 23 rfl) (by rw [e10]; exact ⟨rfl,N10,K13,d,kd,by omega,⟨⟨q14,q15,Fcn,q16,q17⟩,q18⟩⟩) (by decide) (by decide)
theorem own_sap0U (l:Launch) (Z:State) (a0:Array Value) (hw:∀ d∈tables_1,d.before a0 Z = true) (ws:List Jvm.Cond) (sb:Addr) (a1:Addr) (t bv : Addr) (kt kb : ClassId) (es:List Int32) (w1:Int32) (fm:Value) (h0:Heap) (O0:Old Z Z.heap.size h0) (S1:Sta Z Z.heap "java/lang/String" "COMPACT_STRINGS" "Z" (.int w1)) (hw1:¬ (w1 = (0:Int32))) (US:own_US Z) (SF:Sta Z Z.heap "jdk/internal/util/Preconditions" "SIOOBE_FORMATTER" "Ljava/util/function/BiFunction;" fm) (hfm:fm = .null ∨ ∃ a,fm = .ref a) (gs:Z.heap.size≤sb) (gb:Z.heap.size≤bv) (nsb:@Ne Nat sb bv) (ntb:@Ne Nat t bv) (nts:@Ne Nat t sb) (nas:@Ne Nat a1 sb) (nab:@Ne Nat a1 bv) (hlen:es.length≤15) (Hs:own_StU Z h0 a1 t kt es) (HB:own_SBx Z h0 sb bv 0 0) (Vb:Arv Z h0 bv kb .byte (Int32.ofNat 16) (own_L1 []) (.int 0)) :
    own_Met l Z (⟨"java/lang/StringBuilder","append","(Ljava/lang/String;)Ljava/lang/StringBuilder;"⟩ : MethodName) jdk_67_method_7_code 2 (some (.object "java/lang/StringBuilder")) ws (⟨9,1,32,180⟩ : Room) #[(.ref sb),(.ref a1)] h0 (fun v h L=>v = some (.ref sb)∧Fr Z.heap.size L∧Keep h0 h [sb]∧∃ d kd,h0.size≤d∧own_SBU Z h sb d kd es) 1 32:=by
  refine own_bodyA (ef:=fun m=>mkF m 0 #[.val (.ref sb),.val (.ref a1)] []) (plainFor_of_name own_pn11) ?_
  intro p e s m below meth c T0 hx hZ hby hml hown hnm hret hlk X0 e0
  have N0:=Fr.nil Z.heap.size
  have z0 : Z.heap.size≤h0.size:=O0.2.1
  have Kr:=Keep.refl h0 [sb]
  show gH (T0.setTop (mkF m 0 #[vr sb,vr a1] [])) ..
  have ltsb:=oL HB.1.lt
  have ltbv:=oL Vb.lt
  refine oS (fun _=>XS.aloadN X0.here hx rfl (dE hby D54 0 rfl) rfl rfl) ?_
  refine oS (fun _=>XS.aloadN X0.here hx rfl (dE hby D54 1 rfl) rfl rfl) ?_
  obtain ⟨_,T1,L1,X1,⟨rfl,N1q,K1_,Q_⟩,st1⟩:=own_cU X0 hx hZ hown (own_aap0U l Z a0 hw [] sb a1 t bv kt kb es w1 fm h0 O0 S1 hw1 US SF hfm gs gb nsb ntb nts nas nab hlen Hs HB Vb) (oW hw 212 rfl) (oW hw 213 rfl) (own_sameM (own_clsP (y:=(⟨"java/lang/AbstractStringBuilder","getValue","()[B"⟩ : MethodName)) (oW hw 58 rfl)) (oW hw 213 rfl) (by decide)) (oW hw 67 rfl) (by decide) HB.1 (oW hw 24 rfl) (oW hw 215 rfl) (W:=0) (g:=(mkF m 2 #[vr sb,vr a1] [(.ref a1),(.ref sb)])) rfl (by rw [hml]; rfl) (argsL:=[(.ref a1)]) (rest:=[]) (lenOf own_pd50 rfl) rfl (dE hby D54 2 rfl) rfl e0 (by decide) (by decide)
  have N1:=Fr.app N0 N1q
  refine oS st1 ?_
  have z2:=K1_.1
  have O3:=Old.keep O0 K1_ (allS (by omega) all0)
  have K4:=Kr.trans K1_ (allS (Or.inl (by simp)) all0)
  show gH (T1.setTop (mkF m 5 #[vr sb,vr a1] [(.ref sb)])) ..
  refine oS (fun _=>XS.pop X1.here hx rfl (dE hby D54 3 rfl) rfl rfl) ?_
  refine oS (fun _=>XS.aloadN X1.here hx rfl (dE hby D54 4 rfl) rfl rfl) ?_
  show gH (T1.setTop (mkF m 7 #[vr sb,vr a1] [(.ref sb)])) ..
  exact own_retA X1 hx hret rfl rfl hlk (dE hby D54 5 rfl) ⟨rfl,N1,K4,Q_⟩ (by decide) (by decide)
def L55 : List (Nat × Instr × Nat):=[(0,.iload_n 0,1),(1,.sipush 255,3),(4,.if_icmp .gt 7,3),(7,.iconst 1,1),(8,.goto 4,3),(12,.ireturn,1)]
theorem D55 : ∀ q∈L55,decode jdk_43_method_3_code q.1 = .ok q.2:=by decide +kernel
theorem own_cenc (l:Launch) (Z:State) (a0:Array Value) (hw:∀ d∈tables_1,d.before a0 Z = true) (ws:List Jvm.Cond) (c1:Int32)  (h0:Heap) (O0:Old Z Z.heap.size h0) (hc:¬ (255:Int32) < c1) :
    own_Met l Z (⟨"java/lang/StringLatin1","canEncode","(C)Z"⟩ : MethodName) jdk_43_method_3_code 1 (some .boolean) ws (⟨0,0,0,0⟩ : Room) #[(.int c1)] h0 (fun v h L=>v = some (.int 1)∧Fr Z.heap.size L∧h = h0) 0 0:=by
  refine own_bodyA (ef:=fun m=>mkF m 0 #[.val (.int c1)] []) (plainFor_of_name own_pn45) ?_
  intro p e s m below meth c T0 hx hZ hby hml hown hnm hret hlk X0 e0
  have N0:=Fr.nil Z.heap.size
  show gH (T0.setTop (mkF m 0 #[vi c1] [])) ..
  refine oS (fun _=>XS.iloadN X0.here hx rfl (dE hby D55 0 rfl) rfl) ?_
  refine oS (fun _=>XS.sipush X0.here hx rfl (dE hby D55 1 rfl)) ?_
  refine oS (fun _=>XS.icmpNo X0.here hx rfl (dE hby D55 2 rfl) rfl (flt hc).2.2.1) ?_
  refine oS (fun _=>XS.iconst X0.here hx rfl (dE hby D55 3 rfl)) ?_
  refine oS (fun _=>XS.goto X0.here hx rfl (pc0:=8) (pc':=12) rfl (dE hby D55 4 rfl) (by decide) (by decide)) ?_
  show gH (T0.setTop (mkF m 12 #[vi c1] [(.int 1)])) ..
  exact own_retN X0 hx hret hlk (by simp) (dE hby D55 5 rfl) (by rw [e0]; exact ⟨rfl,N0,rfl⟩) (by decide) (by decide)
def L56 : List (Nat × Instr × Nat):=[(0,.aload_n 0,1),(1,.aload_n 0,1),(2,.getfield 79,3),(5,.iconst 1,1),(6,.iadd,1),(7,.invokevirtual 100,3),(10,.aload_n 0,1),(11,.invokevirtual 83,3),(14,.ifCond .eq 31,3),(17,.iload_n 1,1),(18,.invokestatic 191,3),(21,.ifCond .eq 24,3),(24,.aload_n 0,1),(25,.getfield 15,3),(28,.aload_n 0,1),(29,.dup,1),(30,.getfield 79,3),(33,.dup_x1,1),(34,.iconst 1,1),(35,.iadd,1),(36,.putfield 79,3),(39,.iload_n 1,1),(40,.i2b,1),(41,.bastore,1),(42,.goto 33,3),(75,.aload_n 0,1),(76,.areturn,1),(45,.aload_n 0,1),(46,.invokevirtual 83,3),(49,.ifCond .eq 7,3),(56,.aload_n 0,1),(57,.getfield 15,3),(60,.aload_n 0,1),(61,.dup,1),(62,.getfield 79,3),(65,.dup_x1,1),(66,.iconst 1,1),(67,.iadd,1),(68,.putfield 79,3),(71,.iload_n 1,1),(72,.invokestatic 197,3)]
theorem D56 : ∀ q∈L56,decode jdk_68_method_31_code q.1 = .ok q.2:=by decide +kernel
theorem own_aacL (l:Launch) (Z:State) (a0:Array Value) (hw:∀ d∈tables_1,d.before a0 Z = true) (ws:List Jvm.Cond) (sb:Addr) (c1:Int32) (bv:Addr) (kb:ClassId) (cs:List Int32) (w1:Int32) (fm:Value) (h0:Heap) (O0:Old Z Z.heap.size h0) (S1:Sta Z Z.heap "java/lang/String" "COMPACT_STRINGS" "Z" (.int w1)) (hw1:¬ (w1 = (0:Int32))) (US:own_US Z) (SF:Sta Z Z.heap "jdk/internal/util/Preconditions" "SIOOBE_FORMATTER" "Ljava/util/function/BiFunction;" fm) (hfm:fm = .null ∨ ∃ a,fm = .ref a) (gs:Z.heap.size≤sb) (gb:Z.heap.size≤bv) (nsb:@Ne Nat sb bv) (hlen:cs.length < 15) (hc:¬ (255:Int32) < c1) (HB:own_SBL Z h0 sb bv kb cs) :
    own_Met l Z (⟨"java/lang/AbstractStringBuilder","append","(C)Ljava/lang/AbstractStringBuilder;"⟩ : MethodName) jdk_68_method_31_code 2 (some (.object "java/lang/AbstractStringBuilder")) ws (⟨4,0,0,70⟩ : Room) #[(.ref sb),(.int c1)] h0 (fun v h L=>v = some (.ref sb)∧Fr Z.heap.size L∧Keep h0 h [sb,bv]∧own_SBL Z h sb bv kb (cs++[c1])) 0 0:=by
  refine own_bodyA (ef:=fun m=>mkF m 0 #[.val (.ref sb),.val (.int c1)] []) (plainFor_of_name own_pn10) ?_
  intro p e s m below meth c T0 hx hZ hby hml hown hnm hret hlk X0 e0
  have N0:=Fr.nil Z.heap.size
  have z0 : Z.heap.size≤h0.size:=O0.2.1
  have Kr:=Keep.refl h0 [sb,bv]
  show gH (T0.setTop (mkF m 0 #[vr sb,vi c1] [])) ..
  have HB2:=HB.2
  have HB:=HB.1
  have ltsb:=oL HB.1.lt
  have ltbv:=oL HB2.lt
  refine oS (fun _=>XS.aloadN X0.here hx rfl (dE hby D56 0 rfl) rfl rfl) ?_
  refine oS (fun _=>XS.aloadN X0.here hx rfl (dE hby D56 1 rfl) rfl rfl) ?_
  obtain ⟨T1,X1,e1,st1⟩:=getF X0 hx hZ hown (host:="") (Or.inl (oW hw 69 rfl)) Via.refl e0 HB.2.2.1 (g:=(mkF m 2 #[vr sb,vi c1] [(.ref sb),(.ref sb)])) rfl rfl (dE hby D56 2 rfl)
  refine oS st1 ?_
  show gH (T1.setTop (mkF m 5 #[vr sb,vi c1] [(.int (.ofNat cs.length)),(.ref sb)])) ..
  refine oS (fun _=>XS.iconst X1.here hx rfl (dE hby D56 3 rfl)) ?_
  refine oS (fun _=>XS.iadd X1.here hx rfl (dE hby D56 4 rfl) rfl) ?_
  show gH (T1.setTop (mkF m 7 #[vr sb,vi c1] [(.int ((Int32.ofNat cs.length)+(1:Int32))),(.ref sb)])) ..
  rw [oO cs.length]
  obtain ⟨_,T2,L2,X2,⟨rfl,N2q,eh2⟩,st2⟩:=own_cP X1 hx hZ hown (own_ens0 l Z a0 hw [] sb (cs.length+1) bv kb (own_L1 cs) h0 O0 (by omega) HB.2.2.2.1 HB.2.1 HB2) (oW hw 221 rfl) (oW hw 222 rfl) (own_selP (own_clsP (oW hw 224 rfl)) (Cond.privateMethod_at (oW hw 223 rfl)) (oW hw 222 rfl) (by decide)) (oW hw 223 rfl) HB.1 (oW hw 24 rfl) (oW hw 225 rfl) (W:=0) (g:=(mkF m 7 #[vr sb,vi c1] [(.int (.ofNat (cs.length+1))),(.ref sb)])) rfl (by rw [hml]; rfl) (argsL:=[(.int (.ofNat (cs.length+1)))]) (rest:=[]) (lenOf own_pd12 rfl) rfl (dE hby D56 5 rfl) rfl e1 (by decide) (by decide)
  have N2:=Fr.app N0 N2q
  refine oS st2 ?_
  show gH (T2.setTop (mkF m 10 #[vr sb,vi c1] [])) ..
  refine oS (fun _=>XS.aloadN X2.here hx rfl (dE hby D56 6 rfl) rfl rfl) ?_
  obtain ⟨_,T3,L3,X3,⟨rfl,N3q,eh3⟩,st3⟩:=own_cV X2 hx hZ hown (own_isl0 l Z a0 hw [] sb w1 h0 O0 S1 hw1 HB.2.1) (oW hw 242 rfl) (oW hw 72 rfl) (oW hw 74 rfl) (oW hw 73 rfl) (own_clsP (y:=(⟨"java/lang/AbstractStringBuilder","isLatin1","()Z"⟩ : MethodName)) (oW hw 74 rfl)) HB.1 (oW hw 24 rfl) (oW hw 75 rfl) (W:=0) (g:=(mkF m 11 #[vr sb,vi c1] [(.ref sb)])) rfl (by rw [hml]; rfl) (argsL:=[]) (rest:=[]) (lenOf own_pd22 rfl) rfl (dE hby D56 7 rfl) rfl eh2 (by decide) (by decide)
  have N3:=Fr.app N2 N3q
  refine oS st3 ?_
  show gH (T3.setTop (mkF m 14 #[vr sb,vi c1] [(.int 1)])) ..
  refine oS (fun _=>XS.ifNo X3.here hx rfl (dE hby D56 8 rfl) rfl ((if0 _ _).trans (feq (by decide)).1)) ?_
  refine oS (fun _=>XS.iloadN X3.here hx rfl (dE hby D56 9 rfl) rfl) ?_
  obtain ⟨_,T4,L4,X4,⟨rfl,N4q,eh4⟩,st4⟩:=own_cS X3 hx hZ hown (own_cenc l Z a0 hw [] c1 h0 O0 hc) (oW hw 353 rfl) (oW hw 354 rfl) (oW hw 246 rfl) (oW hw 355 rfl) (W:=0) (g:=(mkF m 18 #[vr sb,vi c1] [(.int c1)])) rfl (by rw [hml]; rfl) (argsL:=[(.int c1)]) (rest:=[]) (lenOf own_pd26 rfl) rfl (dE hby D56 10 rfl) rfl eh3 (by decide) (by decide)
  have N4:=Fr.app N3 N4q
  refine oS st4 ?_
  show gH (T4.setTop (mkF m 21 #[vr sb,vi c1] [(.int 1)])) ..
  refine oS (fun _=>XS.ifNo X4.here hx rfl (dE hby D56 11 rfl) rfl ((if0 _ _).trans (feq (by decide)).1)) ?_
  refine oS (fun _=>XS.aloadN X4.here hx rfl (dE hby D56 12 rfl) rfl rfl) ?_
  obtain ⟨T5,X5,e5,st5⟩:=getF X4 hx hZ hown (host:="") (Or.inl (oW hw 29 rfl)) Via.refl eh4 HB.2.2.2.1 (g:=(mkF m 25 #[vr sb,vi c1] [(.ref sb)])) rfl rfl (dE hby D56 13 rfl)
  refine oS st5 ?_
  show gH (T5.setTop (mkF m 28 #[vr sb,vi c1] [(.ref bv)])) ..
  refine oS (fun _=>XS.aloadN X5.here hx rfl (dE hby D56 14 rfl) rfl rfl) ?_
  refine oS (fun _=>XS.dup X5.here hx rfl (dE hby D56 15 rfl) rfl rfl) ?_
  obtain ⟨T6,X6,e6,st6⟩:=getF X5 hx hZ hown (host:="") (Or.inl (oW hw 69 rfl)) Via.refl e5 HB.2.2.1 (g:=(mkF m 30 #[vr sb,vi c1] [(.ref sb),(.ref sb),(.ref bv)])) rfl rfl (dE hby D56 16 rfl)
  refine oS st6 ?_
  show gH (T6.setTop (mkF m 33 #[vr sb,vi c1] [(.int (.ofNat cs.length)),(.ref sb),(.ref bv)])) ..
  refine oS (fun _=>XS.dupX1 X6.here hx rfl (dE hby D56 17 rfl) rfl rfl rfl) ?_
  refine oS (fun _=>XS.iconst X6.here hx rfl (dE hby D56 18 rfl)) ?_
  refine oS (fun _=>XS.iadd X6.here hx rfl (dE hby D56 19 rfl) rfl) ?_
  show gH (T6.setTop (mkF m 36 #[vr sb,vi c1] [(.int ((Int32.ofNat cs.length)+(1:Int32))),(.ref sb),(.int (.ofNat cs.length)),(.ref bv)])) ..
  rw [oO cs.length]
  obtain ⟨T7,h7,X7,e7,W7,st7⟩:=putF X6 hx hZ hown (host:="") (Or.inl (oW hw 69 rfl)) Via.refl e6 HB.2.2.1 HB.1 (Or.inl (oW hw 70 rfl)) (oW hw 15 rfl) (ty:=.int) (by decide) rfl rfl (g:=(mkF m 36 #[vr sb,vi c1] [(.int (.ofNat (cs.length+1))),(.ref sb),(.int (.ofNat cs.length)),(.ref bv)])) rfl rfl (dE hby D56 20 rfl)
  refine oS st7 ?_
  have z8:=W7.size
  have O9:=Old.wr O0 W7 (by omega)
  have K10:=Kr.wr W7 (Or.inl (by simp))
  have N7:=Fr.snoc X7 N4 (by omega : Z.heap.size≤sb)
  have Fw7:=HB.2.2.1.same W7
  show gH (T7.setTop (mkF m 39 #[vr sb,vi c1] [(.int (.ofNat cs.length)),(.ref bv)])) ..
  refine oS (fun _=>XS.iloadN X7.here hx rfl (dE hby D56 21 rfl) rfl) ?_
  refine oS (fun _=>XS.i2b X7.here hx rfl (dE hby D56 22 rfl) rfl) ?_
  have q11:=(HB2.other W7 (show @Ne Nat bv sb by omega))
  have V12p : Arv Z h7 bv kb .byte (Int32.ofNat 16) ((own_L1 cs)++[(.int 0)]) (.int 0):=q11.pad (pad_rep (own_L1 cs) (.int 0) 1)
  obtain ⟨cl13,Ar13,qk13,Sz13,Mz13,Hz13,Uz13⟩:=id V12p
  obtain ⟨T14,h14,X14,e14,W14,st14⟩:=stB X7 hx hZ e7 Ar13 (j:=(Int32.ofNat cs.length)) (oI (i:=cs.length) (n:=16) Sz13 (by omega) (by decide)) (g:=(mkF m 41 #[vr sb,vi c1] [(.int (c1.toInt8.toInt32)),(.int (.ofNat cs.length)),(.ref bv)])) rfl rfl (dE hby D56 23 rfl)
  refine oS st14 ?_
  have V14:=Arv.set Ar13 qk13 Sz13 Mz13 Hz13 Uz13 (fits_nar_byte _) W14 (own_L1 cs).length (by rw [oC (by omega),own_L1_len]) (by simp)
  have z15:=W14.size
  have O16:=Old.wr O9 W14 (by omega)
  have K17:=K10.wr W14 (Or.inl (by simp))
  have N14:=Fr.snoc X14 N7 (by omega : Z.heap.size≤bv)
  have V14' : Arv Z h14 bv kb .byte (Int32.ofNat 16) (own_L1 (cs++[c1])) (.int 0):=by have q:=V14; rw [own_set] at q; rw [own_L1_app]; exact q
  show gH (T14.setTop (mkF m 42 #[vr sb,vi c1] [])) ..
  refine oS (fun _=>XS.goto X14.here hx rfl (pc0:=42) (pc':=75) rfl (dE hby D56 24 rfl) (by decide) (by decide)) ?_
  refine oS (fun _=>XS.aloadN X14.here hx rfl (dE hby D56 25 rfl) rfl rfl) ?_
  show gH (T14.setTop (mkF m 76 #[vr sb,vi c1] [(.ref sb)])) ..
  have q18:=(Fw7.other W14 (Or.inl (show @Ne Nat sb bv by omega)))
  have Fcn : Fld Z h14 sb "java/lang/AbstractStringBuilder" "count" "I" (.int (.ofNat (cs++[c1]).length)):=by have q:=q18; rw [List.length_append]; exact q
  have q19:=((HB.1.wr W7).wr W14)
  have q20:=((HB.2.1.other W7 (Or.inr (slot_ne (Or.inl (oW hw 32 rfl)) (Or.inl (oW hw 70 rfl)) (by decide) (t:=.byte) (t':=.int) (by decide) (by decide)))).other W14 (Or.inl (show @Ne Nat sb bv by omega)))
  have q21:=((HB.2.2.2.1.other W7 (Or.inr (slot_ne (Or.inl (oW hw 30 rfl)) (Or.inl (oW hw 70 rfl)) (by decide) (t:=(.array .byte)) (t':=.int) (by decide) (by decide)))).other W14 (Or.inl (show @Ne Nat sb bv by omega)))
  have q22:=((HB.2.2.2.2.other W7 (Or.inr (slot_ne (Or.inl (oW hw 314 rfl)) (Or.inl (oW hw 70 rfl)) (by decide) (t:=.boolean) (t':=.int) (by decide) (by decide)))).other W14 (Or.inl (show @Ne Nat sb bv by omega)))
  exact own_retA X14 hx hret rfl rfl hlk (dE hby D56 26 rfl) (by rw [e14]; exact ⟨rfl,N14,K17,⟨q19,q20,Fcn,q21,q22⟩,V14'⟩) (by decide) (by decide)
def L57 : List (Nat × Instr × Nat):=[(0,.aload_n 0,1),(1,.iload_n 1,1),(2,.invokespecial 50,3),(5,.pop,1),(6,.aload_n 0,1),(7,.areturn,1)]
theorem D57 : ∀ q∈L57,decode jdk_67_method_14_code q.1 = .ok q.2:=by decide +kernel
theorem own_pd51 : parseMethodDescriptor "(C)Ljava/lang/AbstractStringBuilder;" = some ⟨[.char],some (.object "java/lang/AbstractStringBuilder")⟩:=by decide +kernel
theorem own_sacL (l:Launch) (Z:State) (a0:Array Value) (hw:∀ d∈tables_1,d.before a0 Z = true) (ws:List Jvm.Cond) (sb:Addr) (c1:Int32) (bv:Addr) (kb:ClassId) (cs:List Int32) (w1:Int32) (fm:Value) (h0:Heap) (O0:Old Z Z.heap.size h0) (S1:Sta Z Z.heap "java/lang/String" "COMPACT_STRINGS" "Z" (.int w1)) (hw1:¬ (w1 = (0:Int32))) (US:own_US Z) (SF:Sta Z Z.heap "jdk/internal/util/Preconditions" "SIOOBE_FORMATTER" "Ljava/util/function/BiFunction;" fm) (hfm:fm = .null ∨ ∃ a,fm = .ref a) (gs:Z.heap.size≤sb) (gb:Z.heap.size≤bv) (nsb:@Ne Nat sb bv) (hlen:cs.length < 15) (hc:¬ (255:Int32) < c1) (HB:own_SBL Z h0 sb bv kb cs) :
    own_Met l Z (⟨"java/lang/StringBuilder","append","(C)Ljava/lang/StringBuilder;"⟩ : MethodName) jdk_67_method_14_code 2 (some (.object "java/lang/StringBuilder")) ws (⟨5,0,0,90⟩ : Room) #[(.ref sb),(.int c1)] h0 (fun v h L=>v = some (.ref sb)∧Fr Z.heap.size L∧Keep h0 h [sb,bv]∧own_SBL Z h sb bv kb (cs++[c1])) 0 0:=by
  refine own_bodyA (ef:=fun m=>mkF m 0 #[.val (.ref sb),.val (.int c1)] []) (plainFor_of_name own_pn11) ?_
  intro p e s m below meth c T0 hx hZ hby hml hown hnm hret hlk X0 e0
  have N0:=Fr.nil Z.heap.size
  have z0 : Z.heap.size≤h0.size:=O0.2.1
  have Kr:=Keep.refl h0 [sb,bv]
  show gH (T0.setTop (mkF m 0 #[vr sb,vi c1] [])) ..
  have ltsb:=oL HB.1.1.lt
  have ltbv:=oL HB.2.lt
  refine oS (fun _=>XS.aloadN X0.here hx rfl (dE hby D57 0 rfl) rfl rfl) ?_
  refine oS (fun _=>XS.iloadN X0.here hx rfl (dE hby D57 1 rfl) rfl) ?_
  obtain ⟨_,T1,L1,X1,⟨rfl,N1q,K1_,Q_⟩,st1⟩:=own_cU X0 hx hZ hown (own_aacL l Z a0 hw [] sb c1 bv kb cs w1 fm h0 O0 S1 hw1 US SF hfm gs gb nsb hlen hc HB) (oW hw 296 rfl) (oW hw 297 rfl) (own_sameM (own_clsP (y:=(⟨"java/lang/AbstractStringBuilder","getValue","()[B"⟩ : MethodName)) (oW hw 58 rfl)) (oW hw 297 rfl) (by decide)) (oW hw 67 rfl) (by decide) HB.1.1 (oW hw 24 rfl) (oW hw 299 rfl) (W:=0) (g:=(mkF m 2 #[vr sb,vi c1] [(.int c1),(.ref sb)])) rfl (by rw [hml]; rfl) (argsL:=[(.int c1)]) (rest:=[]) (lenOf own_pd51 rfl) rfl (dE hby D57 2 rfl) rfl e0 (by decide) (by decide)
  have N1:=Fr.app N0 N1q
  refine oS st1 ?_
  have z2:=K1_.1
  have O3:=Old.keep O0 K1_ (allS (by omega) (allS (by omega) all0))
  have K4:=Kr.trans K1_ (allS (Or.inl (by simp)) (allS (Or.inl (by simp)) all0))
  show gH (T1.setTop (mkF m 5 #[vr sb,vi c1] [(.ref sb)])) ..
  refine oS (fun _=>XS.pop X1.here hx rfl (dE hby D57 3 rfl) rfl rfl) ?_
  refine oS (fun _=>XS.aloadN X1.here hx rfl (dE hby D57 4 rfl) rfl rfl) ?_
  show gH (T1.setTop (mkF m 7 #[vr sb,vi c1] [(.ref sb)])) ..
  exact own_retA X1 hx hret rfl rfl hlk (dE hby D57 5 rfl) ⟨rfl,N1,K4,Q_⟩ (by decide) (by decide)
theorem own_aacU (l:Launch) (Z:State) (a0:Array Value) (hw:∀ d∈tables_1,d.before a0 Z = true) (ws:List Jvm.Cond) (sb:Addr) (c1:Int32) (bv:Addr) (kb:ClassId) (cs:List Int32) (w1:Int32) (fm:Value) (h0:Heap) (O0:Old Z Z.heap.size h0) (S1:Sta Z Z.heap "java/lang/String" "COMPACT_STRINGS" "Z" (.int w1)) (hw1:¬ (w1 = (0:Int32))) (US:own_US Z) (SF:Sta Z Z.heap "jdk/internal/util/Preconditions" "SIOOBE_FORMATTER" "Ljava/util/function/BiFunction;" fm) (hfm:fm = .null ∨ ∃ a,fm = .ref a) (gs:Z.heap.size≤sb) (gb:Z.heap.size≤bv) (nsb:@Ne Nat sb bv) (hlen:cs.length < 15) (hc:¬ (255:Int32) < c1) (HB:own_SBU Z h0 sb bv kb cs) :
    own_Met l Z (⟨"java/lang/AbstractStringBuilder","append","(C)Ljava/lang/AbstractStringBuilder;"⟩ : MethodName) jdk_68_method_31_code 2 (some (.object "java/lang/AbstractStringBuilder")) ws (⟨4,0,0,70⟩ : Room) #[(.ref sb),(.int c1)] h0 (fun v h L=>v = some (.ref sb)∧Fr Z.heap.size L∧Keep h0 h [sb,bv]∧own_SBU Z h sb bv kb (cs++[c1])) 0 0:=by
  refine own_bodyA (ef:=fun m=>mkF m 0 #[.val (.ref sb),.val (.int c1)] []) (plainFor_of_name own_pn10) ?_
  intro p e s m below meth c T0 hx hZ hby hml hown hnm hret hlk X0 e0
  have N0:=Fr.nil Z.heap.size
  have z0 : Z.heap.size≤h0.size:=O0.2.1
  have Kr:=Keep.refl h0 [sb,bv]
  show gH (T0.setTop (mkF m 0 #[vr sb,vi c1] [])) ..
  have HB2:=HB.2
  have HB:=HB.1
  have ltsb:=oL HB.1.lt
  have ltbv:=oL HB2.lt
  refine oS (fun _=>XS.aloadN X0.here hx rfl (dE hby D56 0 rfl) rfl rfl) ?_
  refine oS (fun _=>XS.aloadN X0.here hx rfl (dE hby D56 1 rfl) rfl rfl) ?_
  obtain ⟨T1,X1,e1,st1⟩:=getF X0 hx hZ hown (host:="") (Or.inl (oW hw 69 rfl)) Via.refl e0 HB.2.2.1 (g:=(mkF m 2 #[vr sb,vi c1] [(.ref sb),(.ref sb)])) rfl rfl (dE hby D56 2 rfl)
  refine oS st1 ?_
  show gH (T1.setTop (mkF m 5 #[vr sb,vi c1] [(.int (.ofNat cs.length)),(.ref sb)])) ..
  refine oS (fun _=>XS.iconst X1.here hx rfl (dE hby D56 3 rfl)) ?_
  refine oS (fun _=>XS.iadd X1.here hx rfl (dE hby D56 4 rfl) rfl) ?_
  show gH (T1.setTop (mkF m 7 #[vr sb,vi c1] [(.int ((Int32.ofNat cs.length)+(1:Int32))),(.ref sb)])) ..
  rw [oO cs.length]
  obtain ⟨_,T2,L2,X2,⟨rfl,N2q,eh2⟩,st2⟩:=own_cP X1 hx hZ hown (own_ens1 l Z a0 hw [] sb (cs.length+1) bv kb (own_U2 cs) h0 O0 (by omega) HB.2.2.2.1 HB.2.1 HB2) (oW hw 221 rfl) (oW hw 222 rfl) (own_selP (own_clsP (oW hw 224 rfl)) (Cond.privateMethod_at (oW hw 223 rfl)) (oW hw 222 rfl) (by decide)) (oW hw 223 rfl) HB.1 (oW hw 24 rfl) (oW hw 225 rfl) (W:=0) (g:=(mkF m 7 #[vr sb,vi c1] [(.int (.ofNat (cs.length+1))),(.ref sb)])) rfl (by rw [hml]; rfl) (argsL:=[(.int (.ofNat (cs.length+1)))]) (rest:=[]) (lenOf own_pd12 rfl) rfl (dE hby D56 5 rfl) rfl e1 (by decide) (by decide)
  have N2:=Fr.app N0 N2q
  refine oS st2 ?_
  show gH (T2.setTop (mkF m 10 #[vr sb,vi c1] [])) ..
  refine oS (fun _=>XS.aloadN X2.here hx rfl (dE hby D56 6 rfl) rfl rfl) ?_
  obtain ⟨_,T3,L3,X3,⟨rfl,N3q,eh3⟩,st3⟩:=own_cV X2 hx hZ hown (own_isl1 l Z a0 hw [] sb w1 h0 O0 S1 hw1 HB.2.1) (oW hw 242 rfl) (oW hw 72 rfl) (oW hw 74 rfl) (oW hw 73 rfl) (own_clsP (y:=(⟨"java/lang/AbstractStringBuilder","isLatin1","()Z"⟩ : MethodName)) (oW hw 74 rfl)) HB.1 (oW hw 24 rfl) (oW hw 75 rfl) (W:=0) (g:=(mkF m 11 #[vr sb,vi c1] [(.ref sb)])) rfl (by rw [hml]; rfl) (argsL:=[]) (rest:=[]) (lenOf own_pd22 rfl) rfl (dE hby D56 7 rfl) rfl eh2 (by decide) (by decide)
  have N3:=Fr.app N2 N3q
  refine oS st3 ?_
  show gH (T3.setTop (mkF m 14 #[vr sb,vi c1] [(.int 0)])) ..
  refine oS (fun _=>XS.ifYes X3.here hx rfl (pc0:=14) (pc':=45) rfl (dE hby D56 8 rfl) rfl ((if0 _ _).trans (teq rfl).1) (by decide) (by decide)) ?_
  refine oS (fun _=>XS.aloadN X3.here hx rfl (dE hby D56 27 rfl) rfl rfl) ?_
  obtain ⟨_,T4,L4,X4,⟨rfl,N4q,eh4⟩,st4⟩:=own_cV X3 hx hZ hown (own_isl1 l Z a0 hw [] sb w1 h0 O0 S1 hw1 HB.2.1) (oW hw 242 rfl) (oW hw 72 rfl) (oW hw 74 rfl) (oW hw 73 rfl) (own_clsP (y:=(⟨"java/lang/AbstractStringBuilder","isLatin1","()Z"⟩ : MethodName)) (oW hw 74 rfl)) HB.1 (oW hw 24 rfl) (oW hw 75 rfl) (W:=0) (g:=(mkF m 46 #[vr sb,vi c1] [(.ref sb)])) rfl (by rw [hml]; rfl) (argsL:=[]) (rest:=[]) (lenOf own_pd22 rfl) rfl (dE hby D56 28 rfl) rfl eh3 (by decide) (by decide)
  have N4:=Fr.app N3 N4q
  refine oS st4 ?_
  show gH (T4.setTop (mkF m 49 #[vr sb,vi c1] [(.int 0)])) ..
  refine oS (fun _=>XS.ifYes X4.here hx rfl (pc0:=49) (pc':=56) rfl (dE hby D56 29 rfl) rfl ((if0 _ _).trans (teq rfl).1) (by decide) (by decide)) ?_
  refine oS (fun _=>XS.aloadN X4.here hx rfl (dE hby D56 30 rfl) rfl rfl) ?_
  obtain ⟨T5,X5,e5,st5⟩:=getF X4 hx hZ hown (host:="") (Or.inl (oW hw 29 rfl)) Via.refl eh4 HB.2.2.2.1 (g:=(mkF m 57 #[vr sb,vi c1] [(.ref sb)])) rfl rfl (dE hby D56 31 rfl)
  refine oS st5 ?_
  show gH (T5.setTop (mkF m 60 #[vr sb,vi c1] [(.ref bv)])) ..
  refine oS (fun _=>XS.aloadN X5.here hx rfl (dE hby D56 32 rfl) rfl rfl) ?_
  refine oS (fun _=>XS.dup X5.here hx rfl (dE hby D56 33 rfl) rfl rfl) ?_
  obtain ⟨T6,X6,e6,st6⟩:=getF X5 hx hZ hown (host:="") (Or.inl (oW hw 69 rfl)) Via.refl e5 HB.2.2.1 (g:=(mkF m 62 #[vr sb,vi c1] [(.ref sb),(.ref sb),(.ref bv)])) rfl rfl (dE hby D56 34 rfl)
  refine oS st6 ?_
  show gH (T6.setTop (mkF m 65 #[vr sb,vi c1] [(.int (.ofNat cs.length)),(.ref sb),(.ref bv)])) ..
  refine oS (fun _=>XS.dupX1 X6.here hx rfl (dE hby D56 35 rfl) rfl rfl rfl) ?_
  refine oS (fun _=>XS.iconst X6.here hx rfl (dE hby D56 36 rfl)) ?_
  refine oS (fun _=>XS.iadd X6.here hx rfl (dE hby D56 37 rfl) rfl) ?_
  show gH (T6.setTop (mkF m 68 #[vr sb,vi c1] [(.int ((Int32.ofNat cs.length)+(1:Int32))),(.ref sb),(.int (.ofNat cs.length)),(.ref bv)])) ..
  rw [oO cs.length]
  obtain ⟨T7,h7,X7,e7,W7,st7⟩:=putF X6 hx hZ hown (host:="") (Or.inl (oW hw 69 rfl)) Via.refl e6 HB.2.2.1 HB.1 (Or.inl (oW hw 70 rfl)) (oW hw 15 rfl) (ty:=.int) (by decide) rfl rfl (g:=(mkF m 68 #[vr sb,vi c1] [(.int (.ofNat (cs.length+1))),(.ref sb),(.int (.ofNat cs.length)),(.ref bv)])) rfl rfl (dE hby D56 38 rfl)
  refine oS st7 ?_
  have z8:=W7.size
  have O9:=Old.wr O0 W7 (by omega)
  have K10:=Kr.wr W7 (Or.inl (by simp))
  have N7:=Fr.snoc X7 N4 (by omega : Z.heap.size≤sb)
  have Fw7:=HB.2.2.1.same W7
  show gH (T7.setTop (mkF m 71 #[vr sb,vi c1] [(.int (.ofNat cs.length)),(.ref bv)])) ..
  refine oS (fun _=>XS.iloadN X7.here hx rfl (dE hby D56 39 rfl) rfl) ?_
  have q11:=(HB2.other W7 (show @Ne Nat bv sb by omega))
  obtain ⟨_,T12,L12,X12,⟨rfl,N12q,K12_,Vn⟩,st12⟩:=own_cS X7 hx hZ hown (own_pcsb l Z a0 hw [] bv c1 cs.length fm (own_U2 cs) kb h7 O9 US SF hfm (by omega) gb (own_U2_len cs) q11) (oW hw 300 rfl) (oW hw 301 rfl) (oW hw 145 rfl) (oW hw 302 rfl) (W:=0) (g:=(mkF m 72 #[vr sb,vi c1] [(.int c1),(.int (.ofNat cs.length)),(.ref bv)])) rfl (by rw [hml]; rfl) (argsL:=[(.ref bv),(.int (.ofNat cs.length)),(.int c1)]) (rest:=[]) (lenOf own_pd2 rfl) rfl (dE hby D56 40 rfl) rfl e7 (by decide) (by decide)
  have N12:=Fr.app N7 N12q
  refine oS st12 ?_
  have z13:=K12_.1
  have O14:=Old.keep O9 K12_ (allS (by omega) all0)
  have K15:=K10.trans K12_ (allS (Or.inl (by simp)) all0)
  show gH (T12.setTop (mkF m 75 #[vr sb,vi c1] [])) ..
  have Vn' : Arv Z T12.heap bv kb .byte (Int32.ofNat 32) (own_U2 (cs++[c1])) (.int 0):=by rw [own_U2_app]; exact Vn
  refine oS (fun _=>XS.aloadN X12.here hx rfl (dE hby D56 25 rfl) rfl rfl) ?_
  show gH (T12.setTop (mkF m 76 #[vr sb,vi c1] [(.ref sb)])) ..
  have q16:=(Fw7.keep K12_ (ninS (show @Ne Nat sb bv by omega) nin0))
  have Fcn : Fld Z T12.heap sb "java/lang/AbstractStringBuilder" "count" "I" (.int (.ofNat (cs++[c1]).length)):=by have q:=q16; rw [List.length_append]; exact q
  have q17:=((HB.1.wr W7).keep K12_)
  have q18:=((HB.2.1.other W7 (Or.inr (slot_ne (Or.inl (oW hw 32 rfl)) (Or.inl (oW hw 70 rfl)) (by decide) (t:=.byte) (t':=.int) (by decide) (by decide)))).keep K12_ (ninS (show @Ne Nat sb bv by omega) nin0))
  have q19:=((HB.2.2.2.1.other W7 (Or.inr (slot_ne (Or.inl (oW hw 30 rfl)) (Or.inl (oW hw 70 rfl)) (by decide) (t:=(.array .byte)) (t':=.int) (by decide) (by decide)))).keep K12_ (ninS (show @Ne Nat sb bv by omega) nin0))
  have q20:=((HB.2.2.2.2.other W7 (Or.inr (slot_ne (Or.inl (oW hw 314 rfl)) (Or.inl (oW hw 70 rfl)) (by decide) (t:=.boolean) (t':=.int) (by decide) (by decide)))).keep K12_ (ninS (show @Ne Nat sb bv by omega) nin0))
  exact own_retA X12 hx hret rfl rfl hlk (dE hby D56 26 rfl) ⟨rfl,N12,K15,⟨q17,q18,Fcn,q19,q20⟩,Vn'⟩ (by decide) (by decide)
theorem own_sacU (l:Launch) (Z:State) (a0:Array Value) (hw:∀ d∈tables_1,d.before a0 Z = true) (ws:List Jvm.Cond) (sb:Addr) (c1:Int32) (bv:Addr) (kb:ClassId) (cs:List Int32) (w1:Int32) (fm:Value) (h0:Heap) (O0:Old Z Z.heap.size h0) (S1:Sta Z Z.heap "java/lang/String" "COMPACT_STRINGS" "Z" (.int w1)) (hw1:¬ (w1 = (0:Int32))) (US:own_US Z) (SF:Sta Z Z.heap "jdk/internal/util/Preconditions" "SIOOBE_FORMATTER" "Ljava/util/function/BiFunction;" fm) (hfm:fm = .null ∨ ∃ a,fm = .ref a) (gs:Z.heap.size≤sb) (gb:Z.heap.size≤bv) (nsb:@Ne Nat sb bv) (hlen:cs.length < 15) (hc:¬ (255:Int32) < c1) (HB:own_SBU Z h0 sb bv kb cs) :
    own_Met l Z (⟨"java/lang/StringBuilder","append","(C)Ljava/lang/StringBuilder;"⟩ : MethodName) jdk_67_method_14_code 2 (some (.object "java/lang/StringBuilder")) ws (⟨5,0,0,90⟩ : Room) #[(.ref sb),(.int c1)] h0 (fun v h L=>v = some (.ref sb)∧Fr Z.heap.size L∧Keep h0 h [sb,bv]∧own_SBU Z h sb bv kb (cs++[c1])) 0 0:=by
  refine own_bodyA (ef:=fun m=>mkF m 0 #[.val (.ref sb),.val (.int c1)] []) (plainFor_of_name own_pn11) ?_
  intro p e s m below meth c T0 hx hZ hby hml hown hnm hret hlk X0 e0
  have N0:=Fr.nil Z.heap.size
  have z0 : Z.heap.size≤h0.size:=O0.2.1
  have Kr:=Keep.refl h0 [sb,bv]
  show gH (T0.setTop (mkF m 0 #[vr sb,vi c1] [])) ..
  have ltsb:=oL HB.1.1.lt
  have ltbv:=oL HB.2.lt
  refine oS (fun _=>XS.aloadN X0.here hx rfl (dE hby D57 0 rfl) rfl rfl) ?_
  refine oS (fun _=>XS.iloadN X0.here hx rfl (dE hby D57 1 rfl) rfl) ?_
  obtain ⟨_,T1,L1,X1,⟨rfl,N1q,K1_,Q_⟩,st1⟩:=own_cU X0 hx hZ hown (own_aacU l Z a0 hw [] sb c1 bv kb cs w1 fm h0 O0 S1 hw1 US SF hfm gs gb nsb hlen hc HB) (oW hw 296 rfl) (oW hw 297 rfl) (own_sameM (own_clsP (y:=(⟨"java/lang/AbstractStringBuilder","getValue","()[B"⟩ : MethodName)) (oW hw 58 rfl)) (oW hw 297 rfl) (by decide)) (oW hw 67 rfl) (by decide) HB.1.1 (oW hw 24 rfl) (oW hw 299 rfl) (W:=0) (g:=(mkF m 2 #[vr sb,vi c1] [(.int c1),(.ref sb)])) rfl (by rw [hml]; rfl) (argsL:=[(.int c1)]) (rest:=[]) (lenOf own_pd51 rfl) rfl (dE hby D57 2 rfl) rfl e0 (by decide) (by decide)
  have N1:=Fr.app N0 N1q
  refine oS st1 ?_
  have z2:=K1_.1
  have O3:=Old.keep O0 K1_ (allS (by omega) (allS (by omega) all0))
  have K4:=Kr.trans K1_ (allS (Or.inl (by simp)) (allS (Or.inl (by simp)) all0))
  show gH (T1.setTop (mkF m 5 #[vr sb,vi c1] [(.ref sb)])) ..
  refine oS (fun _=>XS.pop X1.here hx rfl (dE hby D57 3 rfl) rfl rfl) ?_
  refine oS (fun _=>XS.aloadN X1.here hx rfl (dE hby D57 4 rfl) rfl rfl) ?_
  show gH (T1.setTop (mkF m 7 #[vr sb,vi c1] [(.ref sb)])) ..
  exact own_retA X1 hx hret rfl rfl hlk (dE hby D57 5 rfl) ⟨rfl,N1,K4,Q_⟩ (by decide) (by decide)
def own_dig (j:Nat) : Int32:=Int32.ofNat (48+j % 10)
theorem own_lp0 : ∀ d : Fin 10,¬ lcmpW (Int32.ofNat d.1).toInt64 (0:Int64) < (0:Int32):=by decide
theorem own_lp1 : ∀ d : Fin 10,(0:Int32) < lcmpW (-(Int32.ofNat d.1).toInt64) (-10 : Int64):=by decide
theorem own_lp2 : ∀ d : Fin 10,(0:Int32) < lcmpW (-(Int32.ofNat d.1).toInt64) (-2147483648 : Int64):=by decide
theorem own_lp3 : ∀ d : Fin 10,(-(Int32.ofNat d.1).toInt64).toInt32 = -(Int32.ofNat d.1):=by decide
theorem own_ln0 : ∀ d : Fin 9,lcmpW (-(Int32.ofNat (d.1+1))).toInt64 (0:Int64) < (0:Int32):=by decide
theorem own_ln1 : ∀ d : Fin 9,(0:Int32) < lcmpW (-(Int32.ofNat (d.1+1))).toInt64 (-10 : Int64):=by decide
theorem own_ln2 : ∀ d : Fin 9,(0:Int32) < lcmpW (-(Int32.ofNat (d.1+1))).toInt64 (-2147483648 : Int64):=by decide
theorem own_ln3 : ∀ d : Fin 9,(-(Int32.ofNat (d.1+1))).toInt64.toInt32 = -(Int32.ofNat (d.1+1)):=by decide
theorem own_lq1 : ∀ d : Fin 10,(-100:Int32) < -(Int32.ofNat d.1):=by decide
theorem own_lq2 : ∀ d : Fin 10,¬ -(Int32.ofNat d.1) < (-9:Int32):=by decide
theorem own_lq3 : ∀ d : Fin 10,- -(Int32.ofNat d.1) = Int32.ofNat d.1:=by decide
theorem own_lq4 : ∀ d : Fin 10,nar .byte (own_dig d.1) = own_lo (Int32.ofNat (48+d.1)):=by decide
theorem own_lq5 : nar .byte (45:Int32) = own_lo (45:Int32):=by decide
theorem own_pn52 : plainName "java/lang/Long" = true:=by first | (simp [plainName,overriddenIn]; done) | decide +kernel
def L58 : List (Nat × Instr × Nat):=[(0,.iconst 1,1),(1,.istore_n 2,1),(2,.lload_n 0,1),(3,.lconst 0,1),(4,.lcmp,1),(5,.ifCond .lt 8,3),(8,.iconst 0,1),(9,.istore_n 2,1),(10,.lload_n 0,1),(11,.lneg,1),(12,.lstore_n 0,1),(13,.ldc2_w 140,3),(16,.lstore_n 3,1),(17,.iconst 1,1),(18,.istore 5,2),(20,.iload 5,2),(22,.bipush 19,2),(24,.if_icmp .ge 26,3),(27,.lload_n 0,1),(28,.lload_n 3,1),(29,.lcmp,1),(30,.ifCond .le 8,3),(33,.iload 5,2),(35,.iload_n 2,1),(36,.iadd,1),(37,.ireturn,1)]
theorem D58 : ∀ q∈L58,decode jdk_35_method_15_code q.1 = .ok q.2:=by decide +kernel
theorem own_ssp (l:Launch) (Z:State) (a0:Array Value) (hw:∀ d∈tables_1,d.before a0 Z = true) (ws:List Jvm.Cond)  (d:Nat) (h0:Heap) (O0:Old Z Z.heap.size h0) (hd:d < 10) :
    own_Met l Z (⟨"java/lang/Long","stringSize","(J)I"⟩ : MethodName) jdk_35_method_15_code 6 (some .int) ws (⟨0,0,0,0⟩ : Room) #[(.long ((Int32.ofNat d).toInt64))] h0 (fun v h L=>v = some (.int 1)∧Fr Z.heap.size L∧h = h0) 0 0:=by
  refine own_bodyA (ef:=fun m=>mkF m 0 #[.val (.long ((Int32.ofNat d).toInt64)),.second,.unset,.unset,.unset,.unset] []) (plainFor_of_name own_pn52) ?_
  intro p e s m below meth c T0 hx hZ hby hml hown hnm hret hlk X0 e0
  have N0:=Fr.nil Z.heap.size
  show gH (T0.setTop (mkF m 0 #[.val (.long ((Int32.ofNat d).toInt64)),.second,.unset,.unset,.unset,.unset] [])) ..
  refine oS (fun _=>XS.iconst X0.here hx rfl (dE hby D58 0 rfl)) ?_
  refine oS (fun _=>XS.istoreN X0.here hx rfl (dE hby D58 1 rfl) rfl (l':=#[.val (.long ((Int32.ofNat d).toInt64)),.second,vi 1,.unset,.unset,.unset]) rfl) ?_
  refine oS (fun _=>XS.lloadN X0.here hx rfl (dE hby D58 2 rfl) rfl) ?_
  refine oS (fun _=>XS.lconst X0.here hx rfl (dE hby D58 3 rfl)) ?_
  refine oS (fun _=>XS.lcmp X0.here hx rfl (dE hby D58 4 rfl) rfl) ?_
  refine oS (fun _=>XS.ifNo X0.here hx rfl (dE hby D58 5 rfl) rfl ((if0 _ _).trans (flt (own_lp0 ⟨d,hd⟩)).1)) ?_
  refine oS (fun _=>XS.iconst X0.here hx rfl (dE hby D58 6 rfl)) ?_
  refine oS (fun _=>XS.istoreN X0.here hx rfl (dE hby D58 7 rfl) rfl (l':=#[.val (.long ((Int32.ofNat d).toInt64)),.second,vi 0,.unset,.unset,.unset]) rfl) ?_
  refine oS (fun _=>XS.lloadN X0.here hx rfl (dE hby D58 8 rfl) rfl) ?_
  refine oS (fun _=>XS.lneg X0.here hx rfl (dE hby D58 9 rfl) rfl) ?_
  refine oS (fun _=>XS.lstoreN X0.here hx rfl (dE hby D58 10 rfl) rfl (l':=#[.val (.long (-((Int32.ofNat d).toInt64))),.second,vi 0,.unset,.unset,.unset]) rfl) ?_
  show gH (T0.setTop (mkF m 13 #[.val (.long (-((Int32.ofNat d).toInt64))),.second,vi 0,.unset,.unset,.unset] [])) ..
  refine oS (X0.ldc2Long hx hown (mvT hZ (oW hw 185 rfl)) (g:=(mkF m 13 #[.val (.long (-((Int32.ofNat d).toInt64))),.second,vi 0,.unset,.unset,.unset] [])) rfl (dE hby D58 11 rfl)) ?_
  show gH (T0.setTop (mkF m 16 #[.val (.long (-((Int32.ofNat d).toInt64))),.second,vi 0,.unset,.unset,.unset] [(.long (-10 : Int64))])) ..
  refine oS (fun _=>XS.lstoreN X0.here hx rfl (dE hby D58 12 rfl) rfl (l':=#[.val (.long (-((Int32.ofNat d).toInt64))),.second,vi 0,.val (.long (-10 : Int64)),.second,.unset]) rfl) ?_
  refine oS (fun _=>XS.iconst X0.here hx rfl (dE hby D58 13 rfl)) ?_
  refine oS (fun _=>XS.istore X0.here hx rfl (dE hby D58 14 rfl) rfl (l':=#[.val (.long (-((Int32.ofNat d).toInt64))),.second,vi 0,.val (.long (-10 : Int64)),.second,vi 1]) rfl) ?_
  refine oS (fun _=>XS.iload X0.here hx rfl (dE hby D58 15 rfl) rfl) ?_
  refine oS (fun _=>XS.bipush X0.here hx rfl (dE hby D58 16 rfl)) ?_
  refine oS (fun _=>XS.icmpNo X0.here hx rfl (dE hby D58 17 rfl) rfl (tlt (by decide)).2.1) ?_
  refine oS (fun _=>XS.lloadN X0.here hx rfl (dE hby D58 18 rfl) rfl) ?_
  refine oS (fun _=>XS.lloadN X0.here hx rfl (dE hby D58 19 rfl) rfl) ?_
  refine oS (fun _=>XS.lcmp X0.here hx rfl (dE hby D58 20 rfl) rfl) ?_
  refine oS (fun _=>XS.ifNo X0.here hx rfl (dE hby D58 21 rfl) rfl ((if0 _ _).trans (tlt (own_lp1 ⟨d,hd⟩)).2.2.2)) ?_
  refine oS (fun _=>XS.iload X0.here hx rfl (dE hby D58 22 rfl) rfl) ?_
  refine oS (fun _=>XS.iloadN X0.here hx rfl (dE hby D58 23 rfl) rfl) ?_
  refine oS (fun _=>XS.iadd X0.here hx rfl (dE hby D58 24 rfl) rfl) ?_
  show gH (T0.setTop (mkF m 37 #[.val (.long (-((Int32.ofNat d).toInt64))),.second,vi 0,.val (.long (-10 : Int64)),.second,vi 1] [(.int ((1:Int32)+(0:Int32)))])) ..
  exact own_retI X0 hx hret hlk (dE hby D58 25 rfl) (by rw [e0]; exact ⟨rfl,N0,rfl⟩) (by decide) (by decide)
def L59 : List (Nat × Instr × Nat):=[(0,.iload_n 2,1),(1,.istore 7,2),(3,.lload_n 0,1),(4,.lconst 0,1),(5,.lcmp,1),(6,.ifCond .ge 7,3),(13,.iconst 0,1),(14,.istore 8,2),(16,.iload 8,2),(18,.ifCond .ne 6,3),(21,.lload_n 0,1),(22,.lneg,1),(23,.lstore_n 0,1),(24,.lload_n 0,1),(25,.ldc2_w 129,3),(28,.lcmp,1),(29,.ifCond .gt 53,3),(82,.lload_n 0,1),(83,.l2i,1),(84,.istore 10,2),(86,.iload 10,2),(88,.bipush (-100),2),(90,.if_icmp .gt 53,3),(143,.aload_n 3,1),(144,.iinc 7 (-1),3),(147,.iload 7,2),(149,.getstatic 133,3),(152,.iload 10,2),(154,.ineg,1),(155,.baload,1),(156,.bastore,1),(157,.iload 10,2),(159,.bipush (-9),2),(161,.if_icmp .ge 17,3),(178,.iload 8,2),(180,.ifCond .eq 12,3),(192,.iload 7,2),(194,.ireturn,1),(9,.iconst 1,1),(10,.goto 4,3),(183,.aload_n 3,1),(184,.iinc 7 (-1),3),(187,.iload 7,2),(189,.bipush 45,2),(191,.bastore,1)]
theorem D59 : ∀ q∈L59,decode jdk_35_method_14_code q.1 = .ok q.2:=by decide +kernel
theorem own_gcp (l:Launch) (Z:State) (a0:Array Value) (hw:∀ d∈tables_1,d.before a0 Z = true) (ws:List Jvm.Cond) (bf:Addr) (d:Nat) (dg:Addr) (kdg kb : ClassId) (h0:Heap) (O0:Old Z Z.heap.size h0) (hd:d < 10) (SD:Sta Z Z.heap "java/lang/Integer" "DigitOnes" "[B" (.ref dg)) (Dg:Arv Z Z.heap dg kdg .byte (Int32.ofNat 100) (oV own_dig 100) (.int 0)) (gb:Z.heap.size≤bf) (Vb:Arv Z h0 bf kb .byte (1:Int32) [(.int 0)] (.int 0)) :
    own_Met l Z (⟨"java/lang/Long","getChars","(JI[B)I"⟩ : MethodName) jdk_35_method_14_code 11 (some .int) ws (⟨0,0,0,0⟩ : Room) #[(.long ((Int32.ofNat d).toInt64)),(.int 1),(.ref bf)] h0 (fun v h L=>∃ r : Int32,v = some (.int r)∧Fr Z.heap.size L∧Keep h0 h [bf]∧Arv Z h bf kb .byte (1:Int32) (own_L1 [Int32.ofNat (48+d)]) (.int 0)) 0 0:=by
  refine own_bodyA (ef:=fun m=>mkF m 0 #[.val (.long ((Int32.ofNat d).toInt64)),.second,.val (.int (1:Int32)),.val (.ref bf),.unset,.unset,.unset,.unset,.unset,.unset,.unset] []) (plainFor_of_name own_pn52) ?_
  intro p e s m below meth c T0 hx hZ hby hml hown hnm hret hlk X0 e0
  have N0:=Fr.nil Z.heap.size
  have z0 : Z.heap.size≤h0.size:=O0.2.1
  have Kr:=Keep.refl h0 [bf]
  show gH (T0.setTop (mkF m 0 #[.val (.long ((Int32.ofNat d).toInt64)),.second,vi 1,vr bf,.unset,.unset,.unset,.unset,.unset,.unset,.unset] [])) ..
  have ltb:=oL Vb.lt
  refine oS (fun _=>XS.iloadN X0.here hx rfl (dE hby D59 0 rfl) rfl) ?_
  refine oS (fun _=>XS.istore X0.here hx rfl (dE hby D59 1 rfl) rfl (l':=#[.val (.long ((Int32.ofNat d).toInt64)),.second,vi 1,vr bf,.unset,.unset,.unset,vi 1,.unset,.unset,.unset]) rfl) ?_
  refine oS (fun _=>XS.lloadN X0.here hx rfl (dE hby D59 2 rfl) rfl) ?_
  refine oS (fun _=>XS.lconst X0.here hx rfl (dE hby D59 3 rfl)) ?_
  refine oS (fun _=>XS.lcmp X0.here hx rfl (dE hby D59 4 rfl) rfl) ?_
  refine oS (fun _=>XS.ifYes X0.here hx rfl (pc0:=6) (pc':=13) rfl (dE hby D59 5 rfl) rfl ((if0 _ _).trans (flt (own_lp0 ⟨d,hd⟩)).2.1) (by decide) (by decide)) ?_
  refine oS (fun _=>XS.iconst X0.here hx rfl (dE hby D59 6 rfl)) ?_
  refine oS (fun _=>XS.istore X0.here hx rfl (dE hby D59 7 rfl) rfl (l':=#[.val (.long ((Int32.ofNat d).toInt64)),.second,vi 1,vr bf,.unset,.unset,.unset,vi 1,vi 0,.unset,.unset]) rfl) ?_
  refine oS (fun _=>XS.iload X0.here hx rfl (dE hby D59 8 rfl) rfl) ?_
  refine oS (fun _=>XS.ifNo X0.here hx rfl (dE hby D59 9 rfl) rfl ((if0 _ _).trans (teq rfl).2)) ?_
  refine oS (fun _=>XS.lloadN X0.here hx rfl (dE hby D59 10 rfl) rfl) ?_
  refine oS (fun _=>XS.lneg X0.here hx rfl (dE hby D59 11 rfl) rfl) ?_
  refine oS (fun _=>XS.lstoreN X0.here hx rfl (dE hby D59 12 rfl) rfl (l':=#[.val (.long (-((Int32.ofNat d).toInt64))),.second,vi 1,vr bf,.unset,.unset,.unset,vi 1,vi 0,.unset,.unset]) rfl) ?_
  refine oS (fun _=>XS.lloadN X0.here hx rfl (dE hby D59 13 rfl) rfl) ?_
  show gH (T0.setTop (mkF m 25 #[.val (.long (-((Int32.ofNat d).toInt64))),.second,vi 1,vr bf,.unset,.unset,.unset,vi 1,vi 0,.unset,.unset] [(.long (-((Int32.ofNat d).toInt64)))])) ..
  refine oS (X0.ldc2Long hx hown (mvT hZ (oW hw 190 rfl)) (g:=(mkF m 25 #[.val (.long (-((Int32.ofNat d).toInt64))),.second,vi 1,vr bf,.unset,.unset,.unset,vi 1,vi 0,.unset,.unset] [(.long (-((Int32.ofNat d).toInt64)))])) rfl (dE hby D59 14 rfl)) ?_
  show gH (T0.setTop (mkF m 28 #[.val (.long (-((Int32.ofNat d).toInt64))),.second,vi 1,vr bf,.unset,.unset,.unset,vi 1,vi 0,.unset,.unset] [(.long (-2147483648 : Int64)),(.long (-((Int32.ofNat d).toInt64)))])) ..
  refine oS (fun _=>XS.lcmp X0.here hx rfl (dE hby D59 15 rfl) rfl) ?_
  refine oS (fun _=>XS.ifYes X0.here hx rfl (pc0:=29) (pc':=82) rfl (dE hby D59 16 rfl) rfl ((if0 _ _).trans (tlt (own_lp2 ⟨d,hd⟩)).2.2.1) (by decide) (by decide)) ?_
  refine oS (fun _=>XS.lloadN X0.here hx rfl (dE hby D59 17 rfl) rfl) ?_
  refine oS (fun _=>XS.l2i X0.here hx rfl (dE hby D59 18 rfl) rfl) ?_
  show gH (T0.setTop (mkF m 84 #[.val (.long (-((Int32.ofNat d).toInt64))),.second,vi 1,vr bf,.unset,.unset,.unset,vi 1,vi 0,.unset,.unset] [(.int ((-((Int32.ofNat d).toInt64)).toInt32))])) ..
  rw [own_lp3 ⟨d,hd⟩]
  show gH (T0.setTop (mkF m 84 #[.val (.long (-((Int32.ofNat d).toInt64))),.second,vi 1,vr bf,.unset,.unset,.unset,vi 1,vi 0,.unset,.unset] [(.int (-(Int32.ofNat d)))])) ..
  refine oS (fun _=>XS.istore X0.here hx rfl (dE hby D59 19 rfl) rfl (l':=#[.val (.long (-((Int32.ofNat d).toInt64))),.second,vi 1,vr bf,.unset,.unset,.unset,vi 1,vi 0,.unset,vi (-(Int32.ofNat d))]) rfl) ?_
  refine oS (fun _=>XS.iload X0.here hx rfl (dE hby D59 20 rfl) rfl) ?_
  refine oS (fun _=>XS.bipush X0.here hx rfl (dE hby D59 21 rfl)) ?_
  refine oS (fun _=>XS.icmpYes X0.here hx rfl (pc0:=90) (pc':=143) rfl (dE hby D59 22 rfl) rfl (tlt (own_lq1 ⟨d,hd⟩)).2.2.1 (by decide) (by decide)) ?_
  refine oS (fun _=>XS.aloadN X0.here hx rfl (dE hby D59 23 rfl) rfl rfl) ?_
  refine oS (fun _=>XS.iinc X0.here hx rfl (dE hby D59 24 rfl) rfl (l':=#[.val (.long (-((Int32.ofNat d).toInt64))),.second,vi 1,vr bf,.unset,.unset,.unset,vi ((1:Int32)+(-1:Int32)),vi 0,.unset,vi (-(Int32.ofNat d))]) rfl) ?_
  refine oS (fun _=>XS.iload X0.here hx rfl (dE hby D59 25 rfl) rfl) ?_
  obtain ⟨T1,X1,e1,st1⟩:=getS2 X0 hx hZ hown (host:="") (Or.inl (oW hw 191 rfl)) Via.refl e0 (Sta.ext O0.2 SD) (g:=(mkF m 149 #[.val (.long (-((Int32.ofNat d).toInt64))),.second,vi 1,vr bf,.unset,.unset,.unset,vi ((1:Int32)+(-1:Int32)),vi 0,.unset,vi (-(Int32.ofNat d))] [(.int ((1:Int32)+(-1:Int32))),(.ref bf)])) rfl (dE hby D59 26 rfl)
  refine oS st1 ?_
  show gH (T1.setTop (mkF m 152 #[.val (.long (-((Int32.ofNat d).toInt64))),.second,vi 1,vr bf,.unset,.unset,.unset,vi ((1:Int32)+(-1:Int32)),vi 0,.unset,vi (-(Int32.ofNat d))] [(.ref dg),(.int ((1:Int32)+(-1:Int32))),(.ref bf)])) ..
  refine oS (fun _=>XS.iload X1.here hx rfl (dE hby D59 27 rfl) rfl) ?_
  refine oS (fun _=>XS.ineg X1.here hx rfl (dE hby D59 28 rfl) rfl) ?_
  show gH (T1.setTop (mkF m 155 #[.val (.long (-((Int32.ofNat d).toInt64))),.second,vi 1,vr bf,.unset,.unset,.unset,vi ((1:Int32)+(-1:Int32)),vi 0,.unset,vi (-(Int32.ofNat d))] [(.int (-(-(Int32.ofNat d)))),(.ref dg),(.int ((1:Int32)+(-1:Int32))),(.ref bf)])) ..
  rw [own_lq3 ⟨d,hd⟩]
  show gH (T1.setTop (mkF m 155 #[.val (.long (-((Int32.ofNat d).toInt64))),.second,vi 1,vr bf,.unset,.unset,.unset,vi ((1:Int32)+(-1:Int32)),vi 0,.unset,vi (-(Int32.ofNat d))] [(.int (.ofNat d)),(.ref dg),(.int ((1:Int32)+(-1:Int32))),(.ref bf)])) ..
  rw [(show ((1:Int32)+(-1:Int32)) = (0:Int32) from by decide)]
  show gH (T1.setTop (mkF m 155 #[.val (.long (-((Int32.ofNat d).toInt64))),.second,vi 1,vr bf,.unset,.unset,.unset,vi 0,vi 0,.unset,vi (-(Int32.ofNat d))] [(.int (.ofNat d)),(.ref dg),(.int 0),(.ref bf)])) ..
  have q2:=Dg.ext O0.2
  obtain ⟨cl3,Ar3,qk3,Sz3,Mz3,Hz3,Uz3⟩:=id q2
  refine oS (X1.baloadBytes hx (j:=(Int32.ofNat d)) (v:=(.int (own_dig d))) (by rw [e1]; exact Ar3.1) (State.isArrayOf_alike hZ.alike Ar3.2.1) Ar3.2.2 (oI (i:=d) (n:=100) Sz3 (by omega) (by decide)) (own_get (i:=d) (n:=100) (f:=own_dig) Sz3 Hz3 (by omega) (by decide)) (g:=(mkF m 155 #[.val (.long (-((Int32.ofNat d).toInt64))),.second,vi 1,vr bf,.unset,.unset,.unset,vi 0,vi 0,.unset,vi (-(Int32.ofNat d))] [(.int (.ofNat d)),(.ref dg),(.int 0),(.ref bf)])) rfl rfl (dE hby D59 29 rfl)) ?_
  obtain ⟨cl4,Ar4,qk4,Sz4,Mz4,Hz4,Uz4⟩:=id Vb
  obtain ⟨T5,h5,X5,e5,W5,st5⟩:=stB X1 hx hZ e1 Ar4 (j:=(0:Int32)) (inb_of Sz4 ⟨by decide,by decide⟩) (g:=(mkF m 156 #[.val (.long (-((Int32.ofNat d).toInt64))),.second,vi 1,vr bf,.unset,.unset,.unset,vi 0,vi 0,.unset,vi (-(Int32.ofNat d))] [(.int (own_dig d)),(.int 0),(.ref bf)])) rfl rfl (dE hby D59 30 rfl)
  refine oS st5 ?_
  have V5:=Arv.set Ar4 qk4 Sz4 Mz4 Hz4 Uz4 (fits_nar_byte _) W5 0 rfl (Nat.le_of_ble_eq_true rfl)
  have z6:=W5.size
  have O7:=Old.wr O0 W5 (by omega)
  have K8:=Kr.wr W5 (Or.inl (by simp))
  have N5:=Fr.snoc X5 N0 (by omega : Z.heap.size≤bf)
  have V5' : Arv Z h5 bf kb .byte (1:Int32) [(.int (nar .byte (own_dig d)))] (.int 0):=V5
  show gH (T5.setTop (mkF m 157 #[.val (.long (-((Int32.ofNat d).toInt64))),.second,vi 1,vr bf,.unset,.unset,.unset,vi 0,vi 0,.unset,vi (-(Int32.ofNat d))] [])) ..
  refine oS (fun _=>XS.iload X5.here hx rfl (dE hby D59 31 rfl) rfl) ?_
  refine oS (fun _=>XS.bipush X5.here hx rfl (dE hby D59 32 rfl)) ?_
  refine oS (fun _=>XS.icmpYes X5.here hx rfl (pc0:=161) (pc':=178) rfl (dE hby D59 33 rfl) rfl (flt (own_lq2 ⟨d,hd⟩)).2.1 (by decide) (by decide)) ?_
  refine oS (fun _=>XS.iload X5.here hx rfl (dE hby D59 34 rfl) rfl) ?_
  refine oS (fun _=>XS.ifYes X5.here hx rfl (pc0:=180) (pc':=192) rfl (dE hby D59 35 rfl) rfl ((if0 _ _).trans (teq rfl).1) (by decide) (by decide)) ?_
  refine oS (fun _=>XS.iload X5.here hx rfl (dE hby D59 36 rfl) rfl) ?_
  show gH (T5.setTop (mkF m 194 #[.val (.long (-((Int32.ofNat d).toInt64))),.second,vi 1,vr bf,.unset,.unset,.unset,vi 0,vi 0,.unset,vi (-(Int32.ofNat d))] [(.int 0)])) ..
  have Vr : Arv Z h5 bf kb .byte (1:Int32) (own_L1 [Int32.ofNat (48+d)]) (.int 0):=by have q:=V5'; rw [own_lq4 ⟨d,hd⟩] at q; exact q
  exact own_retI X5 hx hret hlk (dE hby D59 37 rfl) (by rw [e5]; exact ⟨_,rfl,N5,K8,Vr⟩) (by decide) (by decide)
theorem own_ssn (l:Launch) (Z:State) (a0:Array Value) (hw:∀ d∈tables_1,d.before a0 Z = true) (ws:List Jvm.Cond)  (d:Nat) (h0:Heap) (O0:Old Z Z.heap.size h0) (hd:d < 9) :
    own_Met l Z (⟨"java/lang/Long","stringSize","(J)I"⟩ : MethodName) jdk_35_method_15_code 6 (some .int) ws (⟨0,0,0,0⟩ : Room) #[(.long ((-(Int32.ofNat (d+1))).toInt64))] h0 (fun v h L=>v = some (.int 2)∧Fr Z.heap.size L∧h = h0) 0 0:=by
  refine own_bodyA (ef:=fun m=>mkF m 0 #[.val (.long ((-(Int32.ofNat (d+1))).toInt64)),.second,.unset,.unset,.unset,.unset] []) (plainFor_of_name own_pn52) ?_
  intro p e s m below meth c T0 hx hZ hby hml hown hnm hret hlk X0 e0
  have N0:=Fr.nil Z.heap.size
  show gH (T0.setTop (mkF m 0 #[.val (.long ((-(Int32.ofNat (d+1))).toInt64)),.second,.unset,.unset,.unset,.unset] [])) ..
  refine oS (fun _=>XS.iconst X0.here hx rfl (dE hby D58 0 rfl)) ?_
  refine oS (fun _=>XS.istoreN X0.here hx rfl (dE hby D58 1 rfl) rfl (l':=#[.val (.long ((-(Int32.ofNat (d+1))).toInt64)),.second,vi 1,.unset,.unset,.unset]) rfl) ?_
  refine oS (fun _=>XS.lloadN X0.here hx rfl (dE hby D58 2 rfl) rfl) ?_
  refine oS (fun _=>XS.lconst X0.here hx rfl (dE hby D58 3 rfl)) ?_
  refine oS (fun _=>XS.lcmp X0.here hx rfl (dE hby D58 4 rfl) rfl) ?_
  refine oS (fun _=>XS.ifYes X0.here hx rfl (pc0:=5) (pc':=13) rfl (dE hby D58 5 rfl) rfl ((if0 _ _).trans (tlt (own_ln0 ⟨d,hd⟩)).1) (by decide) (by decide)) ?_
  show gH (T0.setTop (mkF m 13 #[.val (.long ((-(Int32.ofNat (d+1))).toInt64)),.second,vi 1,.unset,.unset,.unset] [])) ..
  refine oS (X0.ldc2Long hx hown (mvT hZ (oW hw 185 rfl)) (g:=(mkF m 13 #[.val (.long ((-(Int32.ofNat (d+1))).toInt64)),.second,vi 1,.unset,.unset,.unset] [])) rfl (dE hby D58 11 rfl)) ?_
  show gH (T0.setTop (mkF m 16 #[.val (.long ((-(Int32.ofNat (d+1))).toInt64)),.second,vi 1,.unset,.unset,.unset] [(.long (-10 : Int64))])) ..
  refine oS (fun _=>XS.lstoreN X0.here hx rfl (dE hby D58 12 rfl) rfl (l':=#[.val (.long ((-(Int32.ofNat (d+1))).toInt64)),.second,vi 1,.val (.long (-10 : Int64)),.second,.unset]) rfl) ?_
  refine oS (fun _=>XS.iconst X0.here hx rfl (dE hby D58 13 rfl)) ?_
  refine oS (fun _=>XS.istore X0.here hx rfl (dE hby D58 14 rfl) rfl (l':=#[.val (.long ((-(Int32.ofNat (d+1))).toInt64)),.second,vi 1,.val (.long (-10 : Int64)),.second,vi 1]) rfl) ?_
  refine oS (fun _=>XS.iload X0.here hx rfl (dE hby D58 15 rfl) rfl) ?_
  refine oS (fun _=>XS.bipush X0.here hx rfl (dE hby D58 16 rfl)) ?_
  refine oS (fun _=>XS.icmpNo X0.here hx rfl (dE hby D58 17 rfl) rfl (tlt (by decide)).2.1) ?_
  refine oS (fun _=>XS.lloadN X0.here hx rfl (dE hby D58 18 rfl) rfl) ?_
  refine oS (fun _=>XS.lloadN X0.here hx rfl (dE hby D58 19 rfl) rfl) ?_
  refine oS (fun _=>XS.lcmp X0.here hx rfl (dE hby D58 20 rfl) rfl) ?_
  refine oS (fun _=>XS.ifNo X0.here hx rfl (dE hby D58 21 rfl) rfl ((if0 _ _).trans (tlt (own_ln1 ⟨d,hd⟩)).2.2.2)) ?_
  refine oS (fun _=>XS.iload X0.here hx rfl (dE hby D58 22 rfl) rfl) ?_
  refine oS (fun _=>XS.iloadN X0.here hx rfl (dE hby D58 23 rfl) rfl) ?_
  refine oS (fun _=>XS.iadd X0.here hx rfl (dE hby D58 24 rfl) rfl) ?_
  show gH (T0.setTop (mkF m 37 #[.val (.long ((-(Int32.ofNat (d+1))).toInt64)),.second,vi 1,.val (.long (-10 : Int64)),.second,vi 1] [(.int ((1:Int32)+(1:Int32)))])) ..
  exact own_retI X0 hx hret hlk (dE hby D58 25 rfl) (by rw [e0]; exact ⟨rfl,N0,rfl⟩) (by decide) (by decide)
theorem own_gcn (l:Launch) (Z:State) (a0:Array Value) (hw:∀ d∈tables_1,d.before a0 Z = true) (ws:List Jvm.Cond) (bf:Addr) (d:Nat) (dg:Addr) (kdg kb : ClassId) (h0:Heap) (O0:Old Z Z.heap.size h0) (hd:d < 9) (SD:Sta Z Z.heap "java/lang/Integer" "DigitOnes" "[B" (.ref dg)) (Dg:Arv Z Z.heap dg kdg .byte (Int32.ofNat 100) (oV own_dig 100) (.int 0)) (gb:Z.heap.size≤bf) (Vb:Arv Z h0 bf kb .byte (2:Int32) [(.int 0),(.int 0)] (.int 0)) :
    own_Met l Z (⟨"java/lang/Long","getChars","(JI[B)I"⟩ : MethodName) jdk_35_method_14_code 11 (some .int) ws (⟨0,0,0,0⟩ : Room) #[(.long ((-(Int32.ofNat (d+1))).toInt64)),(.int 2),(.ref bf)] h0 (fun v h L=>∃ r : Int32,v = some (.int r)∧Fr Z.heap.size L∧Keep h0 h [bf]∧Arv Z h bf kb .byte (2:Int32) (own_L1 [(45:Int32),Int32.ofNat (48+(d+1))]) (.int 0)) 0 0:=by
  refine own_bodyA (ef:=fun m=>mkF m 0 #[.val (.long ((-(Int32.ofNat (d+1))).toInt64)),.second,.val (.int (2:Int32)),.val (.ref bf),.unset,.unset,.unset,.unset,.unset,.unset,.unset] []) (plainFor_of_name own_pn52) ?_
  intro p e s m below meth c T0 hx hZ hby hml hown hnm hret hlk X0 e0
  have N0:=Fr.nil Z.heap.size
  have z0 : Z.heap.size≤h0.size:=O0.2.1
  have Kr:=Keep.refl h0 [bf]
  show gH (T0.setTop (mkF m 0 #[.val (.long ((-(Int32.ofNat (d+1))).toInt64)),.second,vi 2,vr bf,.unset,.unset,.unset,.unset,.unset,.unset,.unset] [])) ..
  have ltb:=oL Vb.lt
  refine oS (fun _=>XS.iloadN X0.here hx rfl (dE hby D59 0 rfl) rfl) ?_
  refine oS (fun _=>XS.istore X0.here hx rfl (dE hby D59 1 rfl) rfl (l':=#[.val (.long ((-(Int32.ofNat (d+1))).toInt64)),.second,vi 2,vr bf,.unset,.unset,.unset,vi 2,.unset,.unset,.unset]) rfl) ?_
  refine oS (fun _=>XS.lloadN X0.here hx rfl (dE hby D59 2 rfl) rfl) ?_
  refine oS (fun _=>XS.lconst X0.here hx rfl (dE hby D59 3 rfl)) ?_
  refine oS (fun _=>XS.lcmp X0.here hx rfl (dE hby D59 4 rfl) rfl) ?_
  refine oS (fun _=>XS.ifNo X0.here hx rfl (dE hby D59 5 rfl) rfl ((if0 _ _).trans (tlt (own_ln0 ⟨d,hd⟩)).2.1)) ?_
  refine oS (fun _=>XS.iconst X0.here hx rfl (dE hby D59 38 rfl)) ?_
  refine oS (fun _=>XS.goto X0.here hx rfl (pc0:=10) (pc':=14) rfl (dE hby D59 39 rfl) (by decide) (by decide)) ?_
  refine oS (fun _=>XS.istore X0.here hx rfl (dE hby D59 7 rfl) rfl (l':=#[.val (.long ((-(Int32.ofNat (d+1))).toInt64)),.second,vi 2,vr bf,.unset,.unset,.unset,vi 2,vi 1,.unset,.unset]) rfl) ?_
  refine oS (fun _=>XS.iload X0.here hx rfl (dE hby D59 8 rfl) rfl) ?_
  refine oS (fun _=>XS.ifYes X0.here hx rfl (pc0:=18) (pc':=24) rfl (dE hby D59 9 rfl) rfl ((if0 _ _).trans (feq (by decide)).2) (by decide) (by decide)) ?_
  refine oS (fun _=>XS.lloadN X0.here hx rfl (dE hby D59 13 rfl) rfl) ?_
  show gH (T0.setTop (mkF m 25 #[.val (.long ((-(Int32.ofNat (d+1))).toInt64)),.second,vi 2,vr bf,.unset,.unset,.unset,vi 2,vi 1,.unset,.unset] [(.long ((-(Int32.ofNat (d+1))).toInt64))])) ..
  refine oS (X0.ldc2Long hx hown (mvT hZ (oW hw 190 rfl)) (g:=(mkF m 25 #[.val (.long ((-(Int32.ofNat (d+1))).toInt64)),.second,vi 2,vr bf,.unset,.unset,.unset,vi 2,vi 1,.unset,.unset] [(.long ((-(Int32.ofNat (d+1))).toInt64))])) rfl (dE hby D59 14 rfl)) ?_
  show gH (T0.setTop (mkF m 28 #[.val (.long ((-(Int32.ofNat (d+1))).toInt64)),.second,vi 2,vr bf,.unset,.unset,.unset,vi 2,vi 1,.unset,.unset] [(.long (-2147483648 : Int64)),(.long ((-(Int32.ofNat (d+1))).toInt64))])) ..
  refine oS (fun _=>XS.lcmp X0.here hx rfl (dE hby D59 15 rfl) rfl) ?_
  refine oS (fun _=>XS.ifYes X0.here hx rfl (pc0:=29) (pc':=82) rfl (dE hby D59 16 rfl) rfl ((if0 _ _).trans (tlt (own_ln2 ⟨d,hd⟩)).2.2.1) (by decide) (by decide)) ?_
  refine oS (fun _=>XS.lloadN X0.here hx rfl (dE hby D59 17 rfl) rfl) ?_
  refine oS (fun _=>XS.l2i X0.here hx rfl (dE hby D59 18 rfl) rfl) ?_
  show gH (T0.setTop (mkF m 84 #[.val (.long ((-(Int32.ofNat (d+1))).toInt64)),.second,vi 2,vr bf,.unset,.unset,.unset,vi 2,vi 1,.unset,.unset] [(.int (((-(Int32.ofNat (d+1))).toInt64).toInt32))])) ..
  rw [own_ln3 ⟨d,hd⟩]
  show gH (T0.setTop (mkF m 84 #[.val (.long ((-(Int32.ofNat (d+1))).toInt64)),.second,vi 2,vr bf,.unset,.unset,.unset,vi 2,vi 1,.unset,.unset] [(.int (-(Int32.ofNat (d+1))))])) ..
  refine oS (fun _=>XS.istore X0.here hx rfl (dE hby D59 19 rfl) rfl (l':=#[.val (.long ((-(Int32.ofNat (d+1))).toInt64)),.second,vi 2,vr bf,.unset,.unset,.unset,vi 2,vi 1,.unset,vi (-(Int32.ofNat (d+1)))]) rfl) ?_
  refine oS (fun _=>XS.iload X0.here hx rfl (dE hby D59 20 rfl) rfl) ?_
  refine oS (fun _=>XS.bipush X0.here hx rfl (dE hby D59 21 rfl)) ?_
  refine oS (fun _=>XS.icmpYes X0.here hx rfl (pc0:=90) (pc':=143) rfl (dE hby D59 22 rfl) rfl (tlt (own_lq1 ⟨d+1,by omega⟩)).2.2.1 (by decide) (by decide)) ?_
  refine oS (fun _=>XS.aloadN X0.here hx rfl (dE hby D59 23 rfl) rfl rfl) ?_
  refine oS (fun _=>XS.iinc X0.here hx rfl (dE hby D59 24 rfl) rfl (l':=#[.val (.long ((-(Int32.ofNat (d+1))).toInt64)),.second,vi 2,vr bf,.unset,.unset,.unset,vi ((2:Int32)+(-1:Int32)),vi 1,.unset,vi (-(Int32.ofNat (d+1)))]) rfl) ?_
  refine oS (fun _=>XS.iload X0.here hx rfl (dE hby D59 25 rfl) rfl) ?_
  obtain ⟨T1,X1,e1,st1⟩:=getS2 X0 hx hZ hown (host:="") (Or.inl (oW hw 191 rfl)) Via.refl e0 (Sta.ext O0.2 SD) (g:=(mkF m 149 #[.val (.long ((-(Int32.ofNat (d+1))).toInt64)),.second,vi 2,vr bf,.unset,.unset,.unset,vi ((2:Int32)+(-1:Int32)),vi 1,.unset,vi (-(Int32.ofNat (d+1)))] [(.int ((2:Int32)+(-1:Int32))),(.ref bf)])) rfl (dE hby D59 26 rfl)
  refine oS st1 ?_
  show gH (T1.setTop (mkF m 152 #[.val (.long ((-(Int32.ofNat (d+1))).toInt64)),.second,vi 2,vr bf,.unset,.unset,.unset,vi ((2:Int32)+(-1:Int32)),vi 1,.unset,vi (-(Int32.ofNat (d+1)))] [(.ref dg),(.int ((2:Int32)+(-1:Int32))),(.ref bf)])) ..
  refine oS (fun _=>XS.iload X1.here hx rfl (dE hby D59 27 rfl) rfl) ?_
  refine oS (fun _=>XS.ineg X1.here hx rfl (dE hby D59 28 rfl) rfl) ?_
  show gH (T1.setTop (mkF m 155 #[.val (.long ((-(Int32.ofNat (d+1))).toInt64)),.second,vi 2,vr bf,.unset,.unset,.unset,vi ((2:Int32)+(-1:Int32)),vi 1,.unset,vi (-(Int32.ofNat (d+1)))] [(.int (-(-(Int32.ofNat (d+1))))),(.ref dg),(.int ((2:Int32)+(-1:Int32))),(.ref bf)])) ..
  rw [own_lq3 ⟨d+1,by omega⟩]
  show gH (T1.setTop (mkF m 155 #[.val (.long ((-(Int32.ofNat (d+1))).toInt64)),.second,vi 2,vr bf,.unset,.unset,.unset,vi ((2:Int32)+(-1:Int32)),vi 1,.unset,vi (-(Int32.ofNat (d+1)))] [(.int (.ofNat (d+1))),(.ref dg),(.int ((2:Int32)+(-1:Int32))),(.ref bf)])) ..
  rw [(show ((2:Int32)+(-1:Int32)) = (1:Int32) from by decide)]
  show gH (T1.setTop (mkF m 155 #[.val (.long ((-(Int32.ofNat (d+1))).toInt64)),.second,vi 2,vr bf,.unset,.unset,.unset,vi 1,vi 1,.unset,vi (-(Int32.ofNat (d+1)))] [(.int (.ofNat (d+1))),(.ref dg),(.int 1),(.ref bf)])) ..
  have q2:=Dg.ext O0.2
  obtain ⟨cl3,Ar3,qk3,Sz3,Mz3,Hz3,Uz3⟩:=id q2
  refine oS (X1.baloadBytes hx (j:=(Int32.ofNat (d+1))) (v:=(.int (own_dig (d+1)))) (by rw [e1]; exact Ar3.1) (State.isArrayOf_alike hZ.alike Ar3.2.1) Ar3.2.2 (oI (i:=(d+1)) (n:=100) Sz3 (by omega) (by decide)) (own_get (i:=(d+1)) (n:=100) (f:=own_dig) Sz3 Hz3 (by omega) (by decide)) (g:=(mkF m 155 #[.val (.long ((-(Int32.ofNat (d+1))).toInt64)),.second,vi 2,vr bf,.unset,.unset,.unset,vi 1,vi 1,.unset,vi (-(Int32.ofNat (d+1)))] [(.int (.ofNat (d+1))),(.ref dg),(.int 1),(.ref bf)])) rfl rfl (dE hby D59 29 rfl)) ?_
  obtain ⟨cl4,Ar4,qk4,Sz4,Mz4,Hz4,Uz4⟩:=id Vb
  obtain ⟨T5,h5,X5,e5,W5,st5⟩:=stB X1 hx hZ e1 Ar4 (j:=(1:Int32)) (inb_of Sz4 ⟨by decide,by decide⟩) (g:=(mkF m 156 #[.val (.long ((-(Int32.ofNat (d+1))).toInt64)),.second,vi 2,vr bf,.unset,.unset,.unset,vi 1,vi 1,.unset,vi (-(Int32.ofNat (d+1)))] [(.int (own_dig (d+1))),(.int 1),(.ref bf)])) rfl rfl (dE hby D59 30 rfl)
  refine oS st5 ?_
  have V5:=Arv.set Ar4 qk4 Sz4 Mz4 Hz4 Uz4 (fits_nar_byte _) W5 1 rfl (Nat.le_of_ble_eq_true rfl)
  have z6:=W5.size
  have O7:=Old.wr O0 W5 (by omega)
  have K8:=Kr.wr W5 (Or.inl (by simp))
  have N5:=Fr.snoc X5 N0 (by omega : Z.heap.size≤bf)
  have V5' : Arv Z h5 bf kb .byte (2:Int32) [(.int 0),(.int (nar .byte (own_dig (d+1))))] (.int 0):=V5
  show gH (T5.setTop (mkF m 157 #[.val (.long ((-(Int32.ofNat (d+1))).toInt64)),.second,vi 2,vr bf,.unset,.unset,.unset,vi 1,vi 1,.unset,vi (-(Int32.ofNat (d+1)))] [])) ..
  refine oS (fun _=>XS.iload X5.here hx rfl (dE hby D59 31 rfl) rfl) ?_
  refine oS (fun _=>XS.bipush X5.here hx rfl (dE hby D59 32 rfl)) ?_
  refine oS (fun _=>XS.icmpYes X5.here hx rfl (pc0:=161) (pc':=178) rfl (dE hby D59 33 rfl) rfl (flt (own_lq2 ⟨d+1,by omega⟩)).2.1 (by decide) (by decide)) ?_
  refine oS (fun _=>XS.iload X5.here hx rfl (dE hby D59 34 rfl) rfl) ?_
  refine oS (fun _=>XS.ifNo X5.here hx rfl (dE hby D59 35 rfl) rfl ((if0 _ _).trans (feq (by decide)).1)) ?_
  refine oS (fun _=>XS.aloadN X5.here hx rfl (dE hby D59 40 rfl) rfl rfl) ?_
  refine oS (fun _=>XS.iinc X5.here hx rfl (dE hby D59 41 rfl) rfl (l':=#[.val (.long ((-(Int32.ofNat (d+1))).toInt64)),.second,vi 2,vr bf,.unset,.unset,.unset,vi ((1:Int32)+(-1:Int32)),vi 1,.unset,vi (-(Int32.ofNat (d+1)))]) rfl) ?_
  refine oS (fun _=>XS.iload X5.here hx rfl (dE hby D59 42 rfl) rfl) ?_
  refine oS (fun _=>XS.bipush X5.here hx rfl (dE hby D59 43 rfl)) ?_
  show gH (T5.setTop (mkF m 191 #[.val (.long ((-(Int32.ofNat (d+1))).toInt64)),.second,vi 2,vr bf,.unset,.unset,.unset,vi ((1:Int32)+(-1:Int32)),vi 1,.unset,vi (-(Int32.ofNat (d+1)))] [(.int 45),(.int ((1:Int32)+(-1:Int32))),(.ref bf)])) ..
  rw [(show ((1:Int32)+(-1:Int32)) = (0:Int32) from by decide)]
  obtain ⟨cl9,Ar9,qk9,Sz9,Mz9,Hz9,Uz9⟩:=id V5'
  obtain ⟨T10,h10,X10,e10,W10,st10⟩:=stB X5 hx hZ e5 Ar9 (j:=(0:Int32)) (inb_of Sz9 ⟨by decide,by decide⟩) (g:=(mkF m 191 #[.val (.long ((-(Int32.ofNat (d+1))).toInt64)),.second,vi 2,vr bf,.unset,.unset,.unset,vi 0,vi 1,.unset,vi (-(Int32.ofNat (d+1)))] [(.int 45),(.int 0),(.ref bf)])) rfl rfl (dE hby D59 44 rfl)
  refine oS st10 ?_
  have V10:=Arv.set Ar9 qk9 Sz9 Mz9 Hz9 Uz9 (fits_nar_byte _) W10 0 rfl (Nat.le_of_ble_eq_true rfl)
  have z11:=W10.size
  have O12:=Old.wr O7 W10 (by omega)
  have K13:=K8.wr W10 (Or.inl (by simp))
  have N10:=Fr.snoc X10 N5 (by omega : Z.heap.size≤bf)
  have V10' : Arv Z h10 bf kb .byte (2:Int32) [(.int (nar .byte (45:Int32))),(.int (nar .byte (own_dig (d+1))))] (.int 0):=V10
  show gH (T10.setTop (mkF m 192 #[.val (.long ((-(Int32.ofNat (d+1))).toInt64)),.second,vi 2,vr bf,.unset,.unset,.unset,vi 0,vi 1,.unset,vi (-(Int32.ofNat (d+1)))] [])) ..
  refine oS (fun _=>XS.iload X10.here hx rfl (dE hby D59 36 rfl) rfl) ?_
  show gH (T10.setTop (mkF m 194 #[.val (.long ((-(Int32.ofNat (d+1))).toInt64)),.second,vi 2,vr bf,.unset,.unset,.unset,vi 0,vi 1,.unset,vi (-(Int32.ofNat (d+1)))] [(.int 0)])) ..
  have Vr : Arv Z h10 bf kb .byte (2:Int32) (own_L1 [(45:Int32),Int32.ofNat (48+(d+1))]) (.int 0):=by have q:=V10'; rw [own_lq5,own_lq4 ⟨d+1,by omega⟩] at q; exact q
  exact own_retI X10 hx hret hlk (dE hby D59 37 rfl) (by rw [e10]; exact ⟨_,rfl,N10,K13,Vr⟩) (by decide) (by decide)
def L60 : List (Nat × Instr × Nat):=[(0,.aload_n 0,1),(1,.invokespecial 1,3),(4,.aload_n 0,1),(5,.aload_n 1,1),(6,.putfield 9,3),(9,.aload_n 0,1),(10,.iload_n 2,1),(11,.putfield 15,3),(14,.return_,1)]
theorem D60 : ∀ q∈L60,decode jdk_42_method_151_code q.1 = .ok q.2:=by decide +kernel
theorem own_ibb (l:Launch) (Z:State) (a0:Array Value) (hw:∀ d∈tables_1,d.before a0 Z = true) (ws:List Jvm.Cond) (a1:Addr) (a2:Addr)  (h0:Heap) (O0:Old Z Z.heap.size h0) (ga:Z.heap.size≤a1) (Ea:Exa Z h0 a1 "java/lang/String") (Fv:Fld Z h0 a1 "java/lang/String" "value" "[B" .null) (Fc:Fld Z h0 a1 "java/lang/String" "coder" "B" (.int 0)) :
    own_Met l Z (⟨"java/lang/String","<init>","([BB)V"⟩ : MethodName) jdk_42_method_151_code 3 none ws (⟨1,0,0,20⟩ : Room) #[(.ref a1),(.ref a2),(.int 0)] h0 (fun v h L=>v = none∧Fr Z.heap.size L∧Keep h0 h [a1]∧Fld Z h a1 "java/lang/String" "coder" "B" (.int 0)∧Fld Z h a1 "java/lang/String" "value" "[B" (.ref a2)) 0 0:=by
  refine own_bodyA (ef:=fun m=>mkF m 0 #[.val (.ref a1),.val (.ref a2),.val (.int (0:Int32))] []) (plainFor_of_name own_pn7) ?_
  intro p e s m below meth c T0 hx hZ hby hml hown hnm hret hlk X0 e0
  have N0:=Fr.nil Z.heap.size
  have z0 : Z.heap.size≤h0.size:=O0.2.1
  have Kr:=Keep.refl h0 [a1]
  show gH (T0.setTop (mkF m 0 #[vr a1,vr a2,vi 0] [])) ..
  have lta:=oL Ea.lt
  refine oS (fun _=>XS.aloadN X0.here hx rfl (dE hby D60 0 rfl) rfl rfl) ?_
  obtain ⟨T1,X1,e1,st1⟩:=initO X0 hx hZ hown (oW hw 54 rfl) (oW hw 12 rfl) (oW hw 13 rfl) e0 (g:=(mkF m 1 #[vr a1,vr a2,vi 0] [(.ref a1)])) rfl (by rw [hml]; rfl) rfl (dE hby D60 1 rfl) (by decide) (W:=0) (by show 2 * 0+_≤_; exact Nat.le_of_eq rfl) (by decide)
  refine oS st1 ?_
  show gH (T1.setTop (mkF m 4 #[vr a1,vr a2,vi 0] [])) ..
  refine oS (fun _=>XS.aloadN X1.here hx rfl (dE hby D60 2 rfl) rfl rfl) ?_
  refine oS (fun _=>XS.aloadN X1.here hx rfl (dE hby D60 3 rfl) rfl rfl) ?_
  obtain ⟨T2,h2,X2,e2,W2,st2⟩:=putF X1 hx hZ hown (host:="") (Or.inl (oW hw 96 rfl)) Via.refl e1 Fv Ea (Or.inr ⟨(oW hw 97 rfl),rfl,hnm⟩) (oW hw 46 rfl) (ty:=(.array .byte)) (by decide) rfl rfl (g:=(mkF m 6 #[vr a1,vr a2,vi 0] [(.ref a2),(.ref a1)])) rfl rfl (dE hby D60 4 rfl)
  refine oS st2 ?_
  have z3:=W2.size
  have O4:=Old.wr O0 W2 (by omega)
  have K5:=Kr.wr W2 (Or.inl (by simp))
  have N2:=Fr.snoc X2 N0 (by omega : Z.heap.size≤a1)
  have Fw2:=Fv.same W2
  show gH (T2.setTop (mkF m 9 #[vr a1,vr a2,vi 0] [])) ..
  refine oS (fun _=>XS.aloadN X2.here hx rfl (dE hby D60 5 rfl) rfl rfl) ?_
  refine oS (fun _=>XS.iloadN X2.here hx rfl (dE hby D60 6 rfl) rfl) ?_
  have q6:=(Ea.wr W2)
  have q7:=(Fc.other W2 (Or.inr (slot_ne (Or.inr (oW hw 77 rfl)) (Or.inr (oW hw 97 rfl)) (by decide) (t:=.byte) (t':=(.array .byte)) (by decide) (by decide))))
  obtain ⟨T8,h8,X8,e8,W8,st8⟩:=putFN X2 hx hZ hown (oW hw 76 rfl) Via.refl e2 q7 q6 (Or.inr ⟨(oW hw 77 rfl),rfl,hnm⟩) (oW hw 46 rfl) (ty:=.byte) (v':=(.int (nar .byte (0:Int32)))) (by decide) rfl (fits_nar_byte _) (g:=(mkF m 11 #[vr a1,vr a2,vi 0] [(.int 0),(.ref a1)])) rfl rfl (dE hby D60 7 rfl)
  refine oS st8 ?_
  have z9:=W8.size
  have O10:=Old.wr O4 W8 (by omega)
  have K11:=K5.wr W8 (Or.inl (by simp))
  have N8:=Fr.snoc X8 N2 (by omega : Z.heap.size≤a1)
  have Fw8:=q7.same W8
  show gH (T8.setTop (mkF m 14 #[vr a1,vr a2,vi 0] [])) ..
  have q12:=(Fw2.other W8 (Or.inr (slot_ne (Or.inr (oW hw 97 rfl)) (Or.inr (oW hw 77 rfl)) (by decide) (t:=(.array .byte)) (t':=.byte) (by decide) (by decide))))
  exact own_ret0 X8 hx hret hlk (dE hby D60 8 rfl) (by rw [e8]; exact ⟨rfl,N8,K11,Fw8,q12⟩) (by decide) (by decide)
def L61 : List (Nat × Instr × Nat):=[(0,.lload_n 0,1),(1,.invokestatic 118,3),(4,.istore_n 2,1),(5,.getstatic 13,3),(8,.ifCond .eq 24,3),(11,.iload_n 2,1),(12,.newarray .byte,2),(14,.astore_n 3,1),(15,.lload_n 0,1),(16,.iload_n 2,1),(17,.aload_n 3,1),(18,.invokestatic 121,3),(21,.pop,1),(22,.new 5,3),(25,.dup,1),(26,.aload_n 3,1),(27,.iconst 0,1),(28,.invokespecial 112,3),(31,.areturn,1)]
theorem D61 : ∀ q∈L61,decode jdk_35_method_12_code q.1 = .ok q.2:=by decide +kernel
theorem own_pd53 : parseMethodDescriptor "(J)I" = some ⟨[.long],some .int⟩:=by decide +kernel
theorem own_pd54 : parseMethodDescriptor "(JI[B)I" = some ⟨[.long,.int,(.array .byte)],some .int⟩:=by decide +kernel
theorem own_pd55 : parseMethodDescriptor "([BB)V" = some ⟨[(.array .byte),.byte],none⟩:=by decide +kernel
theorem own_ltsp (l:Launch) (Z:State) (a0:Array Value) (hw:∀ d∈tables_1,d.before a0 Z = true) (ws:List Jvm.Cond)  (d:Nat) (dg:Addr) (kdg:ClassId) (w1:Int32) (h0:Heap) (O0:Old Z Z.heap.size h0) (S1:Sta Z Z.heap "java/lang/String" "COMPACT_STRINGS" "Z" (.int w1)) (hw1:¬ (w1 = (0:Int32))) (hd:d < 10) (SD:Sta Z Z.heap "java/lang/Integer" "DigitOnes" "[B" (.ref dg)) (Dg:Arv Z Z.heap dg kdg .byte (Int32.ofNat 100) (oV own_dig 100) (.int 0)) :
    own_Met l Z (⟨"java/lang/Long","toString","(J)Ljava/lang/String;"⟩ : MethodName) jdk_35_method_12_code 4 (some (.object "java/lang/String")) ws (⟨2,2,6,60⟩ : Room) #[(.long ((Int32.ofNat d).toInt64))] h0 (fun v h L=>∃ a t kt,v = some (.ref a)∧Fr Z.heap.size L∧Keep h0 h []∧h0.size≤a∧h0.size≤t∧own_StL Z h a t kt [Int32.ofNat (48+d)]) 2 6:=by
  refine own_bodyA (ef:=fun m=>mkF m 0 #[.val (.long ((Int32.ofNat d).toInt64)),.second,.unset,.unset] []) (plainFor_of_name own_pn52) ?_
  intro p e s m below meth c T0 hx hZ hby hml hown hnm hret hlk X0 e0
  have N0:=Fr.nil Z.heap.size
  have z0 : Z.heap.size≤h0.size:=O0.2.1
  have Kr:=Keep.refl h0 []
  show gH (T0.setTop (mkF m 0 #[.val (.long ((Int32.ofNat d).toInt64)),.second,.unset,.unset] [])) ..
  refine oS (fun _=>XS.lloadN X0.here hx rfl (dE hby D61 0 rfl) rfl) ?_
  obtain ⟨_,T1,L1,X1,⟨rfl,N1q,eh1⟩,st1⟩:=own_cS X0 hx hZ hown (own_ssp l Z a0 hw [] d h0 O0 hd) (oW hw 182 rfl) (oW hw 183 rfl) (oW hw 180 rfl) (oW hw 184 rfl) (W:=0) (g:=(mkF m 1 #[.val (.long ((Int32.ofNat d).toInt64)),.second,.unset,.unset] [(.long ((Int32.ofNat d).toInt64))])) rfl (by rw [hml]; rfl) (argsL:=[(.long ((Int32.ofNat d).toInt64))]) (rest:=[]) (lenOf own_pd53 rfl) rfl (dE hby D61 1 rfl) rfl e0 (by decide) (by decide)
  have N1:=Fr.app N0 N1q
  refine oS st1 ?_
  show gH (T1.setTop (mkF m 4 #[.val (.long ((Int32.ofNat d).toInt64)),.second,.unset,.unset] [(.int 1)])) ..
  refine oS (fun _=>XS.istoreN X1.here hx rfl (dE hby D61 2 rfl) rfl (l':=#[.val (.long ((Int32.ofNat d).toInt64)),.second,vi 1,.unset]) rfl) ?_
  obtain ⟨T2,X2,e2,st2⟩:=getS2 X1 hx hZ hown (host:="") (Or.inl (oW hw 186 rfl)) Via.refl eh1 (Sta.ext O0.2 S1) (g:=(mkF m 5 #[.val (.long ((Int32.ofNat d).toInt64)),.second,vi 1,.unset] [])) rfl (dE hby D61 3 rfl)
  refine oS st2 ?_
  show gH (T2.setTop (mkF m 8 #[.val (.long ((Int32.ofNat d).toInt64)),.second,vi 1,.unset] [(.int w1)])) ..
  refine oS (fun _=>XS.ifNo X2.here hx rfl (dE hby D61 4 rfl) rfl ((if0 _ _).trans (feq hw1).1)) ?_
  refine oS (fun _=>XS.iloadN X2.here hx rfl (dE hby D61 5 rfl) rfl) ?_
  obtain ⟨T3,h3,k3,X3,e3,E3,A3,st3⟩:=newP X2 hx hZ (oW hw 3 rfl) e2 (g:=(mkF m 12 #[.val (.long ((Int32.ofNat d).toInt64)),.second,vi 1,.unset] [(.int 1)])) rfl (dE hby D61 6 rfl) rfl (by decide) (cap:=1) (by decide) (by decide) (by decide) (by decide)
  obtain ⟨b3,g3⟩ : ∃ z,z = h0.size:=⟨_,rfl⟩
  rw [← g3] at A3 st3
  refine oS st3 ?_
  have z4:=E3.1
  have O5:=Old.ext O0 E3
  have K6:=Kr.ext E3
  have V3 : Arv Z h3 b3 k3 .byte (1:Int32) [(.int 0)] (.int 0):=(Arv.new A3 (by decide)).pad (pad_rep [] (.int 0) 1)
  have lt3:=oL A3.lt
  show gH (T3.setTop (mkF m 14 #[.val (.long ((Int32.ofNat d).toInt64)),.second,vi 1,.unset] [(.ref b3)])) ..
  refine oS (fun _=>XS.astoreN X3.here hx rfl (dE hby D61 7 rfl) rfl rfl (l':=#[.val (.long ((Int32.ofNat d).toInt64)),.second,vi 1,vr b3]) rfl) ?_
  refine oS (fun _=>XS.lloadN X3.here hx rfl (dE hby D61 8 rfl) rfl) ?_
  refine oS (fun _=>XS.iloadN X3.here hx rfl (dE hby D61 9 rfl) rfl) ?_
  refine oS (fun _=>XS.aloadN X3.here hx rfl (dE hby D61 10 rfl) rfl rfl) ?_
  obtain ⟨_,T7,L7,X7,⟨r1,rfl,N7q,K7_,Vn⟩,st7⟩:=own_cS X3 hx hZ hown (own_gcp l Z a0 hw [] b3 d dg kdg k3 h3 O5 hd SD Dg (by omega) V3) (oW hw 187 rfl) (oW hw 188 rfl) (oW hw 180 rfl) (oW hw 189 rfl) (W:=0) (g:=(mkF m 18 #[.val (.long ((Int32.ofNat d).toInt64)),.second,vi 1,vr b3] [(.ref b3),(.int 1),(.long ((Int32.ofNat d).toInt64))])) rfl (by rw [hml]; rfl) (argsL:=[(.long ((Int32.ofNat d).toInt64)),(.int 1),(.ref b3)]) (rest:=[]) (lenOf own_pd54 rfl) rfl (dE hby D61 11 rfl) rfl e3 (by decide) (by decide)
  have N7:=Fr.app N1 N7q
  refine oS st7 ?_
  have z8:=K7_.1
  have O9:=Old.keep O5 K7_ (allS (by omega) all0)
  have K10:=K6.trans K7_ (allS (Or.inr (by omega)) all0)
  show gH (T7.setTop (mkF m 21 #[.val (.long ((Int32.ofNat d).toInt64)),.second,vi 1,vr b3] [(.int r1)])) ..
  refine oS (fun _=>XS.pop X7.here hx rfl (dE hby D61 12 rfl) rfl rfl) ?_
  obtain ⟨T11,h11,X11,e11,E11,A11,D11,-,st11⟩:=newO X7 hx hZ hown (oW hw 193 rfl) (oW hw 46 rfl) (oW hw 28 rfl) rfl (g:=(mkF m 22 #[.val (.long ((Int32.ofNat d).toInt64)),.second,vi 1,vr b3] [])) rfl (dE hby D61 13 rfl) (by decide) (by decide)
  obtain ⟨b11,g11⟩ : ∃ z,z = T7.heap.size:=⟨_,rfl⟩
  rw [← g11] at A11 D11 st11
  refine oS st11 ?_
  have z12:=E11.1
  have O13:=Old.ext O9 E11
  have K14:=K10.ext E11
  have F11_coder : Fld Z h11 b11 "java/lang/String" "coder" "B" (.int 0):=D11 (Or.inr (oW hw 77 rfl)) (ty:=.byte) (by decide)
  have F11_value : Fld Z h11 b11 "java/lang/String" "value" "[B" .null:=D11 (Or.inr (oW hw 97 rfl)) (ty:=(.array .byte)) (by decide)
  have lt11:=oL A11.lt
  show gH (T11.setTop (mkF m 25 #[.val (.long ((Int32.ofNat d).toInt64)),.second,vi 1,vr b3] [(.ref b11)])) ..
  refine oS (fun _=>XS.dup X11.here hx rfl (dE hby D61 14 rfl) rfl rfl) ?_
  refine oS (fun _=>XS.aloadN X11.here hx rfl (dE hby D61 15 rfl) rfl rfl) ?_
  refine oS (fun _=>XS.iconst X11.here hx rfl (dE hby D61 16 rfl)) ?_
  obtain ⟨_,T15,L15,X15,⟨rfl,N15q,K15_,Gc,Gv⟩,st15⟩:=own_cI X11 hx hZ hown (own_ibb l Z a0 hw [] b11 b3 h11 O13 (by omega) A11 F11_value F11_coder) (oW hw 194 rfl) (oW hw 195 rfl) (a:=b11) rfl rfl (oW hw 28 rfl) (oW hw 196 rfl) (W:=1) (g:=(mkF m 28 #[.val (.long ((Int32.ofNat d).toInt64)),.second,vi 1,vr b3] [(.int 0),(.ref b3),(.ref b11),(.ref b11)])) rfl (by rw [hml]; rfl) (argsL:=[(.ref b3),(.int 0)]) (rest:=[(.ref b11)]) (lenOf own_pd55 rfl) rfl (dE hby D61 17 rfl) rfl e11 (by decide) (by decide)
  have N15:=Fr.app N7 N15q
  refine oS st15 ?_
  have z16:=K15_.1
  have O17:=Old.keep O13 K15_ (allS (by omega) all0)
  have K18:=K14.trans K15_ (allS (Or.inr (by omega)) all0)
  show gH (T15.setTop (mkF m 31 #[.val (.long ((Int32.ofNat d).toInt64)),.second,vi 1,vr b3] [(.ref b11)])) ..
  have q19:=(A11.keep K15_)
  have q20:=((Vn.ext E11).keep K15_ (ninS (show @Ne Nat b3 b11 by omega) nin0))
  exact own_retA X15 hx hret rfl rfl hlk (dE hby D61 18 rfl) ⟨b11,b3,k3,rfl,N15,K18,by omega,by omega,⟨q19,Gc,Gv,q20⟩⟩ (by decide) (by decide)
theorem own_ltsn (l:Launch) (Z:State) (a0:Array Value) (hw:∀ d∈tables_1,d.before a0 Z = true) (ws:List Jvm.Cond)  (d:Nat) (dg:Addr) (kdg:ClassId) (w1:Int32) (h0:Heap) (O0:Old Z Z.heap.size h0) (S1:Sta Z Z.heap "java/lang/String" "COMPACT_STRINGS" "Z" (.int w1)) (hw1:¬ (w1 = (0:Int32))) (hd:d < 9) (SD:Sta Z Z.heap "java/lang/Integer" "DigitOnes" "[B" (.ref dg)) (Dg:Arv Z Z.heap dg kdg .byte (Int32.ofNat 100) (oV own_dig 100) (.int 0)) :
    own_Met l Z (⟨"java/lang/Long","toString","(J)Ljava/lang/String;"⟩ : MethodName) jdk_35_method_12_code 4 (some (.object "java/lang/String")) ws (⟨2,2,6,60⟩ : Room) #[(.long ((-(Int32.ofNat (d+1))).toInt64))] h0 (fun v h L=>∃ a t kt,v = some (.ref a)∧Fr Z.heap.size L∧Keep h0 h []∧h0.size≤a∧h0.size≤t∧own_StL Z h a t kt [(45:Int32),Int32.ofNat (48+(d+1))]) 2 6:=by
  refine own_bodyA (ef:=fun m=>mkF m 0 #[.val (.long ((-(Int32.ofNat (d+1))).toInt64)),.second,.unset,.unset] []) (plainFor_of_name own_pn52) ?_
  intro p e s m below meth c T0 hx hZ hby hml hown hnm hret hlk X0 e0
  have N0:=Fr.nil Z.heap.size
  have z0 : Z.heap.size≤h0.size:=O0.2.1
  have Kr:=Keep.refl h0 []
  show gH (T0.setTop (mkF m 0 #[.val (.long ((-(Int32.ofNat (d+1))).toInt64)),.second,.unset,.unset] [])) ..
  refine oS (fun _=>XS.lloadN X0.here hx rfl (dE hby D61 0 rfl) rfl) ?_
  obtain ⟨_,T1,L1,X1,⟨rfl,N1q,eh1⟩,st1⟩:=own_cS X0 hx hZ hown (own_ssn l Z a0 hw [] d h0 O0 hd) (oW hw 182 rfl) (oW hw 183 rfl) (oW hw 180 rfl) (oW hw 184 rfl) (W:=0) (g:=(mkF m 1 #[.val (.long ((-(Int32.ofNat (d+1))).toInt64)),.second,.unset,.unset] [(.long ((-(Int32.ofNat (d+1))).toInt64))])) rfl (by rw [hml]; rfl) (argsL:=[(.long ((-(Int32.ofNat (d+1))).toInt64))]) (rest:=[]) (lenOf own_pd53 rfl) rfl (dE hby D61 1 rfl) rfl e0 (by decide) (by decide)
  have N1:=Fr.app N0 N1q
  refine oS st1 ?_
  show gH (T1.setTop (mkF m 4 #[.val (.long ((-(Int32.ofNat (d+1))).toInt64)),.second,.unset,.unset] [(.int 2)])) ..
  refine oS (fun _=>XS.istoreN X1.here hx rfl (dE hby D61 2 rfl) rfl (l':=#[.val (.long ((-(Int32.ofNat (d+1))).toInt64)),.second,vi 2,.unset]) rfl) ?_
  obtain ⟨T2,X2,e2,st2⟩:=getS2 X1 hx hZ hown (host:="") (Or.inl (oW hw 186 rfl)) Via.refl eh1 (Sta.ext O0.2 S1) (g:=(mkF m 5 #[.val (.long ((-(Int32.ofNat (d+1))).toInt64)),.second,vi 2,.unset] [])) rfl (dE hby D61 3 rfl)
  refine oS st2 ?_
  show gH (T2.setTop (mkF m 8 #[.val (.long ((-(Int32.ofNat (d+1))).toInt64)),.second,vi 2,.unset] [(.int w1)])) ..
  refine oS (fun _=>XS.ifNo X2.here hx rfl (dE hby D61 4 rfl) rfl ((if0 _ _).trans (feq hw1).1)) ?_
  refine oS (fun _=>XS.iloadN X2.here hx rfl (dE hby D61 5 rfl) rfl) ?_
  obtain ⟨T3,h3,k3,X3,e3,E3,A3,st3⟩:=newP X2 hx hZ (oW hw 3 rfl) e2 (g:=(mkF m 12 #[.val (.long ((-(Int32.ofNat (d+1))).toInt64)),.second,vi 2,.unset] [(.int 2)])) rfl (dE hby D61 6 rfl) rfl (by decide) (cap:=2) (by decide) (by decide) (by decide) (by decide)
  obtain ⟨b3,g3⟩ : ∃ z,z = h0.size:=⟨_,rfl⟩
  rw [← g3] at A3 st3
  refine oS st3 ?_
  have z4:=E3.1
  have O5:=Old.ext O0 E3
  have K6:=Kr.ext E3
  have V3 : Arv Z h3 b3 k3 .byte (2:Int32) [(.int 0),(.int 0)] (.int 0):=(Arv.new A3 (by decide)).pad (pad_rep [] (.int 0) 2)
  have lt3:=oL A3.lt
  show gH (T3.setTop (mkF m 14 #[.val (.long ((-(Int32.ofNat (d+1))).toInt64)),.second,vi 2,.unset] [(.ref b3)])) ..
  refine oS (fun _=>XS.astoreN X3.here hx rfl (dE hby D61 7 rfl) rfl rfl (l':=#[.val (.long ((-(Int32.ofNat (d+1))).toInt64)),.second,vi 2,vr b3]) rfl) ?_
  refine oS (fun _=>XS.lloadN X3.here hx rfl (dE hby D61 8 rfl) rfl) ?_
  refine oS (fun _=>XS.iloadN X3.here hx rfl (dE hby D61 9 rfl) rfl) ?_
  refine oS (fun _=>XS.aloadN X3.here hx rfl (dE hby D61 10 rfl) rfl rfl) ?_
  obtain ⟨_,T7,L7,X7,⟨r1,rfl,N7q,K7_,Vn⟩,st7⟩:=own_cS X3 hx hZ hown (own_gcn l Z a0 hw [] b3 d dg kdg k3 h3 O5 hd SD Dg (by omega) V3) (oW hw 187 rfl) (oW hw 188 rfl) (oW hw 180 rfl) (oW hw 189 rfl) (W:=0) (g:=(mkF m 18 #[.val (.long ((-(Int32.ofNat (d+1))).toInt64)),.second,vi 2,vr b3] [(.ref b3),(.int 2),(.long ((-(Int32.ofNat (d+1))).toInt64))])) rfl (by rw [hml]; rfl) (argsL:=[(.long ((-(Int32.ofNat (d+1))).toInt64)),(.int 2),(.ref b3)]) (rest:=[]) (lenOf own_pd54 rfl) rfl (dE hby D61 11 rfl) rfl e3 (by decide) (by decide)
  have N7:=Fr.app N1 N7q
  refine oS st7 ?_
  have z8:=K7_.1
  have O9:=Old.keep O5 K7_ (allS (by omega) all0)
  have K10:=K6.trans K7_ (allS (Or.inr (by omega)) all0)
  show gH (T7.setTop (mkF m 21 #[.val (.long ((-(Int32.ofNat (d+1))).toInt64)),.second,vi 2,vr b3] [(.int r1)])) ..
  refine oS (fun _=>XS.pop X7.here hx rfl (dE hby D61 12 rfl) rfl rfl) ?_
  obtain ⟨T11,h11,X11,e11,E11,A11,D11,-,st11⟩:=newO X7 hx hZ hown (oW hw 193 rfl) (oW hw 46 rfl) (oW hw 28 rfl) rfl (g:=(mkF m 22 #[.val (.long ((-(Int32.ofNat (d+1))).toInt64)),.second,vi 2,vr b3] [])) rfl (dE hby D61 13 rfl) (by decide) (by decide)
  obtain ⟨b11,g11⟩ : ∃ z,z = T7.heap.size:=⟨_,rfl⟩
  rw [← g11] at A11 D11 st11
  refine oS st11 ?_
  have z12:=E11.1
  have O13:=Old.ext O9 E11
  have K14:=K10.ext E11
  have F11_coder : Fld Z h11 b11 "java/lang/String" "coder" "B" (.int 0):=D11 (Or.inr (oW hw 77 rfl)) (ty:=.byte) (by decide)
  have F11_value : Fld Z h11 b11 "java/lang/String" "value" "[B" .null:=D11 (Or.inr (oW hw 97 rfl)) (ty:=(.array .byte)) (by decide)
  have lt11:=oL A11.lt
  show gH (T11.setTop (mkF m 25 #[.val (.long ((-(Int32.ofNat (d+1))).toInt64)),.second,vi 2,vr b3] [(.ref b11)])) ..
  refine oS (fun _=>XS.dup X11.here hx rfl (dE hby D61 14 rfl) rfl rfl) ?_
  refine oS (fun _=>XS.aloadN X11.here hx rfl (dE hby D61 15 rfl) rfl rfl) ?_
  refine oS (fun _=>XS.iconst X11.here hx rfl (dE hby D61 16 rfl)) ?_
  obtain ⟨_,T15,L15,X15,⟨rfl,N15q,K15_,Gc,Gv⟩,st15⟩:=own_cI X11 hx hZ hown (own_ibb l Z a0 hw [] b11 b3 h11 O13 (by omega) A11 F11_value F11_coder) (oW hw 194 rfl) (oW hw 195 rfl) (a:=b11) rfl rfl (oW hw 28 rfl) (oW hw 196 rfl) (W:=1) (g:=(mkF m 28 #[.val (.long ((-(Int32.ofNat (d+1))).toInt64)),.second,vi 2,vr b3] [(.int 0),(.ref b3),(.ref b11),(.ref b11)])) rfl (by rw [hml]; rfl) (argsL:=[(.ref b3),(.int 0)]) (rest:=[(.ref b11)]) (lenOf own_pd55 rfl) rfl (dE hby D61 17 rfl) rfl e11 (by decide) (by decide)
  have N15:=Fr.app N7 N15q
  refine oS st15 ?_
  have z16:=K15_.1
  have O17:=Old.keep O13 K15_ (allS (by omega) all0)
  have K18:=K14.trans K15_ (allS (Or.inr (by omega)) all0)
  show gH (T15.setTop (mkF m 31 #[.val (.long ((-(Int32.ofNat (d+1))).toInt64)),.second,vi 2,vr b3] [(.ref b11)])) ..
  have q19:=(A11.keep K15_)
  have q20:=((Vn.ext E11).keep K15_ (ninS (show @Ne Nat b3 b11 by omega) nin0))
  exact own_retA X15 hx hret rfl rfl hlk (dE hby D61 18 rfl) ⟨b11,b3,k3,rfl,N15,K18,by omega,by omega,⟨q19,Gc,Gv,q20⟩⟩ (by decide) (by decide)
theorem own_pn56 : plainName "java/util/List" = true:=by first | (simp [plainName,overriddenIn]; done) | decide +kernel
def L62 : List (Nat × Instr × Nat):=[(0,.aload_n 0,1),(1,.arraylength,1),(2,.tableswitch 57 0 2 #[26,32,43],26),(28,.getstatic 90,3),(31,.astore_n 1,1),(32,.aload_n 1,1),(33,.areturn,1)]
theorem D62 : ∀ q∈L62,decode jdk_40_method_47_code q.1 = .ok q.2:=by decide +kernel
theorem own_lof (l:Launch) (Z:State) (a0:Array Value) (hw:∀ d∈tables_1,d.before a0 Z = true) (ws:List Jvm.Cond) (a1:Addr) (el:Addr) (ka:ClassId) (h0:Heap) (O0:Old Z Z.heap.size h0) (SE:Sta Z Z.heap "java/util/ImmutableCollections" "EMPTY_LIST" "Ljava/util/ImmutableCollections$ListN;" (.ref el)) (Va:Arv Z h0 a1 ka (.object "java/lang/String") (0:Int32) [] .null) :
    own_Met l Z (⟨"java/util/List","of","([Ljava/lang/Object;)Ljava/util/List;"⟩ : MethodName) jdk_40_method_47_code 2 (some (.object "java/util/List")) ws (⟨0,0,0,0⟩ : Room) #[(.ref a1)] h0 (fun v h L=>v = some (.ref el)∧Fr Z.heap.size L∧h = h0) 0 0:=by
  refine own_bodyA (ef:=fun m=>mkF m 0 #[.val (.ref a1),.unset] []) (plainFor_of_name own_pn56) ?_
  intro p e s m below meth c T0 hx hZ hby hml hown hnm hret hlk X0 e0
  have N0:=Fr.nil Z.heap.size
  show gH (T0.setTop (mkF m 0 #[vr a1,.unset] [])) ..
  refine oS (fun _=>XS.aloadN X0.here hx rfl (dE hby D62 0 rfl) rfl rfl) ?_
  show gH (T0.setTop (mkF m 1 #[vr a1,.unset] [(.ref a1)])) ..
  obtain ⟨cl1,Ar1,qk1,Sz1,Mz1,Hz1,Uz1⟩:=id Va
  refine oS (X0.arraylength hx (by rw [e0]; exact Ar1.1) (State.isArrayOf_alike hZ.alike Ar1.2.1) (g:=(mkF m 1 #[vr a1,.unset] [(.ref a1)])) rfl rfl (dE hby D62 1 rfl)) ?_
  rw [len_of Sz1 Mz1]
  show gH (T0.setTop (mkF m 2 #[vr a1,.unset] [(.int 0)])) ..
  refine oS (fun _=>XS.tswIn X0.here hx rfl (pc0:=2) (pc':=28) rfl (dE hby D62 2 rfl) rfl (by decide) (o:=26) rfl (by decide) (by decide)) ?_
  obtain ⟨T2,X2,e2,st2⟩:=getS2 X0 hx hZ hown (host:="") (Or.inl (oW hw 201 rfl)) Via.refl e0 (Sta.ext O0.2 SE) (g:=(mkF m 28 #[vr a1,.unset] [])) rfl (dE hby D62 3 rfl)
  refine oS st2 ?_
  show gH (T2.setTop (mkF m 31 #[vr a1,.unset] [(.ref el)])) ..
  refine oS (fun _=>XS.astoreN X2.here hx rfl (dE hby D62 4 rfl) rfl rfl (l':=#[vr a1,vr el]) rfl) ?_
  refine oS (fun _=>XS.aloadN X2.here hx rfl (dE hby D62 5 rfl) rfl rfl) ?_
  show gH (T2.setTop (mkF m 33 #[vr a1,vr el] [(.ref el)])) ..
  exact own_retA X2 hx hret rfl rfl hlk (dE hby D62 6 rfl) (by rw [e2]; exact ⟨rfl,N0,rfl⟩) (by decide) (by decide)
theorem own_pn57 : plainName "java/util/ImmutableCollections$ListN" = true:=by first | (simp [plainName,overriddenIn]; done) | decide +kernel
def L63 : List (Nat × Instr × Nat):=[(0,.aload_n 0,1),(1,.getfield 7,3),(4,.arraylength,1),(5,.ireturn,1)]
theorem D63 : ∀ q∈L63,decode jdk_45_method_3_code q.1 = .ok q.2:=by decide +kernel
theorem own_lnsize (l:Launch) (Z:State) (a0:Array Value) (hw:∀ d∈tables_1,d.before a0 Z = true) (ws:List Jvm.Cond) (el:Addr) (ea:Addr) (kea:ClassId) (h0:Heap) (O0:Old Z Z.heap.size h0) (Fe:Fld Z Z.heap el "java/util/ImmutableCollections$ListN" "elements" "[Ljava/lang/Object;" (.ref ea)) (Ve:Arv Z Z.heap ea kea (.object "java/lang/Object") (0:Int32) [] .null) :
    own_Met l Z (⟨"java/util/ImmutableCollections$ListN","size","()I"⟩ : MethodName) jdk_45_method_3_code 1 (some .int) ws (⟨0,0,0,0⟩ : Room) #[(.ref el)] h0 (fun v h L=>v = some (.int 0)∧Fr Z.heap.size L∧h = h0) 0 0:=by
  refine own_bodyA (ef:=fun m=>mkF m 0 #[.val (.ref el)] []) (plainFor_of_name own_pn57) ?_
  intro p e s m below meth c T0 hx hZ hby hml hown hnm hret hlk X0 e0
  have N0:=Fr.nil Z.heap.size
  show gH (T0.setTop (mkF m 0 #[vr el] [])) ..
  refine oS (fun _=>XS.aloadN X0.here hx rfl (dE hby D63 0 rfl) rfl rfl) ?_
  have q1:=Fe.ext O0.2
  obtain ⟨T2,X2,e2,st2⟩:=getF X0 hx hZ hown (host:="") (Or.inl (oW hw 281 rfl)) Via.refl e0 q1 (g:=(mkF m 1 #[vr el] [(.ref el)])) rfl rfl (dE hby D63 1 rfl)
  refine oS st2 ?_
  show gH (T2.setTop (mkF m 4 #[vr el] [(.ref ea)])) ..
  have q3:=Ve.ext O0.2
  obtain ⟨cl4,Ar4,qk4,Sz4,Mz4,Hz4,Uz4⟩:=id q3
  refine oS (X2.arraylength hx (by rw [e2]; exact Ar4.1) (State.isArrayOf_alike hZ.alike Ar4.2.1) (g:=(mkF m 4 #[vr el] [(.ref ea)])) rfl rfl (dE hby D63 2 rfl)) ?_
  rw [len_of Sz4 Mz4]
  show gH (T2.setTop (mkF m 5 #[vr el] [(.int 0)])) ..
  exact own_retI X2 hx hret hlk (dE hby D63 3 rfl) (by rw [e2]; exact ⟨rfl,N0,rfl⟩) (by decide) (by decide)
def L64 : List (Nat × Instr × Nat):=[(0,.aload_n 0,1),(1,.getfield 7,3),(4,.arraylength,1),(5,.ifCond .ne 7,3),(8,.iconst 1,1),(9,.goto 4,3),(13,.ireturn,1)]
theorem D64 : ∀ q∈L64,decode jdk_45_method_2_code q.1 = .ok q.2:=by decide +kernel
theorem own_lnisEmpty (l:Launch) (Z:State) (a0:Array Value) (hw:∀ d∈tables_1,d.before a0 Z = true) (ws:List Jvm.Cond) (el:Addr) (ea:Addr) (kea:ClassId) (h0:Heap) (O0:Old Z Z.heap.size h0) (Fe:Fld Z Z.heap el "java/util/ImmutableCollections$ListN" "elements" "[Ljava/lang/Object;" (.ref ea)) (Ve:Arv Z Z.heap ea kea (.object "java/lang/Object") (0:Int32) [] .null) :
    own_Met l Z (⟨"java/util/ImmutableCollections$ListN","isEmpty","()Z"⟩ : MethodName) jdk_45_method_2_code 1 (some .boolean) ws (⟨0,0,0,0⟩ : Room) #[(.ref el)] h0 (fun v h L=>v = some (.int 1)∧Fr Z.heap.size L∧h = h0) 0 0:=by
  refine own_bodyA (ef:=fun m=>mkF m 0 #[.val (.ref el)] []) (plainFor_of_name own_pn57) ?_
  intro p e s m below meth c T0 hx hZ hby hml hown hnm hret hlk X0 e0
  have N0:=Fr.nil Z.heap.size
  show gH (T0.setTop (mkF m 0 #[vr el] [])) ..
  refine oS (fun _=>XS.aloadN X0.here hx rfl (dE hby D64 0 rfl) rfl rfl) ?_
  have q1:=Fe.ext O0.2
  obtain ⟨T2,X2,e2,st2⟩:=getF X0 hx hZ hown (host:="") (Or.inl (oW hw 281 rfl)) Via.refl e0 q1 (g:=(mkF m 1 #[vr el] [(.ref el)])) rfl rfl (dE hby D64 1 rfl)
  refine oS st2 ?_
  show gH (T2.setTop (mkF m 4 #[vr el] [(.ref ea)])) ..
  have q3:=Ve.ext O0.2
  obtain ⟨cl4,Ar4,qk4,Sz4,Mz4,Hz4,Uz4⟩:=id q3
  refine oS (X2.arraylength hx (by rw [e2]; exact Ar4.1) (State.isArrayOf_alike hZ.alike Ar4.2.1) (g:=(mkF m 4 #[vr el] [(.ref ea)])) rfl rfl (dE hby D64 2 rfl)) ?_
  rw [len_of Sz4 Mz4]
  show gH (T2.setTop (mkF m 5 #[vr el] [(.int 0)])) ..
  refine oS (fun _=>XS.ifNo X2.here hx rfl (dE hby D64 3 rfl) rfl ((if0 _ _).trans (teq rfl).2)) ?_
  refine oS (fun _=>XS.iconst X2.here hx rfl (dE hby D64 4 rfl)) ?_
  refine oS (fun _=>XS.goto X2.here hx rfl (pc0:=9) (pc':=13) rfl (dE hby D64 5 rfl) (by decide) (by decide)) ?_
  show gH (T2.setTop (mkF m 13 #[vr el] [(.int 1)])) ..
  exact own_retN X2 hx hret hlk (by simp) (dE hby D64 6 rfl) (by rw [e2]; exact ⟨rfl,N0,rfl⟩) (by decide) (by decide)
/-- the digits of the number x -/
def own_num (x:Int64) (ds:List Int32) : Prop:=(∃ d : Nat,d < 10∧x = (Int32.ofNat d).toInt64∧ds = [Int32.ofNat (48+d)]) ∨ ∃ d : Nat,d < 9∧x = (-(Int32.ofNat (d+1))).toInt64∧ds = [(45:Int32),Int32.ofNat (48+(d+1))]
theorem own_dr : ∀ d : Fin 10,0≤(Int32.ofNat (48+d.1)).toInt∧(Int32.ofNat (48+d.1)).toInt < 128:=by decide
theorem own_num_len {x:Int64} {ds:List Int32} (h:own_num x ds) : 1≤ds.length∧ds.length < 3:=by
  rcases h with ⟨d,hd,-,rfl⟩ | ⟨d,hd,-,rfl⟩
  · exact ⟨by simp,by simp⟩
  · exact ⟨by simp,by simp⟩
theorem own_num_r {x:Int64} {ds:List Int32} (h:own_num x ds) : ∀ c∈ds,0≤c.toInt∧c.toInt < 128:=by
  rcases h with ⟨d,hd,-,rfl⟩ | ⟨d,hd,-,rfl⟩
  · intro c hc
    rw [List.mem_singleton.mp hc]
    exact own_dr ⟨d,hd⟩
  · intro c hc
    rcases List.mem_cons.mp hc with rfl | hc
    · decide
    · rw [List.mem_singleton.mp hc]
      exact own_dr ⟨d+1,by omega⟩
theorem own_r128 {c:Int32} (h:0≤c.toInt∧c.toInt < 128) : 0≤c.toInt∧¬ (255:Int32) < c:=⟨h.1,fun q=>by rw [Int32.lt_iff_toInt_lt,show (255:Int32).toInt = 255 from rfl] at q; omega⟩
theorem own_lts (l:Launch) (Z:State) (a0:Array Value) (hw:∀ d∈tables_1,d.before a0 Z = true) (ws:List Jvm.Cond) (x:Int64) (ds:List Int32) (dg:Addr) (kdg:ClassId) (w1:Int32) (h0:Heap) (O0:Old Z Z.heap.size h0) (S1:Sta Z Z.heap "java/lang/String" "COMPACT_STRINGS" "Z" (.int w1)) (hw1:¬ (w1 = (0:Int32))) (SD:Sta Z Z.heap "java/lang/Integer" "DigitOnes" "[B" (.ref dg)) (Dg:Arv Z Z.heap dg kdg .byte (Int32.ofNat 100) (oV own_dig 100) (.int 0)) (hnum:own_num x ds) :
    own_Met l Z (⟨"java/lang/Long","toString","(J)Ljava/lang/String;"⟩ : MethodName) jdk_35_method_12_code 4 (some (.object "java/lang/String")) ws (⟨2,2,6,60⟩ : Room) #[(.long x)] h0 (fun v h L=>∃ a t kt,v = some (.ref a)∧Fr Z.heap.size L∧Keep h0 h []∧h0.size≤a∧h0.size≤t∧own_StL Z h a t kt ds) ((⟨2,2,6,60⟩ : Room)).cells ((⟨2,2,6,60⟩ : Room)).slots:=by
  rcases hnum with ⟨d,hd,rfl,rfl⟩ | ⟨d,hd,rfl,rfl⟩
  · exact own_ltsp l Z a0 hw ws d dg kdg w1 h0 O0 S1 hw1 hd SD Dg
  · exact own_ltsn l Z a0 hw ws d dg kdg w1 h0 O0 S1 hw1 hd SD Dg
def L65 : List (Nat × Instr × Nat):=[(0,.aload_n 0,1),(1,.getfield 10,3),(4,.aload_n 1,1),(5,.invokevirtual 18,3),(8,.pop,1),(9,.iconst 0,1),(10,.istore 4,2),(12,.iload 4,2),(14,.aload_n 3,1),(15,.invokeinterface 71 1,5),(20,.if_icmp .ge 77,3),(97,.aload_n 3,1),(98,.invokeinterface 123 1,5),(103,.ifCond .ne 13,3),(116,.aload_n 0,1),(117,.getfield 10,3),(120,.bipush 32,2),(122,.invokevirtual 22,3),(125,.aload_n 2,1),(126,.invokevirtual 18,3),(129,.bipush 10,2),(131,.invokevirtual 22,3),(134,.pop,1),(135,.return_,1)]
theorem D65 : ∀ q∈L65,decode prog_24_method_6_code q.1 = .ok q.2:=by decide +kernel
theorem own_pd58 : parseMethodDescriptor "(Ljava/lang/String;)Ljava/lang/StringBuilder;" = some ⟨[(.object "java/lang/String")],some (.object "java/lang/StringBuilder")⟩:=by decide +kernel
theorem own_pd59 : parseMethodDescriptor "(C)Ljava/lang/StringBuilder;" = some ⟨[.char],some (.object "java/lang/StringBuilder")⟩:=by decide +kernel
theorem own_smL (l:Launch) (Z:State) (a0:Array Value) (hw:∀ d∈tables_1,d.before a0 Z = true) (ws:List Jvm.Cond) (te:Addr) (nm:Addr) (sr:Addr) (el:Addr) (sb bv tn td ea : Addr) (kb ktn ktd kea : ClassId) (es ds : List Int32) (w1:Int32) (fm:Value) (h0:Heap) (O0:Old Z Z.heap.size h0) (S1:Sta Z Z.heap "java/lang/String" "COMPACT_STRINGS" "Z" (.int w1)) (hw1:¬ (w1 = (0:Int32))) (US:own_US Z) (SF:Sta Z Z.heap "jdk/internal/util/Preconditions" "SIOOBE_FORMATTER" "Ljava/util/function/BiFunction;" fm) (hfm:fm = .null ∨ ∃ a,fm = .ref a) (Ee:Exa Z Z.heap el "java/util/ImmutableCollections$ListN") (Fe:Fld Z Z.heap el "java/util/ImmutableCollections$ListN" "elements" "[Ljava/lang/Object;" (.ref ea)) (Ve:Arv Z Z.heap ea kea (.object "java/lang/Object") (0:Int32) [] .null) (gs:Z.heap.size≤sb) (gb:Z.heap.size≤bv) (nsb:@Ne Nat sb bv) (ntb:@Ne Nat tn bv) (nts:@Ne Nat tn sb) (nas:@Ne Nat nm sb) (nab:@Ne Nat nm bv) (nes:@Ne Nat te sb) (neb:@Ne Nat te bv) (mtb:@Ne Nat td bv) (mts:@Ne Nat td sb) (mas:@Ne Nat sr sb) (mab:@Ne Nat sr bv) (hes:es.length = 2) (hds:1≤ds.length∧ds.length < 3) (hdr:∀ c∈ds,0≤c.toInt∧¬ (255:Int32) < c) (Ft:Fld Z h0 te "com/example/sluse/sluse/TextExposition" "text" "Ljava/lang/StringBuilder;" (.ref sb)) (HB:own_SBL Z h0 sb bv kb []) (Hn:own_StL Z h0 nm tn ktn es) (Hd:own_StL Z h0 sr td ktd ds) :
    own_Met l Z (⟨"com/example/sluse/sluse/TextExposition","sample","(Ljava/lang/String;Ljava/lang/String;Ljava/util/List;)V"⟩ : MethodName) prog_24_method_6_code 5 none ws (⟨10,1,32,210⟩ : Room) #[(.ref te),(.ref nm),(.ref sr),(.ref el)] h0 (fun v h L=>v = none∧Fr Z.heap.size L∧Keep h0 h [sb,bv]∧own_SBL Z h sb bv kb (((es++[(32:Int32)])++ds)++[(10:Int32)])) 1 32:=by
  refine own_bodyA (ef:=fun m=>mkF m 0 #[.val (.ref te),.val (.ref nm),.val (.ref sr),.val (.ref el),.unset] []) (plainFor_of_name own_pn13) ?_
  intro p e s m below meth c T0 hx hZ hby hml hown hnm hret hlk X0 e0
  have N0:=Fr.nil Z.heap.size
  have z0 : Z.heap.size≤h0.size:=O0.2.1
  have Kr:=Keep.refl h0 [sb,bv]
  show gH (T0.setTop (mkF m 0 #[vr te,vr nm,vr sr,vr el,.unset] [])) ..
  have lt_te:=oL Ft.lt
  have lt_sb:=oL HB.1.1.lt
  have lt_bv:=oL HB.2.lt
  have lt_nm:=oL Hn.1.lt
  have lt_tn:=oL Hn.2.2.2.lt
  have lt_sr:=oL Hd.1.lt
  have lt_td:=oL Hd.2.2.2.lt
  refine oS (fun _=>XS.aloadN X0.here hx rfl (dE hby D65 0 rfl) rfl rfl) ?_
  obtain ⟨T1,X1,e1,st1⟩:=getF X0 hx hZ hown (host:="") (Or.inl (oW hw 33 rfl)) Via.refl e0 Ft (g:=(mkF m 1 #[vr te,vr nm,vr sr,vr el,.unset] [(.ref te)])) rfl rfl (dE hby D65 1 rfl)
  refine oS st1 ?_
  show gH (T1.setTop (mkF m 4 #[vr te,vr nm,vr sr,vr el,.unset] [(.ref sb)])) ..
  refine oS (fun _=>XS.aloadN X1.here hx rfl (dE hby D65 2 rfl) rfl rfl) ?_
  obtain ⟨_,T2,L2,X2,⟨rfl,N2q,K2_,HBa⟩,st2⟩:=own_cV X1 hx hZ hown (own_sapLL l Z a0 hw [] sb nm tn bv ktn kb [] es w1 fm h0 O0 S1 hw1 US SF hfm gs gb nsb ntb nts nas nab (by simp only [List.length_nil]; omega) Hn HB.1 HB.2) (oW hw 207 rfl) (oW hw 208 rfl) (oW hw 210 rfl) (oW hw 209 rfl) (own_clsP (y:=(⟨"java/lang/StringBuilder","append","(Ljava/lang/String;)Ljava/lang/StringBuilder;"⟩ : MethodName)) (oW hw 210 rfl)) HB.1.1 (oW hw 16 rfl) (oW hw 211 rfl) (W:=0) (g:=(mkF m 5 #[vr te,vr nm,vr sr,vr el,.unset] [(.ref nm),(.ref sb)])) rfl (by rw [hml]; rfl) (argsL:=[(.ref nm)]) (rest:=[]) (lenOf own_pd58 rfl) rfl (dE hby D65 3 rfl) rfl e1 (by decide) (by decide)
  have N2:=Fr.app N0 N2q
  refine oS st2 ?_
  have z3:=K2_.1
  have O4:=Old.keep O0 K2_ (allS (by omega) (allS (by omega) all0))
  have K5:=Kr.trans K2_ (allS (Or.inl (by simp)) (allS (Or.inl (by simp)) all0))
  show gH (T2.setTop (mkF m 8 #[vr te,vr nm,vr sr,vr el,.unset] [(.ref sb)])) ..
  have HBa : own_SBL Z T2.heap sb bv kb es:=HBa
  refine oS (fun _=>XS.pop X2.here hx rfl (dE hby D65 4 rfl) rfl rfl) ?_
  refine oS (fun _=>XS.iconst X2.here hx rfl (dE hby D65 5 rfl)) ?_
  refine oS (fun _=>XS.istore X2.here hx rfl (dE hby D65 6 rfl) rfl (l':=#[vr te,vr nm,vr sr,vr el,vi 0]) rfl) ?_
  refine oS (fun _=>XS.iload X2.here hx rfl (dE hby D65 7 rfl) rfl) ?_
  refine oS (fun _=>XS.aloadN X2.here hx rfl (dE hby D65 8 rfl) rfl rfl) ?_
  show gH (T2.setTop (mkF m 15 #[vr te,vr nm,vr sr,vr el,vi 0] [(.ref el),(.int 0)])) ..
  have q7:=Ee.ext O4.2
  obtain ⟨cq6,kq6,q6a,q6b,q6c⟩:=isOf hZ rfl q7
  obtain ⟨_,_,⟨T6,L6,k6,n6⟩,-,X6,⟨Lc6,hQ6,l6,y6,z6⟩,st6⟩:=X2.interfaceBack hx (xi:=(⟨"java/util/List","size","()I"⟩ : MethodName)) (y:=(⟨"java/util/ImmutableCollections$ListN","size","()I"⟩ : MethodName)) hown (mvT hZ (oW hw 271 rfl)) (mvT hZ (oW hw 272 rfl)) (mvT hZ (oW hw 273 rfl)) (mvT hZ (oW hw 274 rfl)) (mvT hZ (oW hw 275 rfl)) (mvT hZ (oW hw 276 rfl)) (mvT hZ (oW hw 277 rfl)) (mvT hZ (oW hw 278 rfl)) (by decide) (own_back (rm:=(⟨0,0,0,0⟩ : Room)) (W:=1) (own_lnsize l Z a0 hw [] el ea kea T2.heap O4 Fe Ve) hZ (oW hw 280 rfl) (oW hw 279 rfl) (by decide) (by decide)) q6a q6b q6c (g:=(mkF m 15 #[vr te,vr nm,vr sr,vr el,vi 0] [(.ref el),(.int 0)])) rfl (by rw [hml]; rfl) (Steps.refl _) (argsL:=[]) (rest:=[(.int 0)]) (lenOf own_pd15 rfl) rfl (by show 2 * 0+_≤_; exact Nat.le_of_eq rfl) (dE hby D65 9 rfl) (fun _ _=>⟨rfl,rfl,(by decide : 0+0+0≤_),(by decide : 0+0+0≤_)⟩)
  dsimp only [Pt.U,Pt.locs,Pt.cells,Pt.slots] at X6 l6 y6 z6 st6 hQ6
  subst l6 y6 z6
  obtain ⟨rfl,N6q,eh6⟩:=hQ6
  have N6:=Fr.app N2 N6q
  refine oT st6 ?_
  show gH (T6.setTop (mkF m 20 #[vr te,vr nm,vr sr,vr el,vi 0] [(.int 0),(.int 0)])) ..
  refine oS (fun _=>XS.icmpYes X6.here hx rfl (pc0:=20) (pc':=97) rfl (dE hby D65 10 rfl) rfl (flt (by decide)).2.1 (by decide) (by decide)) ?_
  refine oS (fun _=>XS.aloadN X6.here hx rfl (dE hby D65 11 rfl) rfl rfl) ?_
  show gH (T6.setTop (mkF m 98 #[vr te,vr nm,vr sr,vr el,vi 0] [(.ref el)])) ..
  have q9:=Ee.ext O4.2
  obtain ⟨cq8,kq8,q8a,q8b,q8c⟩:=isOf hZ eh6 q9
  obtain ⟨_,_,⟨T8,L8,k8,n8⟩,-,X8,⟨Lc8,hQ8,l8,y8,z8⟩,st8⟩:=X6.interfaceBack hx (xi:=(⟨"java/util/List","isEmpty","()Z"⟩ : MethodName)) (y:=(⟨"java/util/ImmutableCollections$ListN","isEmpty","()Z"⟩ : MethodName)) hown (mvT hZ (oW hw 283 rfl)) (mvT hZ (oW hw 284 rfl)) (mvT hZ (oW hw 285 rfl)) (mvT hZ (oW hw 286 rfl)) (mvT hZ (oW hw 287 rfl)) (mvT hZ (oW hw 288 rfl)) (mvT hZ (oW hw 289 rfl)) (mvT hZ (oW hw 278 rfl)) (by decide) (own_back (rm:=(⟨0,0,0,0⟩ : Room)) (W:=0) (own_lnisEmpty l Z a0 hw [] el ea kea T2.heap O4 Fe Ve) hZ (oW hw 290 rfl) (oW hw 279 rfl) (by decide) (by decide)) q8a q8b q8c (g:=(mkF m 98 #[vr te,vr nm,vr sr,vr el,vi 0] [(.ref el)])) rfl (by rw [hml]; rfl) (Steps.refl _) (argsL:=[]) (rest:=[]) (lenOf own_pd22 rfl) rfl (by show 2 * 0+_≤_; exact Nat.le_of_eq rfl) (dE hby D65 12 rfl) (fun _ _=>⟨rfl,eh6,(by decide : 0+0+0+0≤_),(by decide : 0+0+0+0≤_)⟩)
  dsimp only [Pt.U,Pt.locs,Pt.cells,Pt.slots] at X8 l8 y8 z8 st8 hQ8
  subst l8 y8 z8
  obtain ⟨rfl,N8q,eh8⟩:=hQ8
  have N8:=Fr.app N6 N8q
  refine oT st8 ?_
  show gH (T8.setTop (mkF m 103 #[vr te,vr nm,vr sr,vr el,vi 0] [(.int 1)])) ..
  refine oS (fun _=>XS.ifYes X8.here hx rfl (pc0:=103) (pc':=116) rfl (dE hby D65 13 rfl) rfl ((if0 _ _).trans (feq (by decide)).2) (by decide) (by decide)) ?_
  refine oS (fun _=>XS.aloadN X8.here hx rfl (dE hby D65 14 rfl) rfl rfl) ?_
  have q10:=(Ft.keep K2_ (ninS (show @Ne Nat te sb by omega) (ninS (show @Ne Nat te bv by omega) nin0)))
  obtain ⟨T11,X11,e11,st11⟩:=getF X8 hx hZ hown (host:="") (Or.inl (oW hw 33 rfl)) Via.refl eh8 q10 (g:=(mkF m 117 #[vr te,vr nm,vr sr,vr el,vi 0] [(.ref te)])) rfl rfl (dE hby D65 15 rfl)
  refine oS st11 ?_
  show gH (T11.setTop (mkF m 120 #[vr te,vr nm,vr sr,vr el,vi 0] [(.ref sb)])) ..
  refine oS (fun _=>XS.bipush X11.here hx rfl (dE hby D65 16 rfl)) ?_
  have q13:=(HB.1.1.keep K2_)
  obtain ⟨_,T12,L12,X12,⟨rfl,N12q,K12_,HBb⟩,st12⟩:=own_cV X11 hx hZ hown (own_sacL l Z a0 hw [] sb (32:Int32) bv kb es w1 fm T2.heap O4 S1 hw1 US SF hfm gs (by omega) (show @Ne Nat sb bv by omega) (by omega) (by decide) HBa) (oW hw 291 rfl) (oW hw 292 rfl) (oW hw 294 rfl) (oW hw 293 rfl) (own_clsP (y:=(⟨"java/lang/StringBuilder","append","(C)Ljava/lang/StringBuilder;"⟩ : MethodName)) (oW hw 294 rfl)) q13 (oW hw 16 rfl) (oW hw 295 rfl) (W:=0) (g:=(mkF m 122 #[vr te,vr nm,vr sr,vr el,vi 0] [(.int 32),(.ref sb)])) rfl (by rw [hml]; rfl) (argsL:=[(.int 32)]) (rest:=[]) (lenOf own_pd59 rfl) rfl (dE hby D65 17 rfl) rfl e11 (by decide) (by decide)
  have N12:=Fr.app N8 N12q
  refine oS st12 ?_
  have z14:=K12_.1
  have O15:=Old.keep O4 K12_ (allS (by omega) (allS (by omega) all0))
  have K16:=K5.trans K12_ (allS (Or.inl (by simp)) (allS (Or.inl (by simp)) all0))
  show gH (T12.setTop (mkF m 125 #[vr te,vr nm,vr sr,vr el,vi 0] [(.ref sb)])) ..
  refine oS (fun _=>XS.aloadN X12.here hx rfl (dE hby D65 18 rfl) rfl rfl) ?_
  have q17:=((Hd.1.keep K2_).keep K12_)
  have q18:=((Hd.2.1.keep K2_ (ninS (show @Ne Nat sr sb by omega) (ninS (show @Ne Nat sr bv by omega) nin0))).keep K12_ (ninS (show @Ne Nat sr sb by omega) (ninS (show @Ne Nat sr bv by omega) nin0)))
  have q19:=((Hd.2.2.1.keep K2_ (ninS (show @Ne Nat sr sb by omega) (ninS (show @Ne Nat sr bv by omega) nin0))).keep K12_ (ninS (show @Ne Nat sr sb by omega) (ninS (show @Ne Nat sr bv by omega) nin0)))
  have q20:=((Hd.2.2.2.keep K2_ (ninS (show @Ne Nat td sb by omega) (ninS (show @Ne Nat td bv by omega) nin0))).keep K12_ (ninS (show @Ne Nat td sb by omega) (ninS (show @Ne Nat td bv by omega) nin0)))
  obtain ⟨_,T21,L21,X21,⟨rfl,N21q,K21_,HBc⟩,st21⟩:=own_cV X12 hx hZ hown (own_sapLL l Z a0 hw [] sb sr td bv ktd kb (es++[(32:Int32)]) ds w1 fm T12.heap O15 S1 hw1 US SF hfm gs gb (show @Ne Nat sb bv by omega) (show @Ne Nat td bv by omega) mts mas (show @Ne Nat sr bv by omega) (by rw [List.length_append]; show es.length+1+_≤_; omega) ⟨q17,q18,q19,q20⟩ HBb.1 HBb.2) (oW hw 207 rfl) (oW hw 208 rfl) (oW hw 210 rfl) (oW hw 209 rfl) (own_clsP (y:=(⟨"java/lang/StringBuilder","append","(Ljava/lang/String;)Ljava/lang/StringBuilder;"⟩ : MethodName)) (oW hw 210 rfl)) HBb.1.1 (oW hw 16 rfl) (oW hw 211 rfl) (W:=0) (g:=(mkF m 126 #[vr te,vr nm,vr sr,vr el,vi 0] [(.ref sr),(.ref sb)])) rfl (by rw [hml]; rfl) (argsL:=[(.ref sr)]) (rest:=[]) (lenOf own_pd58 rfl) rfl (dE hby D65 19 rfl) rfl rfl (by decide) (by decide)
  have N21:=Fr.app N12 N21q
  refine oS st21 ?_
  have z22:=K21_.1
  have O23:=Old.keep O15 K21_ (allS (by omega) (allS (by omega) all0))
  have K24:=K16.trans K21_ (allS (Or.inl (by simp)) (allS (Or.inl (by simp)) all0))
  show gH (T21.setTop (mkF m 129 #[vr te,vr nm,vr sr,vr el,vi 0] [(.ref sb)])) ..
  refine oS (fun _=>XS.bipush X21.here hx rfl (dE hby D65 20 rfl)) ?_
  obtain ⟨_,T25,L25,X25,⟨rfl,N25q,K25_,HBd⟩,st25⟩:=own_cV X21 hx hZ hown (own_sacL l Z a0 hw [] sb (10:Int32) bv kb ((es++[(32:Int32)])++ds) w1 fm T21.heap O23 S1 hw1 US SF hfm gs (by omega) (show @Ne Nat sb bv by omega) (by rw [List.length_append,List.length_append]; show es.length+1+_ < _; omega) (by decide) HBc) (oW hw 291 rfl) (oW hw 292 rfl) (oW hw 294 rfl) (oW hw 293 rfl) (own_clsP (y:=(⟨"java/lang/StringBuilder","append","(C)Ljava/lang/StringBuilder;"⟩ : MethodName)) (oW hw 294 rfl)) HBc.1.1 (oW hw 16 rfl) (oW hw 295 rfl) (W:=0) (g:=(mkF m 131 #[vr te,vr nm,vr sr,vr el,vi 0] [(.int 10),(.ref sb)])) rfl (by rw [hml]; rfl) (argsL:=[(.int 10)]) (rest:=[]) (lenOf own_pd59 rfl) rfl (dE hby D65 21 rfl) rfl rfl (by decide) (by decide)
  have N25:=Fr.app N21 N25q
  refine oS st25 ?_
  have z26:=K25_.1
  have O27:=Old.keep O23 K25_ (allS (by omega) (allS (by omega) all0))
  have K28:=K24.trans K25_ (allS (Or.inl (by simp)) (allS (Or.inl (by simp)) all0))
  show gH (T25.setTop (mkF m 134 #[vr te,vr nm,vr sr,vr el,vi 0] [(.ref sb)])) ..
  refine oS (fun _=>XS.pop X25.here hx rfl (dE hby D65 22 rfl) rfl rfl) ?_
  show gH (T25.setTop (mkF m 135 #[vr te,vr nm,vr sr,vr el,vi 0] [])) ..
  exact own_ret0 X25 hx hret hlk (dE hby D65 23 rfl) ⟨rfl,N25,K28,HBd⟩ (by decide) (by decide)
def L66 : List (Nat × Instr × Nat):=[(0,.aload_n 0,1),(1,.aload_n 1,1),(2,.lload_n 2,1),(3,.invokestatic 49,3),(6,.aload 4,2),(8,.invokestatic 55,3),(11,.invokevirtual 61,3),(14,.return_,1)]
theorem D66 : ∀ q∈L66,decode prog_24_method_3_code q.1 = .ok q.2:=by decide +kernel
theorem own_pd60 : parseMethodDescriptor "(J)Ljava/lang/String;" = some ⟨[.long],some (.object "java/lang/String")⟩:=by decide +kernel
theorem own_pd61 : parseMethodDescriptor "([Ljava/lang/Object;)Ljava/util/List;" = some ⟨[(.array (.object "java/lang/Object"))],some (.object "java/util/List")⟩:=by decide +kernel
theorem own_pd62 : parseMethodDescriptor "(Ljava/lang/String;Ljava/lang/String;Ljava/util/List;)V" = some ⟨[(.object "java/lang/String"),(.object "java/lang/String"),(.object "java/util/List")],none⟩:=by decide +kernel
theorem own_sj3L (l:Launch) (Z:State) (a0:Array Value) (hw:∀ d∈tables_1,d.before a0 Z = true) (ws:List Jvm.Cond) (te:Addr) (nm:Addr) (x:Int64) (a4:Addr) (sb bv tn ea el dg : Addr) (kb ktn kea ka kdg : ClassId) (es ds : List Int32) (w1:Int32) (fm:Value) (h0:Heap) (O0:Old Z Z.heap.size h0) (S1:Sta Z Z.heap "java/lang/String" "COMPACT_STRINGS" "Z" (.int w1)) (hw1:¬ (w1 = (0:Int32))) (US:own_US Z) (SF:Sta Z Z.heap "jdk/internal/util/Preconditions" "SIOOBE_FORMATTER" "Ljava/util/function/BiFunction;" fm) (hfm:fm = .null ∨ ∃ a,fm = .ref a) (SE:Sta Z Z.heap "java/util/ImmutableCollections" "EMPTY_LIST" "Ljava/util/ImmutableCollections$ListN;" (.ref el)) (Ee:Exa Z Z.heap el "java/util/ImmutableCollections$ListN") (Fe:Fld Z Z.heap el "java/util/ImmutableCollections$ListN" "elements" "[Ljava/lang/Object;" (.ref ea)) (Ve:Arv Z Z.heap ea kea (.object "java/lang/Object") (0:Int32) [] .null) (SD:Sta Z Z.heap "java/lang/Integer" "DigitOnes" "[B" (.ref dg)) (Dg:Arv Z Z.heap dg kdg .byte (Int32.ofNat 100) (oV own_dig 100) (.int 0)) (gs:Z.heap.size≤sb) (gb:Z.heap.size≤bv) (nsb:@Ne Nat sb bv) (ntb:@Ne Nat tn bv) (nts:@Ne Nat tn sb) (nas:@Ne Nat nm sb) (nab:@Ne Nat nm bv) (nes:@Ne Nat te sb) (neb:@Ne Nat te bv) (hes:es.length = 2) (hnum:own_num x ds) (Et:Exa Z h0 te "com/example/sluse/sluse/TextExposition") (Ft:Fld Z h0 te "com/example/sluse/sluse/TextExposition" "text" "Ljava/lang/StringBuilder;" (.ref sb)) (HB:own_SBL Z h0 sb bv kb []) (Hn:own_StL Z h0 nm tn ktn es) (Va:Arv Z h0 a4 ka (.object "java/lang/String") (0:Int32) [] .null) :
    own_Met l Z (⟨"com/example/sluse/sluse/TextExposition","sample","(Ljava/lang/String;J[Ljava/lang/String;)V"⟩ : MethodName) prog_24_method_3_code 5 none ws (⟨11,3,38,240⟩ : Room) #[(.ref te),(.ref nm),(.long x),(.ref a4)] h0 (fun v h L=>v = none∧Fr Z.heap.size L∧Keep h0 h [sb,bv]∧own_SBL Z h sb bv kb (((es++[(32:Int32)])++ds)++[(10:Int32)])) 3 38:=by
  refine own_bodyA (ef:=fun m=>mkF m 0 #[.val (.ref te),.val (.ref nm),.val (.long x),.second,.val (.ref a4)] []) (plainFor_of_name own_pn13) ?_
  intro p e s m below meth c T0 hx hZ hby hml hown hnm hret hlk X0 e0
  have N0:=Fr.nil Z.heap.size
  have z0 : Z.heap.size≤h0.size:=O0.2.1
  have Kr:=Keep.refl h0 [sb,bv]
  show gH (T0.setTop (mkF m 0 #[vr te,vr nm,.val (.long x),.second,vr a4] [])) ..
  have lt_te:=oL Ft.lt
  have lt_sb:=oL HB.1.1.lt
  have lt_bv:=oL HB.2.lt
  have lt_nm:=oL Hn.1.lt
  have lt_tn:=oL Hn.2.2.2.lt
  have lt_a4:=oL Va.lt
  refine oS (fun _=>XS.aloadN X0.here hx rfl (dE hby D66 0 rfl) rfl rfl) ?_
  refine oS (fun _=>XS.aloadN X0.here hx rfl (dE hby D66 1 rfl) rfl rfl) ?_
  refine oS (fun _=>XS.lloadN X0.here hx rfl (dE hby D66 2 rfl) rfl) ?_
  obtain ⟨_,T1,L1,X1,⟨sr,td,ktd,rfl,N1q,K1_,gsr,gtd,Hd⟩,st1⟩:=own_cS X0 hx hZ hown (own_lts l Z a0 hw [] x ds dg kdg w1 h0 O0 S1 hw1 SD Dg hnum) (oW hw 178 rfl) (oW hw 179 rfl) (oW hw 180 rfl) (oW hw 181 rfl) (W:=2) (g:=(mkF m 3 #[vr te,vr nm,.val (.long x),.second,vr a4] [(.long x),(.ref nm),(.ref te)])) rfl (by rw [hml]; rfl) (argsL:=[(.long x)]) (rest:=[(.ref nm),(.ref te)]) (lenOf own_pd60 rfl) rfl (dE hby D66 3 rfl) rfl e0 (by decide) (by decide)
  have N1:=Fr.app N0 N1q
  refine oS st1 ?_
  have z2:=K1_.1
  have O3:=Old.keep O0 K1_ all0
  have K4:=Kr.trans K1_ all0
  show gH (T1.setTop (mkF m 6 #[vr te,vr nm,.val (.long x),.second,vr a4] [(.ref sr),(.ref nm),(.ref te)])) ..
  have Kx:=K1_
  have ltsr:=oL Hd.1.lt
  have lttd:=oL Hd.2.2.2.lt
  refine oS (fun _=>XS.aload X1.here hx rfl (dE hby D66 4 rfl) rfl rfl) ?_
  obtain ⟨_,T5,L5,X5,⟨rfl,N5q,eh5⟩,st5⟩:=own_cS X1 hx hZ hown (own_lof l Z a0 hw [] a4 el ka T1.heap O3 SE (Va.keep Kx nin0)) (oW hw 197 rfl) (oW hw 198 rfl) (oW hw 199 rfl) (oW hw 200 rfl) (W:=3) (g:=(mkF m 8 #[vr te,vr nm,.val (.long x),.second,vr a4] [(.ref a4),(.ref sr),(.ref nm),(.ref te)])) rfl (by rw [hml]; rfl) (argsL:=[(.ref a4)]) (rest:=[(.ref sr),(.ref nm),(.ref te)]) (lenOf own_pd61 rfl) rfl (dE hby D66 5 rfl) rfl rfl (by decide) (by decide)
  have N5:=Fr.app N1 N5q
  refine oS st5 ?_
  have q7:=(Et.keep K1_)
  obtain ⟨_,T6,L6,X6,⟨rfl,N6q,K6_,Q_⟩,st6⟩:=own_cP X5 hx hZ hown (own_smL l Z a0 hw [] te nm sr el sb bv tn td ea kb ktn ktd kea es ds w1 fm T1.heap O3 S1 hw1 US SF hfm Ee Fe Ve gs gb nsb ntb nts nas nab nes neb (show @Ne Nat td bv by omega) (show @Ne Nat td sb by omega) (show @Ne Nat sr sb by omega) (show @Ne Nat sr bv by omega) hes (own_num_len hnum) (fun c hc=>own_r128 (own_num_r hnum c hc)) (Ft.keep Kx nin0) ⟨⟨HB.1.1.keep Kx,(HB.1.2.1.keep Kx nin0),(HB.1.2.2.1.keep Kx nin0),(HB.1.2.2.2.1.keep Kx nin0),(HB.1.2.2.2.2.keep Kx nin0)⟩,(HB.2.keep Kx nin0)⟩ ⟨Hn.1.keep Kx,(Hn.2.1.keep Kx nin0),(Hn.2.2.1.keep Kx nin0),(Hn.2.2.2.keep Kx nin0)⟩ Hd) (oW hw 203 rfl) (oW hw 204 rfl) (own_selP (own_clsI (oW hw 6 rfl)) (Cond.privateMethod_at (oW hw 205 rfl)) (oW hw 204 rfl) (by decide)) (oW hw 205 rfl) q7 (oW hw 7 rfl) (oW hw 206 rfl) (W:=0) (g:=(mkF m 11 #[vr te,vr nm,.val (.long x),.second,vr a4] [(.ref el),(.ref sr),(.ref nm),(.ref te)])) rfl (by rw [hml]; rfl) (argsL:=[(.ref nm),(.ref sr),(.ref el)]) (rest:=[]) (lenOf own_pd62 rfl) rfl (dE hby D66 6 rfl) rfl eh5 (by decide) (by decide)
  have N6:=Fr.app N5 N6q
  refine oS st6 ?_
  have z8:=K6_.1
  have O9:=Old.keep O3 K6_ (allS (by omega) (allS (by omega) all0))
  have K10:=K4.trans K6_ (allS (Or.inl (by simp)) (allS (Or.inl (by simp)) all0))
  show gH (T6.setTop (mkF m 14 #[vr te,vr nm,.val (.long x),.second,vr a4] [])) ..
  exact own_ret0 X6 hx hret hlk (dE hby D66 7 rfl) ⟨rfl,N6,K10,Q_⟩ (by decide) (by decide)
theorem own_smU (l:Launch) (Z:State) (a0:Array Value) (hw:∀ d∈tables_1,d.before a0 Z = true) (ws:List Jvm.Cond) (te:Addr) (nm:Addr) (sr:Addr) (el:Addr) (sb bv tn td ea : Addr) (kb ktn ktd kea : ClassId) (es ds : List Int32) (w1:Int32) (fm:Value) (h0:Heap) (O0:Old Z Z.heap.size h0) (S1:Sta Z Z.heap "java/lang/String" "COMPACT_STRINGS" "Z" (.int w1)) (hw1:¬ (w1 = (0:Int32))) (US:own_US Z) (SF:Sta Z Z.heap "jdk/internal/util/Preconditions" "SIOOBE_FORMATTER" "Ljava/util/function/BiFunction;" fm) (hfm:fm = .null ∨ ∃ a,fm = .ref a) (Ee:Exa Z Z.heap el "java/util/ImmutableCollections$ListN") (Fe:Fld Z Z.heap el "java/util/ImmutableCollections$ListN" "elements" "[Ljava/lang/Object;" (.ref ea)) (Ve:Arv Z Z.heap ea kea (.object "java/lang/Object") (0:Int32) [] .null) (gs:Z.heap.size≤sb) (gb:Z.heap.size≤bv) (nsb:@Ne Nat sb bv) (ntb:@Ne Nat tn bv) (nts:@Ne Nat tn sb) (nas:@Ne Nat nm sb) (nab:@Ne Nat nm bv) (nes:@Ne Nat te sb) (neb:@Ne Nat te bv) (mtb:@Ne Nat td bv) (mts:@Ne Nat td sb) (mas:@Ne Nat sr sb) (mab:@Ne Nat sr bv) (hes:es.length = 2) (hds:1≤ds.length∧ds.length < 3) (hdr:∀ c∈ds,0≤c.toInt∧¬ (255:Int32) < c) (Ft:Fld Z h0 te "com/example/sluse/sluse/TextExposition" "text" "Ljava/lang/StringBuilder;" (.ref sb)) (HB:own_SBL Z h0 sb bv kb []) (Hn:own_StU Z h0 nm tn ktn es) (Hd:own_StL Z h0 sr td ktd ds) :
    own_Met l Z (⟨"com/example/sluse/sluse/TextExposition","sample","(Ljava/lang/String;Ljava/lang/String;Ljava/util/List;)V"⟩ : MethodName) prog_24_method_6_code 5 none ws (⟨10,1,32,210⟩ : Room) #[(.ref te),(.ref nm),(.ref sr),(.ref el)] h0 (fun v h L=>v = none∧Fr Z.heap.size L∧Keep h0 h [sb]∧∃ d kd,h0.size≤d∧own_SBU Z h sb d kd (((es++[(32:Int32)])++ds)++[(10:Int32)])) 1 32:=by
  refine own_bodyA (ef:=fun m=>mkF m 0 #[.val (.ref te),.val (.ref nm),.val (.ref sr),.val (.ref el),.unset] []) (plainFor_of_name own_pn13) ?_
  intro p e s m below meth c T0 hx hZ hby hml hown hnm hret hlk X0 e0
  have N0:=Fr.nil Z.heap.size
  have z0 : Z.heap.size≤h0.size:=O0.2.1
  have Kr:=Keep.refl h0 [sb]
  show gH (T0.setTop (mkF m 0 #[vr te,vr nm,vr sr,vr el,.unset] [])) ..
  have lt_te:=oL Ft.lt
  have lt_sb:=oL HB.1.1.lt
  have lt_bv:=oL HB.2.lt
  have lt_nm:=oL Hn.1.lt
  have lt_tn:=oL Hn.2.2.2.lt
  have lt_sr:=oL Hd.1.lt
  have lt_td:=oL Hd.2.2.2.lt
  refine oS (fun _=>XS.aloadN X0.here hx rfl (dE hby D65 0 rfl) rfl rfl) ?_
  obtain ⟨T1,X1,e1,st1⟩:=getF X0 hx hZ hown (host:="") (Or.inl (oW hw 33 rfl)) Via.refl e0 Ft (g:=(mkF m 1 #[vr te,vr nm,vr sr,vr el,.unset] [(.ref te)])) rfl rfl (dE hby D65 1 rfl)
  refine oS st1 ?_
  show gH (T1.setTop (mkF m 4 #[vr te,vr nm,vr sr,vr el,.unset] [(.ref sb)])) ..
  refine oS (fun _=>XS.aloadN X1.here hx rfl (dE hby D65 2 rfl) rfl rfl) ?_
  obtain ⟨_,T2,L2,X2,⟨rfl,N2q,K2_,d,kd,gd,HBa⟩,st2⟩:=own_cV X1 hx hZ hown (own_sap0U l Z a0 hw [] sb nm tn bv ktn kb es w1 fm h0 O0 S1 hw1 US SF hfm gs gb nsb ntb nts nas nab (by omega) Hn HB.1 HB.2) (oW hw 207 rfl) (oW hw 208 rfl) (oW hw 210 rfl) (oW hw 209 rfl) (own_clsP (y:=(⟨"java/lang/StringBuilder","append","(Ljava/lang/String;)Ljava/lang/StringBuilder;"⟩ : MethodName)) (oW hw 210 rfl)) HB.1.1 (oW hw 16 rfl) (oW hw 211 rfl) (W:=0) (g:=(mkF m 5 #[vr te,vr nm,vr sr,vr el,.unset] [(.ref nm),(.ref sb)])) rfl (by rw [hml]; rfl) (argsL:=[(.ref nm)]) (rest:=[]) (lenOf own_pd58 rfl) rfl (dE hby D65 3 rfl) rfl e1 (by decide) (by decide)
  have N2:=Fr.app N0 N2q
  refine oS st2 ?_
  have z3:=K2_.1
  have O4:=Old.keep O0 K2_ (allS (by omega) all0)
  have K5:=Kr.trans K2_ (allS (Or.inl (by simp)) all0)
  show gH (T2.setTop (mkF m 8 #[vr te,vr nm,vr sr,vr el,.unset] [(.ref sb)])) ..
  have ltd:=oL HBa.2.lt
  have HBa : own_SBU Z T2.heap sb d kd es:=HBa
  refine oS (fun _=>XS.pop X2.here hx rfl (dE hby D65 4 rfl) rfl rfl) ?_
  refine oS (fun _=>XS.iconst X2.here hx rfl (dE hby D65 5 rfl)) ?_
  refine oS (fun _=>XS.istore X2.here hx rfl (dE hby D65 6 rfl) rfl (l':=#[vr te,vr nm,vr sr,vr el,vi 0]) rfl) ?_
  refine oS (fun _=>XS.iload X2.here hx rfl (dE hby D65 7 rfl) rfl) ?_
  refine oS (fun _=>XS.aloadN X2.here hx rfl (dE hby D65 8 rfl) rfl rfl) ?_
  show gH (T2.setTop (mkF m 15 #[vr te,vr nm,vr sr,vr el,vi 0] [(.ref el),(.int 0)])) ..
  have q7:=Ee.ext O4.2
  obtain ⟨cq6,kq6,q6a,q6b,q6c⟩:=isOf hZ rfl q7
  obtain ⟨_,_,⟨T6,L6,k6,n6⟩,-,X6,⟨Lc6,hQ6,l6,y6,z6⟩,st6⟩:=X2.interfaceBack hx (xi:=(⟨"java/util/List","size","()I"⟩ : MethodName)) (y:=(⟨"java/util/ImmutableCollections$ListN","size","()I"⟩ : MethodName)) hown (mvT hZ (oW hw 271 rfl)) (mvT hZ (oW hw 272 rfl)) (mvT hZ (oW hw 273 rfl)) (mvT hZ (oW hw 274 rfl)) (mvT hZ (oW hw 275 rfl)) (mvT hZ (oW hw 276 rfl)) (mvT hZ (oW hw 277 rfl)) (mvT hZ (oW hw 278 rfl)) (by decide) (own_back (rm:=(⟨0,0,0,0⟩ : Room)) (W:=1) (own_lnsize l Z a0 hw [] el ea kea T2.heap O4 Fe Ve) hZ (oW hw 280 rfl) (oW hw 279 rfl) (by decide) (by decide)) q6a q6b q6c (g:=(mkF m 15 #[vr te,vr nm,vr sr,vr el,vi 0] [(.ref el),(.int 0)])) rfl (by rw [hml]; rfl) (Steps.refl _) (argsL:=[]) (rest:=[(.int 0)]) (lenOf own_pd15 rfl) rfl (by show 2 * 0+_≤_; exact Nat.le_of_eq rfl) (dE hby D65 9 rfl) (fun _ _=>⟨rfl,rfl,(by decide : 0+1+0≤_),(by decide : 0+32+0≤_)⟩)
  dsimp only [Pt.U,Pt.locs,Pt.cells,Pt.slots] at X6 l6 y6 z6 st6 hQ6
  subst l6 y6 z6
  obtain ⟨rfl,N6q,eh6⟩:=hQ6
  have N6:=Fr.app N2 N6q
  refine oT st6 ?_
  show gH (T6.setTop (mkF m 20 #[vr te,vr nm,vr sr,vr el,vi 0] [(.int 0),(.int 0)])) ..
  refine oS (fun _=>XS.icmpYes X6.here hx rfl (pc0:=20) (pc':=97) rfl (dE hby D65 10 rfl) rfl (flt (by decide)).2.1 (by decide) (by decide)) ?_
  refine oS (fun _=>XS.aloadN X6.here hx rfl (dE hby D65 11 rfl) rfl rfl) ?_
  show gH (T6.setTop (mkF m 98 #[vr te,vr nm,vr sr,vr el,vi 0] [(.ref el)])) ..
  have q9:=Ee.ext O4.2
  obtain ⟨cq8,kq8,q8a,q8b,q8c⟩:=isOf hZ eh6 q9
  obtain ⟨_,_,⟨T8,L8,k8,n8⟩,-,X8,⟨Lc8,hQ8,l8,y8,z8⟩,st8⟩:=X6.interfaceBack hx (xi:=(⟨"java/util/List","isEmpty","()Z"⟩ : MethodName)) (y:=(⟨"java/util/ImmutableCollections$ListN","isEmpty","()Z"⟩ : MethodName)) hown (mvT hZ (oW hw 283 rfl)) (mvT hZ (oW hw 284 rfl)) (mvT hZ (oW hw 285 rfl)) (mvT hZ (oW hw 286 rfl)) (mvT hZ (oW hw 287 rfl)) (mvT hZ (oW hw 288 rfl)) (mvT hZ (oW hw 289 rfl)) (mvT hZ (oW hw 278 rfl)) (by decide) (own_back (rm:=(⟨0,0,0,0⟩ : Room)) (W:=0) (own_lnisEmpty l Z a0 hw [] el ea kea T2.heap O4 Fe Ve) hZ (oW hw 290 rfl) (oW hw 279 rfl) (by decide) (by decide)) q8a q8b q8c (g:=(mkF m 98 #[vr te,vr nm,vr sr,vr el,vi 0] [(.ref el)])) rfl (by rw [hml]; rfl) (Steps.refl _) (argsL:=[]) (rest:=[]) (lenOf own_pd22 rfl) rfl (by show 2 * 0+_≤_; exact Nat.le_of_eq rfl) (dE hby D65 12 rfl) (fun _ _=>⟨rfl,eh6,(by decide : 0+1+0+0≤_),(by decide : 0+32+0+0≤_)⟩)
  dsimp only [Pt.U,Pt.locs,Pt.cells,Pt.slots] at X8 l8 y8 z8 st8 hQ8
  subst l8 y8 z8
  obtain ⟨rfl,N8q,eh8⟩:=hQ8
  have N8:=Fr.app N6 N8q
  refine oT st8 ?_
  show gH (T8.setTop (mkF m 103 #[vr te,vr nm,vr sr,vr el,vi 0] [(.int 1)])) ..
  refine oS (fun _=>XS.ifYes X8.here hx rfl (pc0:=103) (pc':=116) rfl (dE hby D65 13 rfl) rfl ((if0 _ _).trans (feq (by decide)).2) (by decide) (by decide)) ?_
  refine oS (fun _=>XS.aloadN X8.here hx rfl (dE hby D65 14 rfl) rfl rfl) ?_
  have q10:=(Ft.keep K2_ (ninS (show @Ne Nat te sb by omega) nin0))
  obtain ⟨T11,X11,e11,st11⟩:=getF X8 hx hZ hown (host:="") (Or.inl (oW hw 33 rfl)) Via.refl eh8 q10 (g:=(mkF m 117 #[vr te,vr nm,vr sr,vr el,vi 0] [(.ref te)])) rfl rfl (dE hby D65 15 rfl)
  refine oS st11 ?_
  show gH (T11.setTop (mkF m 120 #[vr te,vr nm,vr sr,vr el,vi 0] [(.ref sb)])) ..
  refine oS (fun _=>XS.bipush X11.here hx rfl (dE hby D65 16 rfl)) ?_
  have q13:=(HB.1.1.keep K2_)
  obtain ⟨_,T12,L12,X12,⟨rfl,N12q,K12_,HBb⟩,st12⟩:=own_cV X11 hx hZ hown (own_sacU l Z a0 hw [] sb (32:Int32) d kd es w1 fm T2.heap O4 S1 hw1 US SF hfm gs (by omega) (show @Ne Nat sb d by omega) (by omega) (by decide) HBa) (oW hw 291 rfl) (oW hw 292 rfl) (oW hw 294 rfl) (oW hw 293 rfl) (own_clsP (y:=(⟨"java/lang/StringBuilder","append","(C)Ljava/lang/StringBuilder;"⟩ : MethodName)) (oW hw 294 rfl)) q13 (oW hw 16 rfl) (oW hw 295 rfl) (W:=0) (g:=(mkF m 122 #[vr te,vr nm,vr sr,vr el,vi 0] [(.int 32),(.ref sb)])) rfl (by rw [hml]; rfl) (argsL:=[(.int 32)]) (rest:=[]) (lenOf own_pd59 rfl) rfl (dE hby D65 17 rfl) rfl e11 (by decide) (by decide)
  have N12:=Fr.app N8 N12q
  refine oS st12 ?_
  have z14:=K12_.1
  have O15:=Old.keep O4 K12_ (allS (by omega) (allS (by omega) all0))
  have K16:=K5.trans K12_ (allS (Or.inl (by simp)) (allS (Or.inr (by omega)) all0))
  show gH (T12.setTop (mkF m 125 #[vr te,vr nm,vr sr,vr el,vi 0] [(.ref sb)])) ..
  refine oS (fun _=>XS.aloadN X12.here hx rfl (dE hby D65 18 rfl) rfl rfl) ?_
  have q17:=((Hd.1.keep K2_).keep K12_)
  have q18:=((Hd.2.1.keep K2_ (ninS (show @Ne Nat sr sb by omega) nin0)).keep K12_ (ninS (show @Ne Nat sr sb by omega) (ninS (show @Ne Nat sr d by omega) nin0)))
  have q19:=((Hd.2.2.1.keep K2_ (ninS (show @Ne Nat sr sb by omega) nin0)).keep K12_ (ninS (show @Ne Nat sr sb by omega) (ninS (show @Ne Nat sr d by omega) nin0)))
  have q20:=((Hd.2.2.2.keep K2_ (ninS (show @Ne Nat td sb by omega) nin0)).keep K12_ (ninS (show @Ne Nat td sb by omega) (ninS (show @Ne Nat td d by omega) nin0)))
  obtain ⟨_,T21,L21,X21,⟨rfl,N21q,K21_,HBc⟩,st21⟩:=own_cV X12 hx hZ hown (own_sapUL l Z a0 hw [] sb sr td d ktd kd (es++[(32:Int32)]) ds w1 fm T12.heap O15 S1 hw1 US SF hfm gs (by omega) (show @Ne Nat sb d by omega) (show @Ne Nat td d by omega) mts mas (show @Ne Nat sr d by omega) (by rw [List.length_append]; show es.length+1 < _; omega) hds.2 (by rw [List.length_append]; show es.length+1+_≤_; omega) hdr ⟨q17,q18,q19,q20⟩ HBb.1 HBb.2) (oW hw 207 rfl) (oW hw 208 rfl) (oW hw 210 rfl) (oW hw 209 rfl) (own_clsP (y:=(⟨"java/lang/StringBuilder","append","(Ljava/lang/String;)Ljava/lang/StringBuilder;"⟩ : MethodName)) (oW hw 210 rfl)) HBb.1.1 (oW hw 16 rfl) (oW hw 211 rfl) (W:=0) (g:=(mkF m 126 #[vr te,vr nm,vr sr,vr el,vi 0] [(.ref sr),(.ref sb)])) rfl (by rw [hml]; rfl) (argsL:=[(.ref sr)]) (rest:=[]) (lenOf own_pd58 rfl) rfl (dE hby D65 19 rfl) rfl rfl (by decide) (by decide)
  have N21:=Fr.app N12 N21q
  refine oS st21 ?_
  have z22:=K21_.1
  have O23:=Old.keep O15 K21_ (allS (by omega) (allS (by omega) all0))
  have K24:=K16.trans K21_ (allS (Or.inl (by simp)) (allS (Or.inr (by omega)) all0))
  show gH (T21.setTop (mkF m 129 #[vr te,vr nm,vr sr,vr el,vi 0] [(.ref sb)])) ..
  refine oS (fun _=>XS.bipush X21.here hx rfl (dE hby D65 20 rfl)) ?_
  obtain ⟨_,T25,L25,X25,⟨rfl,N25q,K25_,HBd⟩,st25⟩:=own_cV X21 hx hZ hown (own_sacU l Z a0 hw [] sb (10:Int32) d kd ((es++[(32:Int32)])++ds) w1 fm T21.heap O23 S1 hw1 US SF hfm gs (by omega) (show @Ne Nat sb d by omega) (by rw [List.length_append,List.length_append]; show es.length+1+_ < _; omega) (by decide) HBc) (oW hw 291 rfl) (oW hw 292 rfl) (oW hw 294 rfl) (oW hw 293 rfl) (own_clsP (y:=(⟨"java/lang/StringBuilder","append","(C)Ljava/lang/StringBuilder;"⟩ : MethodName)) (oW hw 294 rfl)) HBc.1.1 (oW hw 16 rfl) (oW hw 295 rfl) (W:=0) (g:=(mkF m 131 #[vr te,vr nm,vr sr,vr el,vi 0] [(.int 10),(.ref sb)])) rfl (by rw [hml]; rfl) (argsL:=[(.int 10)]) (rest:=[]) (lenOf own_pd59 rfl) rfl (dE hby D65 21 rfl) rfl rfl (by decide) (by decide)
  have N25:=Fr.app N21 N25q
  refine oS st25 ?_
  have z26:=K25_.1
  have O27:=Old.keep O23 K25_ (allS (by omega) (allS (by omega) all0))
  have K28:=K24.trans K25_ (allS (Or.inl (by simp)) (allS (Or.inr (by omega)) all0))
  show gH (T25.setTop (mkF m 134 #[vr te,vr nm,vr sr,vr el,vi 0] [(.ref sb)])) ..
  refine oS (fun _=>XS.pop X25.here hx rfl (dE hby D65 22 rfl) rfl rfl) ?_
  show gH (T25.setTop (mkF m 135 #[vr te,vr nm,vr sr,vr el,vi 0] [])) ..
  exact own_ret0 X25 hx hret hlk (dE hby D65 23 rfl) ⟨rfl,N25,K28,d,kd,by omega,HBd⟩ (by decide) (by decide)
theorem own_sj3U (l:Launch) (Z:State) (a0:Array Value) (hw:∀ d∈tables_1,d.before a0 Z = true) (ws:List Jvm.Cond) (te:Addr) (nm:Addr) (x:Int64) (a4:Addr) (sb bv tn ea el dg : Addr) (kb ktn kea ka kdg : ClassId) (es ds : List Int32) (w1:Int32) (fm:Value) (h0:Heap) (O0:Old Z Z.heap.size h0) (S1:Sta Z Z.heap "java/lang/String" "COMPACT_STRINGS" "Z" (.int w1)) (hw1:¬ (w1 = (0:Int32))) (US:own_US Z) (SF:Sta Z Z.heap "jdk/internal/util/Preconditions" "SIOOBE_FORMATTER" "Ljava/util/function/BiFunction;" fm) (hfm:fm = .null ∨ ∃ a,fm = .ref a) (SE:Sta Z Z.heap "java/util/ImmutableCollections" "EMPTY_LIST" "Ljava/util/ImmutableCollections$ListN;" (.ref el)) (Ee:Exa Z Z.heap el "java/util/ImmutableCollections$ListN") (Fe:Fld Z Z.heap el "java/util/ImmutableCollections$ListN" "elements" "[Ljava/lang/Object;" (.ref ea)) (Ve:Arv Z Z.heap ea kea (.object "java/lang/Object") (0:Int32) [] .null) (SD:Sta Z Z.heap "java/lang/Integer" "DigitOnes" "[B" (.ref dg)) (Dg:Arv Z Z.heap dg kdg .byte (Int32.ofNat 100) (oV own_dig 100) (.int 0)) (gs:Z.heap.size≤sb) (gb:Z.heap.size≤bv) (nsb:@Ne Nat sb bv) (ntb:@Ne Nat tn bv) (nts:@Ne Nat tn sb) (nas:@Ne Nat nm sb) (nab:@Ne Nat nm bv) (nes:@Ne Nat te sb) (neb:@Ne Nat te bv) (hes:es.length = 2) (hnum:own_num x ds) (Et:Exa Z h0 te "com/example/sluse/sluse/TextExposition") (Ft:Fld Z h0 te "com/example/sluse/sluse/TextExposition" "text" "Ljava/lang/StringBuilder;" (.ref sb)) (HB:own_SBL Z h0 sb bv kb []) (Hn:own_StU Z h0 nm tn ktn es) (Va:Arv Z h0 a4 ka (.object "java/lang/String") (0:Int32) [] .null) :
    own_Met l Z (⟨"com/example/sluse/sluse/TextExposition","sample","(Ljava/lang/String;J[Ljava/lang/String;)V"⟩ : MethodName) prog_24_method_3_code 5 none ws (⟨11,3,38,240⟩ : Room) #[(.ref te),(.ref nm),(.long x),(.ref a4)] h0 (fun v h L=>v = none∧Fr Z.heap.size L∧Keep h0 h [sb]∧∃ d kd,h0.size≤d∧own_SBU Z h sb d kd (((es++[(32:Int32)])++ds)++[(10:Int32)])) 3 38:=by
  refine own_bodyA (ef:=fun m=>mkF m 0 #[.val (.ref te),.val (.ref nm),.val (.long x),.second,.val (.ref a4)] []) (plainFor_of_name own_pn13) ?_
  intro p e s m below meth c T0 hx hZ hby hml hown hnm hret hlk X0 e0
  have N0:=Fr.nil Z.heap.size
  have z0 : Z.heap.size≤h0.size:=O0.2.1
  have Kr:=Keep.refl h0 [sb]
  show gH (T0.setTop (mkF m 0 #[vr te,vr nm,.val (.long x),.second,vr a4] [])) ..
  have lt_te:=oL Ft.lt
  have lt_sb:=oL HB.1.1.lt
  have lt_bv:=oL HB.2.lt
  have lt_nm:=oL Hn.1.lt
  have lt_tn:=oL Hn.2.2.2.lt
  have lt_a4:=oL Va.lt
  refine oS (fun _=>XS.aloadN X0.here hx rfl (dE hby D66 0 rfl) rfl rfl) ?_
  refine oS (fun _=>XS.aloadN X0.here hx rfl (dE hby D66 1 rfl) rfl rfl) ?_
  refine oS (fun _=>XS.lloadN X0.here hx rfl (dE hby D66 2 rfl) rfl) ?_
  obtain ⟨_,T1,L1,X1,⟨sr,td,ktd,rfl,N1q,K1_,gsr,gtd,Hd⟩,st1⟩:=own_cS X0 hx hZ hown (own_lts l Z a0 hw [] x ds dg kdg w1 h0 O0 S1 hw1 SD Dg hnum) (oW hw 178 rfl) (oW hw 179 rfl) (oW hw 180 rfl) (oW hw 181 rfl) (W:=2) (g:=(mkF m 3 #[vr te,vr nm,.val (.long x),.second,vr a4] [(.long x),(.ref nm),(.ref te)])) rfl (by rw [hml]; rfl) (argsL:=[(.long x)]) (rest:=[(.ref nm),(.ref te)]) (lenOf own_pd60 rfl) rfl (dE hby D66 3 rfl) rfl e0 (by decide) (by decide)
  have N1:=Fr.app N0 N1q
  refine oS st1 ?_
  have z2:=K1_.1
  have O3:=Old.keep O0 K1_ all0
  have K4:=Kr.trans K1_ all0
  show gH (T1.setTop (mkF m 6 #[vr te,vr nm,.val (.long x),.second,vr a4] [(.ref sr),(.ref nm),(.ref te)])) ..
  have Kx:=K1_
  have ltsr:=oL Hd.1.lt
  have lttd:=oL Hd.2.2.2.lt
  refine oS (fun _=>XS.aload X1.here hx rfl (dE hby D66 4 rfl) rfl rfl) ?_
  obtain ⟨_,T5,L5,X5,⟨rfl,N5q,eh5⟩,st5⟩:=own_cS X1 hx hZ hown (own_lof l Z a0 hw [] a4 el ka T1.heap O3 SE (Va.keep Kx nin0)) (oW hw 197 rfl) (oW hw 198 rfl) (oW hw 199 rfl) (oW hw 200 rfl) (W:=3) (g:=(mkF m 8 #[vr te,vr nm,.val (.long x),.second,vr a4] [(.ref a4),(.ref sr),(.ref nm),(.ref te)])) rfl (by rw [hml]; rfl) (argsL:=[(.ref a4)]) (rest:=[(.ref sr),(.ref nm),(.ref te)]) (lenOf own_pd61 rfl) rfl (dE hby D66 5 rfl) rfl rfl (by decide) (by decide)
  have N5:=Fr.app N1 N5q
  refine oS st5 ?_
  have q7:=(Et.keep K1_)
  obtain ⟨_,T6,L6,X6,⟨rfl,N6q,K6_,d,kd,gd,Q_⟩,st6⟩:=own_cP X5 hx hZ hown (own_smU l Z a0 hw [] te nm sr el sb bv tn td ea kb ktn ktd kea es ds w1 fm T1.heap O3 S1 hw1 US SF hfm Ee Fe Ve gs gb nsb ntb nts nas nab nes neb (show @Ne Nat td bv by omega) (show @Ne Nat td sb by omega) (show @Ne Nat sr sb by omega) (show @Ne Nat sr bv by omega) hes (own_num_len hnum) (fun c hc=>own_r128 (own_num_r hnum c hc)) (Ft.keep Kx nin0) ⟨⟨HB.1.1.keep Kx,(HB.1.2.1.keep Kx nin0),(HB.1.2.2.1.keep Kx nin0),(HB.1.2.2.2.1.keep Kx nin0),(HB.1.2.2.2.2.keep Kx nin0)⟩,(HB.2.keep Kx nin0)⟩ ⟨Hn.1.keep Kx,(Hn.2.1.keep Kx nin0),(Hn.2.2.1.keep Kx nin0),(Hn.2.2.2.keep Kx nin0)⟩ Hd) (oW hw 203 rfl) (oW hw 204 rfl) (own_selP (own_clsI (oW hw 6 rfl)) (Cond.privateMethod_at (oW hw 205 rfl)) (oW hw 204 rfl) (by decide)) (oW hw 205 rfl) q7 (oW hw 7 rfl) (oW hw 206 rfl) (W:=0) (g:=(mkF m 11 #[vr te,vr nm,.val (.long x),.second,vr a4] [(.ref el),(.ref sr),(.ref nm),(.ref te)])) rfl (by rw [hml]; rfl) (argsL:=[(.ref nm),(.ref sr),(.ref el)]) (rest:=[]) (lenOf own_pd62 rfl) rfl (dE hby D66 6 rfl) rfl eh5 (by decide) (by decide)
  have N6:=Fr.app N5 N6q
  refine oS st6 ?_
  have z8:=K6_.1
  have O9:=Old.keep O3 K6_ (allS (by omega) all0)
  have K10:=K4.trans K6_ (allS (Or.inl (by simp)) all0)
  show gH (T6.setTop (mkF m 14 #[vr te,vr nm,.val (.long x),.second,vr a4] [])) ..
  exact own_ret0 X6 hx hret hlk (dE hby D66 7 rfl) ⟨rfl,N6,K10,d,kd,by omega,Q_⟩ (by decide) (by decide)
theorem own_pn63 : plainName "com/example/sluse/sluse/TextExpositionBytesPinLaw" = true:=by first | (simp [plainName,overriddenIn]; done) | decide +kernel
def L67 : List (Nat × Instr × Nat):=[(0,.iload_n 3,1),(1,.iload_n 2,1),(2,.if_icmp .ge 12,3),(5,.aload_n 0,1),(6,.iload_n 3,1),(7,.baload,1),(8,.aload_n 1,1),(9,.iload_n 3,1),(10,.baload,1),(11,.if_icmp .ne 7,3),(14,.iconst 1,1),(15,.goto 4,3),(19,.ireturn,1)]
theorem D67 : ∀ q∈L67,decode method_4_code q.1 = .ok q.2:=by decide +kernel
theorem own_atB (l:Launch) (Z:State) (a0:Array Value) (hw:∀ d∈tables_1,d.before a0 Z = true) (ws:List Jvm.Cond) (g:Addr) (x1:Addr) (i:Nat) (bs:List Value) (kg kx : ClassId) (h0:Heap) (O0:Old Z Z.heap.size h0) (hi:i < 10) (hbs:bs.length≤10) (hall:∀ j,j < bs.length→∃ z : Int32,bs.getD j (.int 0) = .int z) (Vg:Arv Z h0 g kg .byte (Int32.ofNat bs.length) bs (.int 0)) (Vx:Arv Z h0 x1 kx .byte (Int32.ofNat 10) bs (.int 0)) :
    own_Met l Z (⟨"com/example/sluse/sluse/TextExpositionBytesPinLaw","at","([B[BII)Z"⟩ : MethodName) method_4_code 4 (some .boolean) ws (⟨0,0,0,0⟩ : Room) #[(.ref g),(.ref x1),(.int (.ofNat bs.length)),(.int (.ofNat i))] h0 (fun v h L=>v = some (.int 1)∧Fr Z.heap.size L∧h = h0) 0 0:=by
  refine own_bodyA (ef:=fun m=>mkF m 0 #[.val (.ref g),.val (.ref x1),.val (.int (Int32.ofNat bs.length)),.val (.int (Int32.ofNat i))] []) (plainFor_of_name own_pn63) ?_
  intro p e s m below meth c T0 hx hZ hby hml hown hnm hret hlk X0 e0
  have N0:=Fr.nil Z.heap.size
  have z0 : Z.heap.size≤h0.size:=O0.2.1
  show gH (T0.setTop (mkF m 0 #[vr g,vr x1,vi (.ofNat bs.length),vi (.ofNat i)] [])) ..
  refine oS (fun _=>XS.iloadN X0.here hx rfl (dE hby D67 0 rfl) rfl) ?_
  refine oS (fun _=>XS.iloadN X0.here hx rfl (dE hby D67 1 rfl) rfl) ?_
  show gH (T0.setTop (mkF m 2 #[vr g,vr x1,vi (.ofNat bs.length),vi (.ofNat i)] [(.int (.ofNat bs.length)),(.int (.ofNat i))])) ..
  by_cases hlt : i < bs.length
  · skip
    obtain ⟨z,hz⟩ : ∃ z : Int32,bs.getD i (.int 0) = .int z:=hall i hlt
    refine oS (fun _=>XS.icmpNo X0.here hx rfl (dE hby D67 2 rfl) rfl (tlt (own_lt hlt (by omega))).2.1) ?_
    refine oS (fun _=>XS.aloadN X0.here hx rfl (dE hby D67 3 rfl) rfl rfl) ?_
    refine oS (fun _=>XS.iloadN X0.here hx rfl (dE hby D67 4 rfl) rfl) ?_
    show gH (T0.setTop (mkF m 7 #[vr g,vr x1,vi (.ofNat bs.length),vi (.ofNat i)] [(.int (.ofNat i)),(.ref g)])) ..
    obtain ⟨cl1,Ar1,qk1,Sz1,Mz1,Hz1,Uz1⟩:=id Vg
    refine oS (X0.baloadBytes hx (j:=(Int32.ofNat i)) (v:=(.int z)) (by rw [e0]; exact Ar1.1) (State.isArrayOf_alike hZ.alike Ar1.2.1) Ar1.2.2 (oI Sz1 hlt (by omega)) (oR Sz1 Hz1 hlt (by omega) hz) (g:=(mkF m 7 #[vr g,vr x1,vi (.ofNat bs.length),vi (.ofNat i)] [(.int (.ofNat i)),(.ref g)])) rfl rfl (dE hby D67 5 rfl)) ?_
    show gH (T0.setTop (mkF m 8 #[vr g,vr x1,vi (.ofNat bs.length),vi (.ofNat i)] [(.int z)])) ..
    refine oS (fun _=>XS.aloadN X0.here hx rfl (dE hby D67 6 rfl) rfl rfl) ?_
    refine oS (fun _=>XS.iloadN X0.here hx rfl (dE hby D67 7 rfl) rfl) ?_
    show gH (T0.setTop (mkF m 10 #[vr g,vr x1,vi (.ofNat bs.length),vi (.ofNat i)] [(.int (.ofNat i)),(.ref x1),(.int z)])) ..
    obtain ⟨cl2,Ar2,qk2,Sz2,Mz2,Hz2,Uz2⟩:=id Vx
    refine oS (X0.baloadBytes hx (j:=(Int32.ofNat i)) (v:=(.int z)) (by rw [e0]; exact Ar2.1) (State.isArrayOf_alike hZ.alike Ar2.2.1) Ar2.2.2 (oI (n:=10) Sz2 hi (by decide)) (oR (n:=10) Sz2 Hz2 hi (by decide) hz) (g:=(mkF m 10 #[vr g,vr x1,vi (.ofNat bs.length),vi (.ofNat i)] [(.int (.ofNat i)),(.ref x1),(.int z)])) rfl rfl (dE hby D67 8 rfl)) ?_
    show gH (T0.setTop (mkF m 11 #[vr g,vr x1,vi (.ofNat bs.length),vi (.ofNat i)] [(.int z),(.int z)])) ..
    refine oS (fun _=>XS.icmpNo X0.here hx rfl (dE hby D67 9 rfl) rfl (teq rfl).2) ?_
    refine oS (fun _=>XS.iconst X0.here hx rfl (dE hby D67 10 rfl)) ?_
    refine oS (fun _=>XS.goto X0.here hx rfl (pc0:=15) (pc':=19) rfl (dE hby D67 11 rfl) (by decide) (by decide)) ?_
    show gH (T0.setTop (mkF m 19 #[vr g,vr x1,vi (.ofNat bs.length),vi (.ofNat i)] [(.int 1)])) ..
    exact own_retN X0 hx hret hlk (by simp) (dE hby D67 12 rfl) (by rw [e0]; exact ⟨rfl,N0,rfl⟩) (by decide) (by decide)
  · skip
    refine oS (fun _=>XS.icmpYes X0.here hx rfl (pc0:=2) (pc':=14) rfl (dE hby D67 2 rfl) rfl (flt (own_nlt2 (by omega) (by omega))).2.1 (by decide) (by decide)) ?_
    refine oS (fun _=>XS.iconst X0.here hx rfl (dE hby D67 10 rfl)) ?_
    refine oS (fun _=>XS.goto X0.here hx rfl (pc0:=15) (pc':=19) rfl (dE hby D67 11 rfl) (by decide) (by decide)) ?_
    show gH (T0.setTop (mkF m 19 #[vr g,vr x1,vi (.ofNat bs.length),vi (.ofNat i)] [(.int 1)])) ..
    exact own_retN X0 hx hret hlk (by simp) (dE hby D67 12 rfl) (by rw [e0]; exact ⟨rfl,N0,rfl⟩) (by decide) (by decide)
def L68 : List (Nat × Instr × Nat):=[(0,.aload_n 0,1),(1,.arraylength,1),(2,.iload_n 2,1),(3,.if_icmp .eq 5,3),(8,.aload_n 0,1),(9,.aload_n 1,1),(10,.iload_n 2,1),(11,.iconst 0,1),(12,.invokestatic 9,3),(15,.ifCond .eq 101,3),(18,.aload_n 0,1),(19,.aload_n 1,1),(20,.iload_n 2,1),(21,.iconst 1,1),(22,.invokestatic 9,3),(25,.ifCond .eq 91,3),(28,.aload_n 0,1),(29,.aload_n 1,1),(30,.iload_n 2,1),(31,.iconst 2,1),(32,.invokestatic 9,3),(35,.ifCond .eq 81,3),(38,.aload_n 0,1),(39,.aload_n 1,1),(40,.iload_n 2,1),(41,.iconst 3,1),(42,.invokestatic 9,3),(45,.ifCond .eq 71,3),(48,.aload_n 0,1),(49,.aload_n 1,1),(50,.iload_n 2,1),(51,.iconst 4,1),(52,.invokestatic 9,3),(55,.ifCond .eq 61,3),(58,.aload_n 0,1),(59,.aload_n 1,1),(60,.iload_n 2,1),(61,.iconst 5,1),(62,.invokestatic 9,3),(65,.ifCond .eq 51,3),(68,.aload_n 0,1),(69,.aload_n 1,1),(70,.iload_n 2,1),(71,.bipush 6,2),(73,.invokestatic 9,3),(76,.ifCond .eq 40,3),(79,.aload_n 0,1),(80,.aload_n 1,1),(81,.iload_n 2,1),(82,.bipush 7,2),(84,.invokestatic 9,3),(87,.ifCond .eq 29,3),(90,.aload_n 0,1),(91,.aload_n 1,1),(92,.iload_n 2,1),(93,.bipush 8,2),(95,.invokestatic 9,3),(98,.ifCond .eq 18,3),(101,.aload_n 0,1),(102,.aload_n 1,1),(103,.iload_n 2,1),(104,.bipush 9,2),(106,.invokestatic 9,3),(109,.ifCond .eq 7,3),(112,.iconst 1,1),(113,.goto 4,3),(117,.ireturn,1)]
theorem D68 : ∀ q∈L68,decode method_5_code q.1 = .ok q.2:=by decide +kernel
theorem own_pd64 : parseMethodDescriptor "([B[BII)Z" = some ⟨[(.array .byte),(.array .byte),.int,.int],some .boolean⟩:=by decide +kernel
theorem own_sameB (l:Launch) (Z:State) (a0:Array Value) (hw:∀ d∈tables_1,d.before a0 Z = true) (ws:List Jvm.Cond) (g:Addr) (x1:Addr) (bs:List Value) (kg kx : ClassId) (h0:Heap) (O0:Old Z Z.heap.size h0) (hbs:bs.length≤10) (hall:∀ j,j < bs.length→∃ z : Int32,bs.getD j (.int 0) = .int z) (Vg:Arv Z h0 g kg .byte (Int32.ofNat bs.length) bs (.int 0)) (Vx:Arv Z h0 x1 kx .byte (Int32.ofNat 10) bs (.int 0)) :
    own_Met l Z (⟨"com/example/sluse/sluse/TextExpositionBytesPinLaw","same","([B[BI)Z"⟩ : MethodName) method_5_code 3 (some .boolean) ws (⟨1,0,0,20⟩ : Room) #[(.ref g),(.ref x1),(.int (.ofNat bs.length))] h0 (fun v h L=>v = some (.int 1)∧Fr Z.heap.size L∧h = h0) 0 0:=by
  refine own_bodyA (ef:=fun m=>mkF m 0 #[.val (.ref g),.val (.ref x1),.val (.int (Int32.ofNat bs.length))] []) (plainFor_of_name own_pn63) ?_
  intro p e s m below meth c T0 hx hZ hby hml hown hnm hret hlk X0 e0
  have N0:=Fr.nil Z.heap.size
  show gH (T0.setTop (mkF m 0 #[vr g,vr x1,vi (.ofNat bs.length)] [])) ..
  refine oS (fun _=>XS.aloadN X0.here hx rfl (dE hby D68 0 rfl) rfl rfl) ?_
  show gH (T0.setTop (mkF m 1 #[vr g,vr x1,vi (.ofNat bs.length)] [(.ref g)])) ..
  obtain ⟨cl1,Ar1,qk1,Sz1,Mz1,Hz1,Uz1⟩:=id Vg
  refine oS (X0.arraylength hx (by rw [e0]; exact Ar1.1) (State.isArrayOf_alike hZ.alike Ar1.2.1) (g:=(mkF m 1 #[vr g,vr x1,vi (.ofNat bs.length)] [(.ref g)])) rfl rfl (dE hby D68 1 rfl)) ?_
  rw [len_of Sz1 Mz1]
  show gH (T0.setTop (mkF m 2 #[vr g,vr x1,vi (.ofNat bs.length)] [(.int (.ofNat bs.length))])) ..
  refine oS (fun _=>XS.iloadN X0.here hx rfl (dE hby D68 2 rfl) rfl) ?_
  refine oS (fun _=>XS.icmpYes X0.here hx rfl (pc0:=3) (pc':=8) rfl (dE hby D68 3 rfl) rfl (teq rfl).1 (by decide) (by decide)) ?_
  refine oS (fun _=>XS.aloadN X0.here hx rfl (dE hby D68 4 rfl) rfl rfl) ?_
  refine oS (fun _=>XS.aloadN X0.here hx rfl (dE hby D68 5 rfl) rfl rfl) ?_
  refine oS (fun _=>XS.iloadN X0.here hx rfl (dE hby D68 6 rfl) rfl) ?_
  refine oS (fun _=>XS.iconst X0.here hx rfl (dE hby D68 7 rfl)) ?_
  obtain ⟨_,T2,L2,X2,⟨rfl,N2q,eh2⟩,st2⟩:=own_cS X0 hx hZ hown (own_atB l Z a0 hw [] g x1 0 bs kg kx h0 O0 (by decide) hbs hall Vg Vx) (oW hw 343 rfl) (oW hw 344 rfl) (oW hw 341 rfl) (oW hw 345 rfl) (W:=0) (g:=(mkF m 12 #[vr g,vr x1,vi (.ofNat bs.length)] [(.int 0),(.int (.ofNat bs.length)),(.ref x1),(.ref g)])) rfl (by rw [hml]; rfl) (argsL:=[(.ref g),(.ref x1),(.int (.ofNat bs.length)),(.int 0)]) (rest:=[]) (lenOf own_pd64 rfl) rfl (dE hby D68 8 rfl) rfl e0 (by decide) (by decide)
  have N2:=Fr.app N0 N2q
  refine oS st2 ?_
  show gH (T2.setTop (mkF m 15 #[vr g,vr x1,vi (.ofNat bs.length)] [(.int 1)])) ..
  refine oS (fun _=>XS.ifNo X2.here hx rfl (dE hby D68 9 rfl) rfl ((if0 _ _).trans (feq (by decide)).1)) ?_
  refine oS (fun _=>XS.aloadN X2.here hx rfl (dE hby D68 10 rfl) rfl rfl) ?_
  refine oS (fun _=>XS.aloadN X2.here hx rfl (dE hby D68 11 rfl) rfl rfl) ?_
  refine oS (fun _=>XS.iloadN X2.here hx rfl (dE hby D68 12 rfl) rfl) ?_
  refine oS (fun _=>XS.iconst X2.here hx rfl (dE hby D68 13 rfl)) ?_
  obtain ⟨_,T3,L3,X3,⟨rfl,N3q,eh3⟩,st3⟩:=own_cS X2 hx hZ hown (own_atB l Z a0 hw [] g x1 1 bs kg kx h0 O0 (by decide) hbs hall Vg Vx) (oW hw 343 rfl) (oW hw 344 rfl) (oW hw 341 rfl) (oW hw 345 rfl) (W:=0) (g:=(mkF m 22 #[vr g,vr x1,vi (.ofNat bs.length)] [(.int 1),(.int (.ofNat bs.length)),(.ref x1),(.ref g)])) rfl (by rw [hml]; rfl) (argsL:=[(.ref g),(.ref x1),(.int (.ofNat bs.length)),(.int 1)]) (rest:=[]) (lenOf own_pd64 rfl) rfl (dE hby D68 14 rfl) rfl eh2 (by decide) (by decide)
  have N3:=Fr.app N2 N3q
  refine oS st3 ?_
  show gH (T3.setTop (mkF m 25 #[vr g,vr x1,vi (.ofNat bs.length)] [(.int 1)])) ..
  refine oS (fun _=>XS.ifNo X3.here hx rfl (dE hby D68 15 rfl) rfl ((if0 _ _).trans (feq (by decide)).1)) ?_
  refine oS (fun _=>XS.aloadN X3.here hx rfl (dE hby D68 16 rfl) rfl rfl) ?_
  refine oS (fun _=>XS.aloadN X3.here hx rfl (dE hby D68 17 rfl) rfl rfl) ?_
  refine oS (fun _=>XS.iloadN X3.here hx rfl (dE hby D68 18 rfl) rfl) ?_
  refine oS (fun _=>XS.iconst X3.here hx rfl (dE hby D68 19 rfl)) ?_
  obtain ⟨_,T4,L4,X4,⟨rfl,N4q,eh4⟩,st4⟩:=own_cS X3 hx hZ hown (own_atB l Z a0 hw [] g x1 2 bs kg kx h0 O0 (by decide) hbs hall Vg Vx) (oW hw 343 rfl) (oW hw 344 rfl) (oW hw 341 rfl) (oW hw 345 rfl) (W:=0) (g:=(mkF m 32 #[vr g,vr x1,vi (.ofNat bs.length)] [(.int 2),(.int (.ofNat bs.length)),(.ref x1),(.ref g)])) rfl (by rw [hml]; rfl) (argsL:=[(.ref g),(.ref x1),(.int (.ofNat bs.length)),(.int 2)]) (rest:=[]) (lenOf own_pd64 rfl) rfl (dE hby D68 20 rfl) rfl eh3 (by decide) (by decide)
  have N4:=Fr.app N3 N4q
  refine oS st4 ?_
  show gH (T4.setTop (mkF m 35 #[vr g,vr x1,vi (.ofNat bs.length)] [(.int 1)])) ..
  refine oS (fun _=>XS.ifNo X4.here hx rfl (dE hby D68 21 rfl) rfl ((if0 _ _).trans (feq (by decide)).1)) ?_
  refine oS (fun _=>XS.aloadN X4.here hx rfl (dE hby D68 22 rfl) rfl rfl) ?_
  refine oS (fun _=>XS.aloadN X4.here hx rfl (dE hby D68 23 rfl) rfl rfl) ?_
  refine oS (fun _=>XS.iloadN X4.here hx rfl (dE hby D68 24 rfl) rfl) ?_
  refine oS (fun _=>XS.iconst X4.here hx rfl (dE hby D68 25 rfl)) ?_
  obtain ⟨_,T5,L5,X5,⟨rfl,N5q,eh5⟩,st5⟩:=own_cS X4 hx hZ hown (own_atB l Z a0 hw [] g x1 3 bs kg kx h0 O0 (by decide) hbs hall Vg Vx) (oW hw 343 rfl) (oW hw 344 rfl) (oW hw 341 rfl) (oW hw 345 rfl) (W:=0) (g:=(mkF m 42 #[vr g,vr x1,vi (.ofNat bs.length)] [(.int 3),(.int (.ofNat bs.length)),(.ref x1),(.ref g)])) rfl (by rw [hml]; rfl) (argsL:=[(.ref g),(.ref x1),(.int (.ofNat bs.length)),(.int 3)]) (rest:=[]) (lenOf own_pd64 rfl) rfl (dE hby D68 26 rfl) rfl eh4 (by decide) (by decide)
  have N5:=Fr.app N4 N5q
  refine oS st5 ?_
  show gH (T5.setTop (mkF m 45 #[vr g,vr x1,vi (.ofNat bs.length)] [(.int 1)])) ..
  refine oS (fun _=>XS.ifNo X5.here hx rfl (dE hby D68 27 rfl) rfl ((if0 _ _).trans (feq (by decide)).1)) ?_
  refine oS (fun _=>XS.aloadN X5.here hx rfl (dE hby D68 28 rfl) rfl rfl) ?_
  refine oS (fun _=>XS.aloadN X5.here hx rfl (dE hby D68 29 rfl) rfl rfl) ?_
  refine oS (fun _=>XS.iloadN X5.here hx rfl (dE hby D68 30 rfl) rfl) ?_
  refine oS (fun _=>XS.iconst X5.here hx rfl (dE hby D68 31 rfl)) ?_
  obtain ⟨_,T6,L6,X6,⟨rfl,N6q,eh6⟩,st6⟩:=own_cS X5 hx hZ hown (own_atB l Z a0 hw [] g x1 4 bs kg kx h0 O0 (by decide) hbs hall Vg Vx) (oW hw 343 rfl) (oW hw 344 rfl) (oW hw 341 rfl) (oW hw 345 rfl) (W:=0) (g:=(mkF m 52 #[vr g,vr x1,vi (.ofNat bs.length)] [(.int 4),(.int (.ofNat bs.length)),(.ref x1),(.ref g)])) rfl (by rw [hml]; rfl) (argsL:=[(.ref g),(.ref x1),(.int (.ofNat bs.length)),(.int 4)]) (rest:=[]) (lenOf own_pd64 rfl) rfl (dE hby D68 32 rfl) rfl eh5 (by decide) (by decide)
  have N6:=Fr.app N5 N6q
  refine oS st6 ?_
  show gH (T6.setTop (mkF m 55 #[vr g,vr x1,vi (.ofNat bs.length)] [(.int 1)])) ..
  refine oS (fun _=>XS.ifNo X6.here hx rfl (dE hby D68 33 rfl) rfl ((if0 _ _).trans (feq (by decide)).1)) ?_
  refine oS (fun _=>XS.aloadN X6.here hx rfl (dE hby D68 34 rfl) rfl rfl) ?_
  refine oS (fun _=>XS.aloadN X6.here hx rfl (dE hby D68 35 rfl) rfl rfl) ?_
  refine oS (fun _=>XS.iloadN X6.here hx rfl (dE hby D68 36 rfl) rfl) ?_
  refine oS (fun _=>XS.iconst X6.here hx rfl (dE hby D68 37 rfl)) ?_
  obtain ⟨_,T7,L7,X7,⟨rfl,N7q,eh7⟩,st7⟩:=own_cS X6 hx hZ hown (own_atB l Z a0 hw [] g x1 5 bs kg kx h0 O0 (by decide) hbs hall Vg Vx) (oW hw 343 rfl) (oW hw 344 rfl) (oW hw 341 rfl) (oW hw 345 rfl) (W:=0) (g:=(mkF m 62 #[vr g,vr x1,vi (.ofNat bs.length)] [(.int 5),(.int (.ofNat bs.length)),(.ref x1),(.ref g)])) rfl (by rw [hml]; rfl) (argsL:=[(.ref g),(.ref x1),(.int (.ofNat bs.length)),(.int 5)]) (rest:=[]) (lenOf own_pd64 rfl) rfl (dE hby D68 38 rfl) rfl eh6 (by decide) (by decide)
  have N7:=Fr.app N6 N7q
  refine oS st7 ?_
  show gH (T7.setTop (mkF m 65 #[vr g,vr x1,vi (.ofNat bs.length)] [(.int 1)])) ..
  refine oS (fun _=>XS.ifNo X7.here hx rfl (dE hby D68 39 rfl) rfl ((if0 _ _).trans (feq (by decide)).1)) ?_
  refine oS (fun _=>XS.aloadN X7.here hx rfl (dE hby D68 40 rfl) rfl rfl) ?_
  refine oS (fun _=>XS.aloadN X7.here hx rfl (dE hby D68 41 rfl) rfl rfl) ?_
  refine oS (fun _=>XS.iloadN X7.here hx rfl (dE hby D68 42 rfl) rfl) ?_
  refine oS (fun _=>XS.bipush X7.here hx rfl (dE hby D68 43 rfl)) ?_
  obtain ⟨_,T8,L8,X8,⟨rfl,N8q,eh8⟩,st8⟩:=own_cS X7 hx hZ hown (own_atB l Z a0 hw [] g x1 6 bs kg kx h0 O0 (by decide) hbs hall Vg Vx) (oW hw 343 rfl) (oW hw 344 rfl) (oW hw 341 rfl) (oW hw 345 rfl) (W:=0) (g:=(mkF m 73 #[vr g,vr x1,vi (.ofNat bs.length)] [(.int 6),(.int (.ofNat bs.length)),(.ref x1),(.ref g)])) rfl (by rw [hml]; rfl) (argsL:=[(.ref g),(.ref x1),(.int (.ofNat bs.length)),(.int 6)]) (rest:=[]) (lenOf own_pd64 rfl) rfl (dE hby D68 44 rfl) rfl eh7 (by decide) (by decide)
  have N8:=Fr.app N7 N8q
  refine oS st8 ?_
  show gH (T8.setTop (mkF m 76 #[vr g,vr x1,vi (.ofNat bs.length)] [(.int 1)])) ..
  refine oS (fun _=>XS.ifNo X8.here hx rfl (dE hby D68 45 rfl) rfl ((if0 _ _).trans (feq (by decide)).1)) ?_
  refine oS (fun _=>XS.aloadN X8.here hx rfl (dE hby D68 46 rfl) rfl rfl) ?_
  refine oS (fun _=>XS.aloadN X8.here hx rfl (dE hby D68 47 rfl) rfl rfl) ?_
  refine oS (fun _=>XS.iloadN X8.here hx rfl (dE hby D68 48 rfl) rfl) ?_
  refine oS (fun _=>XS.bipush X8.here hx rfl (dE hby D68 49 rfl)) ?_
  obtain ⟨_,T9,L9,X9,⟨rfl,N9q,eh9⟩,st9⟩:=own_cS X8 hx hZ hown (own_atB l Z a0 hw [] g x1 7 bs kg kx h0 O0 (by decide) hbs hall Vg Vx) (oW hw 343 rfl) (oW hw 344 rfl) (oW hw 341 rfl) (oW hw 345 rfl) (W:=0) (g:=(mkF m 84 #[vr g,vr x1,vi (.ofNat bs.length)] [(.int 7),(.int (.ofNat bs.length)),(.ref x1),(.ref g)])) rfl (by rw [hml]; rfl) (argsL:=[(.ref g),(.ref x1),(.int (.ofNat bs.length)),(.int 7)]) (rest:=[]) (lenOf own_pd64 rfl) rfl (dE hby D68 50 rfl) rfl eh8 (by decide) (by decide)
  have N9:=Fr.app N8 N9q
  refine oS st9 ?_
  show gH (T9.setTop (mkF m 87 #[vr g,vr x1,vi (.ofNat bs.length)] [(.int 1)])) ..
  refine oS (fun _=>XS.ifNo X9.here hx rfl (dE hby D68 51 rfl) rfl ((if0 _ _).trans (feq (by decide)).1)) ?_
  refine oS (fun _=>XS.aloadN X9.here hx rfl (dE hby D68 52 rfl) rfl rfl) ?_
  refine oS (fun _=>XS.aloadN X9.here hx rfl (dE hby D68 53 rfl) rfl rfl) ?_
  refine oS (fun _=>XS.iloadN X9.here hx rfl (dE hby D68 54 rfl) rfl) ?_
  refine oS (fun _=>XS.bipush X9.here hx rfl (dE hby D68 55 rfl)) ?_
  obtain ⟨_,T10,L10,X10,⟨rfl,N10q,eh10⟩,st10⟩:=own_cS X9 hx hZ hown (own_atB l Z a0 hw [] g x1 8 bs kg kx h0 O0 (by decide) hbs hall Vg Vx) (oW hw 343 rfl) (oW hw 344 rfl) (oW hw 341 rfl) (oW hw 345 rfl) (W:=0) (g:=(mkF m 95 #[vr g,vr x1,vi (.ofNat bs.length)] [(.int 8),(.int (.ofNat bs.length)),(.ref x1),(.ref g)])) rfl (by rw [hml]; rfl) (argsL:=[(.ref g),(.ref x1),(.int (.ofNat bs.length)),(.int 8)]) (rest:=[]) (lenOf own_pd64 rfl) rfl (dE hby D68 56 rfl) rfl eh9 (by decide) (by decide)
  have N10:=Fr.app N9 N10q
  refine oS st10 ?_
  show gH (T10.setTop (mkF m 98 #[vr g,vr x1,vi (.ofNat bs.length)] [(.int 1)])) ..
  refine oS (fun _=>XS.ifNo X10.here hx rfl (dE hby D68 57 rfl) rfl ((if0 _ _).trans (feq (by decide)).1)) ?_
  refine oS (fun _=>XS.aloadN X10.here hx rfl (dE hby D68 58 rfl) rfl rfl) ?_
  refine oS (fun _=>XS.aloadN X10.here hx rfl (dE hby D68 59 rfl) rfl rfl) ?_
  refine oS (fun _=>XS.iloadN X10.here hx rfl (dE hby D68 60 rfl) rfl) ?_
  refine oS (fun _=>XS.bipush X10.here hx rfl (dE hby D68 61 rfl)) ?_
  obtain ⟨_,T11,L11,X11,⟨rfl,N11q,eh11⟩,st11⟩:=own_cS X10 hx hZ hown (own_atB l Z a0 hw [] g x1 9 bs kg kx h0 O0 (by decide) hbs hall Vg Vx) (oW hw 343 rfl) (oW hw 344 rfl) (oW hw 341 rfl) (oW hw 345 rfl) (W:=0) (g:=(mkF m 106 #[vr g,vr x1,vi (.ofNat bs.length)] [(.int 9),(.int (.ofNat bs.length)),(.ref x1),(.ref g)])) rfl (by rw [hml]; rfl) (argsL:=[(.ref g),(.ref x1),(.int (.ofNat bs.length)),(.int 9)]) (rest:=[]) (lenOf own_pd64 rfl) rfl (dE hby D68 62 rfl) rfl eh10 (by decide) (by decide)
  have N11:=Fr.app N10 N11q
  refine oS st11 ?_
  show gH (T11.setTop (mkF m 109 #[vr g,vr x1,vi (.ofNat bs.length)] [(.int 1)])) ..
  refine oS (fun _=>XS.ifNo X11.here hx rfl (dE hby D68 63 rfl) rfl ((if0 _ _).trans (feq (by decide)).1)) ?_
  refine oS (fun _=>XS.iconst X11.here hx rfl (dE hby D68 64 rfl)) ?_
  refine oS (fun _=>XS.goto X11.here hx rfl (pc0:=113) (pc':=117) rfl (dE hby D68 65 rfl) (by decide) (by decide)) ?_
  show gH (T11.setTop (mkF m 117 #[vr g,vr x1,vi (.ofNat bs.length)] [(.int 1)])) ..
  exact own_retN X11 hx hret hlk (by simp) (dE hby D68 66 rfl) (by rw [eh11]; exact ⟨rfl,N11,rfl⟩) (by decide) (by decide)
def L69 : List (Nat × Instr × Nat):=[(0,.iload_n 0,1),(1,.ldc 7,2),(3,.if_icmp .lt 14,3),(17,.iload_n 0,1),(18,.ireturn,1),(6,.iload_n 0,1),(7,.ldc 8,2),(9,.if_icmp .gt 8,3),(12,.iload_n 0,1),(13,.ldc 7,2),(15,.isub,1),(16,.ireturn,1)]
theorem D69 : ∀ q∈L69,decode method_2_code q.1 = .ok q.2:=by decide +kernel
theorem own_plain (l:Launch) (Z:State) (a0:Array Value) (hw:∀ d∈tables_1,d.before a0 Z = true) (ws:List Jvm.Cond) (c0:Int32)  (h0:Heap) (O0:Old Z Z.heap.size h0) (hc:0≤c0.toInt∧c0.toInt < 65536) :
    own_Met l Z (⟨"com/example/sluse/sluse/TextExpositionBytesPinLaw","plain","(I)I"⟩ : MethodName) method_2_code 1 (some .int) ws (⟨0,0,0,0⟩ : Room) #[(.int c0)] h0 (fun v h L=>∃ r : Int32,v = some (.int r)∧Fr Z.heap.size L∧h = h0∧(0≤r.toInt∧r.toInt < 65536)∧¬ own_sur r) 0 0:=by
  refine own_bodyA (ef:=fun m=>mkF m 0 #[.val (.int c0)] []) (plainFor_of_name own_pn63) ?_
  intro p e s m below meth c T0 hx hZ hby hml hown hnm hret hlk X0 e0
  have N0:=Fr.nil Z.heap.size
  have z0 : Z.heap.size≤h0.size:=O0.2.1
  show gH (T0.setTop (mkF m 0 #[vi c0] [])) ..
  refine oS (fun _=>XS.iloadN X0.here hx rfl (dE hby D69 0 rfl) rfl) ?_
  show gH (T0.setTop (mkF m 1 #[vi c0] [(.int c0)])) ..
  refine oS (X0.ldcInt hx hown (mvT hZ (oW hw 0 rfl)) (g:=(mkF m 1 #[vi c0] [(.int c0)])) rfl (dE hby D69 1 rfl)) ?_
  show gH (T0.setTop (mkF m 3 #[vi c0] [(.int 55296),(.int c0)])) ..
  by_cases h1 : c0 < (55296:Int32)
  · skip
    refine oS (fun _=>XS.icmpYes X0.here hx rfl (pc0:=3) (pc':=17) rfl (dE hby D69 2 rfl) rfl (tlt h1).1 (by decide) (by decide)) ?_
    refine oS (fun _=>XS.iloadN X0.here hx rfl (dE hby D69 3 rfl) rfl) ?_
    show gH (T0.setTop (mkF m 18 #[vi c0] [(.int c0)])) ..
    exact own_retI X0 hx hret hlk (dE hby D69 4 rfl) (by rw [e0]; exact ⟨_,rfl,N0,rfl,hc,fun q=>by simp only [Int32.lt_iff_toInt_lt,Int32.reduceToInt] at h1; have:=q.1; omega⟩) (by decide) (by decide)
  · show gH (T0.setTop (mkF m 3 #[vi c0] [(.int 55296),(.int c0)])) ..
    refine oS (fun _=>XS.icmpNo X0.here hx rfl (dE hby D69 2 rfl) rfl (flt h1).1) ?_
    refine oS (fun _=>XS.iloadN X0.here hx rfl (dE hby D69 5 rfl) rfl) ?_
    show gH (T0.setTop (mkF m 7 #[vi c0] [(.int c0)])) ..
    refine oS (X0.ldcInt hx hown (mvT hZ (oW hw 357 rfl)) (g:=(mkF m 7 #[vi c0] [(.int c0)])) rfl (dE hby D69 6 rfl)) ?_
    show gH (T0.setTop (mkF m 9 #[vi c0] [(.int 57343),(.int c0)])) ..
    by_cases h2 : (57343:Int32) < c0
    · skip
      refine oS (fun _=>XS.icmpYes X0.here hx rfl (pc0:=9) (pc':=17) rfl (dE hby D69 7 rfl) rfl (tlt h2).2.2.1 (by decide) (by decide)) ?_
      refine oS (fun _=>XS.iloadN X0.here hx rfl (dE hby D69 3 rfl) rfl) ?_
      show gH (T0.setTop (mkF m 18 #[vi c0] [(.int c0)])) ..
      exact own_retI X0 hx hret hlk (dE hby D69 4 rfl) (by rw [e0]; exact ⟨_,rfl,N0,rfl,hc,fun q=>by simp only [Int32.lt_iff_toInt_lt,Int32.reduceToInt] at h2; have:=q.2; omega⟩) (by decide) (by decide)
    · show gH (T0.setTop (mkF m 9 #[vi c0] [(.int 57343),(.int c0)])) ..
      refine oS (fun _=>XS.icmpNo X0.here hx rfl (dE hby D69 7 rfl) rfl (flt h2).2.2.1) ?_
      refine oS (fun _=>XS.iloadN X0.here hx rfl (dE hby D69 8 rfl) rfl) ?_
      show gH (T0.setTop (mkF m 13 #[vi c0] [(.int c0)])) ..
      refine oS (X0.ldcInt hx hown (mvT hZ (oW hw 0 rfl)) (g:=(mkF m 13 #[vi c0] [(.int c0)])) rfl (dE hby D69 9 rfl)) ?_
      show gH (T0.setTop (mkF m 15 #[vi c0] [(.int 55296),(.int c0)])) ..
      refine oS (fun _=>XS.isub X0.here hx rfl (dE hby D69 10 rfl) rfl) ?_
      show gH (T0.setTop (mkF m 16 #[vi c0] [(.int (c0 - (55296:Int32)))])) ..
      have hsb:=c_isub c0 55296
      have hrg:=rng32 (c0 - 55296)
      rw [show (55296:Int32).toInt = 55296 from rfl] at hsb
      simp only [Int32.lt_iff_toInt_lt,Int32.reduceToInt] at h1 h2
      exact own_retI X0 hx hret hlk (dE hby D69 11 rfl) (by rw [e0]; exact ⟨_,rfl,N0,rfl,⟨by omega,by omega⟩,fun q=>by have:=q.1; omega⟩) (by decide) (by decide)
def L70 : List (Nat × Instr × Nat):=[(0,.iload_n 2,1),(1,.sipush 128,3),(4,.if_icmp .ge 12,3),(7,.aload_n 0,1),(8,.iload_n 1,1),(9,.iload_n 2,1),(10,.i2b,1),(11,.bastore,1),(12,.iload_n 1,1),(13,.iconst 1,1),(14,.iadd,1),(15,.ireturn,1),(16,.iload_n 2,1),(17,.sipush 2048,3),(20,.if_icmp .ge 33,3),(23,.aload_n 0,1),(24,.iload_n 1,1),(25,.sipush 192,3),(28,.iload_n 2,1),(29,.bipush 6,2),(31,.ishr,1),(32,.ior,1),(33,.i2b,1),(34,.bastore,1),(35,.aload_n 0,1),(36,.iload_n 1,1),(37,.iconst 1,1),(38,.iadd,1),(39,.sipush 128,3),(42,.iload_n 2,1),(43,.bipush 63,2),(45,.iand,1),(46,.ior,1),(47,.i2b,1),(48,.bastore,1),(49,.iload_n 1,1),(50,.iconst 2,1),(51,.iadd,1),(52,.ireturn,1),(53,.aload_n 0,1),(54,.iload_n 1,1),(55,.sipush 224,3),(58,.iload_n 2,1),(59,.bipush 12,2),(61,.ishr,1),(62,.ior,1),(63,.i2b,1),(64,.bastore,1),(65,.aload_n 0,1),(66,.iload_n 1,1),(67,.iconst 1,1),(68,.iadd,1),(69,.sipush 128,3),(72,.iload_n 2,1),(73,.bipush 6,2),(75,.ishr,1),(76,.bipush 63,2),(78,.iand,1),(79,.ior,1),(80,.i2b,1),(81,.bastore,1),(82,.aload_n 0,1),(83,.iload_n 1,1),(84,.iconst 2,1),(85,.iadd,1),(86,.sipush 128,3),(89,.iload_n 2,1),(90,.bipush 63,2),(92,.iand,1),(93,.ior,1),(94,.i2b,1),(95,.bastore,1),(96,.iload_n 1,1),(97,.iconst 3,1),(98,.iadd,1),(99,.ireturn,1)]
theorem D70 : ∀ q∈L70,decode method_3_code q.1 = .ok q.2:=by decide +kernel
theorem own_put (l:Launch) (Z:State) (a0:Array Value) (hw:∀ d∈tables_1,d.before a0 Z = true) (ws:List Jvm.Cond) (x1:Addr) (ch:Int32) (o:Nat) (out:List Value) (kx:ClassId) (h0:Heap) (O0:Old Z Z.heap.size h0) (ho:out.length = o) (h3:o≤3) (gx:Z.heap.size≤x1) (Vx:Arv Z h0 x1 kx .byte (Int32.ofNat 10) out (.int 0)) :
    own_Met l Z (⟨"com/example/sluse/sluse/TextExpositionBytesPinLaw","put","([BII)I"⟩ : MethodName) method_3_code 3 (some .int) ws (⟨0,0,0,0⟩ : Room) #[(.ref x1),(.int (.ofNat o)),(.int ch)] h0 (fun v h L=>v = some (.int (.ofNat (o+(own_u1 ch).length)))∧Fr Z.heap.size L∧Keep h0 h [x1]∧Arv Z h x1 kx .byte (Int32.ofNat 10) (out++own_u1 ch) (.int 0)) 0 0:=by
  refine own_bodyA (ef:=fun m=>mkF m 0 #[.val (.ref x1),.val (.int (Int32.ofNat o)),.val (.int ch)] []) (plainFor_of_name own_pn63) ?_
  intro p e s m below meth c T0 hx hZ hby hml hown hnm hret hlk X0 e0
  have N0:=Fr.nil Z.heap.size
  have z0 : Z.heap.size≤h0.size:=O0.2.1
  have Kr:=Keep.refl h0 [x1]
  show gH (T0.setTop (mkF m 0 #[vr x1,vi (.ofNat o),vi ch] [])) ..
  have ltx:=oL Vx.lt
  refine oS (fun _=>XS.iloadN X0.here hx rfl (dE hby D70 0 rfl) rfl) ?_
  refine oS (fun _=>XS.sipush X0.here hx rfl (dE hby D70 1 rfl)) ?_
  show gH (T0.setTop (mkF m 4 #[vr x1,vi (.ofNat o),vi ch] [(.int 128),(.int ch)])) ..
  by_cases hlow : ch < (128:Int32)
  · skip
    refine oS (fun _=>XS.icmpNo X0.here hx rfl (dE hby D70 2 rfl) rfl (tlt hlow).2.1) ?_
    refine oS (fun _=>XS.aloadN X0.here hx rfl (dE hby D70 3 rfl) rfl rfl) ?_
    refine oS (fun _=>XS.iloadN X0.here hx rfl (dE hby D70 4 rfl) rfl) ?_
    refine oS (fun _=>XS.iloadN X0.here hx rfl (dE hby D70 5 rfl) rfl) ?_
    refine oS (fun _=>XS.i2b X0.here hx rfl (dE hby D70 6 rfl) rfl) ?_
    have V1p : Arv Z h0 x1 kx .byte (Int32.ofNat 10) (out++[(.int 0)]) (.int 0):=Vx.pad (pad_rep out (.int 0) 1)
    obtain ⟨cl2,Ar2,qk2,Sz2,Mz2,Hz2,Uz2⟩:=id V1p
    obtain ⟨T3,h3,X3,e3,W3,st3⟩:=stB X0 hx hZ e0 Ar2 (j:=(Int32.ofNat o)) (oI (i:=o) (n:=10) Sz2 (by omega) (by omega)) (g:=(mkF m 11 #[vr x1,vi (.ofNat o),vi ch] [(.int (ch.toInt8.toInt32)),(.int (.ofNat o)),(.ref x1)])) rfl rfl (dE hby D70 7 rfl)
    refine oS st3 ?_
    have V3:=Arv.set Ar2 qk2 Sz2 Mz2 Hz2 Uz2 (fits_nar_byte _) W3 (out:List Value).length (by rw [oC (by omega)]; first | omega | (simp only [List.length_append,List.length_cons,List.length_nil]; omega)) (by simp)
    have z4:=W3.size
    have O5:=Old.wr O0 W3 (by omega)
    have K6:=Kr.wr W3 (Or.inl (by simp))
    have N3:=Fr.snoc X3 N0 (by omega : Z.heap.size≤x1)
    have V3' : Arv Z h3 x1 kx .byte (Int32.ofNat 10) (out++[.int (own_lo ch)]) (.int 0):=by have q:=V3; rw [own_set] at q; exact q
    show gH (T3.setTop (mkF m 12 #[vr x1,vi (.ofNat o),vi ch] [])) ..
    refine oS (fun _=>XS.iloadN X3.here hx rfl (dE hby D70 8 rfl) rfl) ?_
    refine oS (fun _=>XS.iconst X3.here hx rfl (dE hby D70 9 rfl)) ?_
    refine oS (fun _=>XS.iadd X3.here hx rfl (dE hby D70 10 rfl) rfl) ?_
    show gH (T3.setTop (mkF m 15 #[vr x1,vi (.ofNat o),vi ch] [(.int ((Int32.ofNat o)+(1:Int32)))])) ..
    rw [(show Int32.ofNat o+(1:Int32) = Int32.ofNat (o+1) from own_plus o 1)]
    show gH (T3.setTop (mkF m 15 #[vr x1,vi (.ofNat o),vi ch] [(.int (.ofNat (o+1)))])) ..
    exact own_retI X3 hx hret hlk (dE hby D70 11 rfl) (by rw [e3]; exact ⟨by rw [own_u1a hlow]; rfl,N3,K6,by rw [own_u1a hlow]; exact V3'⟩) (by decide) (by decide)
  · show gH (T0.setTop (mkF m 4 #[vr x1,vi (.ofNat o),vi ch] [(.int 128),(.int ch)])) ..
    refine oS (fun _=>XS.icmpYes X0.here hx rfl (pc0:=4) (pc':=16) rfl (dE hby D70 2 rfl) rfl (flt hlow).2.1 (by decide) (by decide)) ?_
    refine oS (fun _=>XS.iloadN X0.here hx rfl (dE hby D70 12 rfl) rfl) ?_
    refine oS (fun _=>XS.sipush X0.here hx rfl (dE hby D70 13 rfl)) ?_
    show gH (T0.setTop (mkF m 20 #[vr x1,vi (.ofNat o),vi ch] [(.int 2048),(.int ch)])) ..
    by_cases hmid : ch < (2048:Int32)
    · skip
      refine oS (fun _=>XS.icmpNo X0.here hx rfl (dE hby D70 14 rfl) rfl (tlt hmid).2.1) ?_
      refine oS (fun _=>XS.aloadN X0.here hx rfl (dE hby D70 15 rfl) rfl rfl) ?_
      refine oS (fun _=>XS.iloadN X0.here hx rfl (dE hby D70 16 rfl) rfl) ?_
      refine oS (fun _=>XS.sipush X0.here hx rfl (dE hby D70 17 rfl)) ?_
      refine oS (fun _=>XS.iloadN X0.here hx rfl (dE hby D70 18 rfl) rfl) ?_
      refine oS (fun _=>XS.bipush X0.here hx rfl (dE hby D70 19 rfl)) ?_
      refine oS (fun _=>XS.ishr X0.here hx rfl (dE hby D70 20 rfl) rfl) ?_
      refine oS (fun _=>XS.ior X0.here hx rfl (dE hby D70 21 rfl) rfl) ?_
      refine oS (fun _=>XS.i2b X0.here hx rfl (dE hby D70 22 rfl) rfl) ?_
      have V7p : Arv Z h0 x1 kx .byte (Int32.ofNat 10) (out++[(.int 0)]) (.int 0):=Vx.pad (pad_rep out (.int 0) 1)
      obtain ⟨cl8,Ar8,qk8,Sz8,Mz8,Hz8,Uz8⟩:=id V7p
      obtain ⟨T9,h9,X9,e9,W9,st9⟩:=stB X0 hx hZ e0 Ar8 (j:=(Int32.ofNat o)) (oI (i:=o) (n:=10) Sz8 (by omega) (by omega)) (g:=(mkF m 34 #[vr x1,vi (.ofNat o),vi ch] [(.int (((192:Int32)|||(ch>>>((6:Int32)&&&31))).toInt8.toInt32)),(.int (.ofNat o)),(.ref x1)])) rfl rfl (dE hby D70 23 rfl)
      refine oS st9 ?_
      have V9:=Arv.set Ar8 qk8 Sz8 Mz8 Hz8 Uz8 (fits_nar_byte _) W9 (out:List Value).length (by rw [oC (by omega)]; first | omega | (simp only [List.length_append,List.length_cons,List.length_nil]; omega)) (by simp)
      have z10:=W9.size
      have O11:=Old.wr O0 W9 (by omega)
      have K12:=Kr.wr W9 (Or.inl (by simp))
      have N9:=Fr.snoc X9 N0 (by omega : Z.heap.size≤x1)
      have V9' : Arv Z h9 x1 kx .byte (Int32.ofNat 10) (out++[.int (own_lo ((192:Int32)|||(ch>>>((6:Int32)&&&31))))]) (.int 0):=by have q:=V9; rw [own_set] at q; exact q
      show gH (T9.setTop (mkF m 35 #[vr x1,vi (.ofNat o),vi ch] [])) ..
      refine oS (fun _=>XS.aloadN X9.here hx rfl (dE hby D70 24 rfl) rfl rfl) ?_
      refine oS (fun _=>XS.iloadN X9.here hx rfl (dE hby D70 25 rfl) rfl) ?_
      refine oS (fun _=>XS.iconst X9.here hx rfl (dE hby D70 26 rfl)) ?_
      refine oS (fun _=>XS.iadd X9.here hx rfl (dE hby D70 27 rfl) rfl) ?_
      show gH (T9.setTop (mkF m 39 #[vr x1,vi (.ofNat o),vi ch] [(.int ((Int32.ofNat o)+(1:Int32))),(.ref x1)])) ..
      rw [(show Int32.ofNat o+(1:Int32) = Int32.ofNat (o+1) from own_plus o 1)]
      show gH (T9.setTop (mkF m 39 #[vr x1,vi (.ofNat o),vi ch] [(.int (.ofNat (o+1))),(.ref x1)])) ..
      refine oS (fun _=>XS.sipush X9.here hx rfl (dE hby D70 28 rfl)) ?_
      refine oS (fun _=>XS.iloadN X9.here hx rfl (dE hby D70 29 rfl) rfl) ?_
      refine oS (fun _=>XS.bipush X9.here hx rfl (dE hby D70 30 rfl)) ?_
      refine oS (fun _=>XS.iand X9.here hx rfl (dE hby D70 31 rfl) rfl) ?_
      refine oS (fun _=>XS.ior X9.here hx rfl (dE hby D70 32 rfl) rfl) ?_
      refine oS (fun _=>XS.i2b X9.here hx rfl (dE hby D70 33 rfl) rfl) ?_
      have V13p : Arv Z h9 x1 kx .byte (Int32.ofNat 10) ((out++[.int (own_lo ((192:Int32)|||(ch>>>((6:Int32)&&&31))))])++[(.int 0)]) (.int 0):=V9'.pad (pad_rep (out++[.int (own_lo ((192:Int32)|||(ch>>>((6:Int32)&&&31))))]) (.int 0) 1)
      obtain ⟨cl14,Ar14,qk14,Sz14,Mz14,Hz14,Uz14⟩:=id V13p
      obtain ⟨T15,h15,X15,e15,W15,st15⟩:=stB X9 hx hZ e9 Ar14 (j:=(Int32.ofNat (o+1))) (oI (i:=o+1) (n:=10) Sz14 (by omega) (by omega)) (g:=(mkF m 48 #[vr x1,vi (.ofNat o),vi ch] [(.int (((128:Int32)|||(ch&&&(63:Int32))).toInt8.toInt32)),(.int (.ofNat (o+1))),(.ref x1)])) rfl rfl (dE hby D70 34 rfl)
      refine oS st15 ?_
      have V15:=Arv.set Ar14 qk14 Sz14 Mz14 Hz14 Uz14 (fits_nar_byte _) W15 ((out++[.int (own_lo ((192:Int32)|||(ch>>>((6:Int32)&&&31))))]) : List Value).length (by rw [oC (by omega)]; first | omega | (simp only [List.length_append,List.length_cons,List.length_nil]; omega)) (by simp)
      have z16:=W15.size
      have O17:=Old.wr O11 W15 (by omega)
      have K18:=K12.wr W15 (Or.inl (by simp))
      have N15:=Fr.snoc X15 N9 (by omega : Z.heap.size≤x1)
      have V15' : Arv Z h15 x1 kx .byte (Int32.ofNat 10) ((out++[.int (own_lo ((192:Int32)|||(ch>>>((6:Int32)&&&31))))])++[.int (own_lo ((128:Int32)|||(ch&&&(63:Int32))))]) (.int 0):=by have q:=V15; rw [own_set] at q; exact q
      show gH (T15.setTop (mkF m 49 #[vr x1,vi (.ofNat o),vi ch] [])) ..
      refine oS (fun _=>XS.iloadN X15.here hx rfl (dE hby D70 35 rfl) rfl) ?_
      refine oS (fun _=>XS.iconst X15.here hx rfl (dE hby D70 36 rfl)) ?_
      refine oS (fun _=>XS.iadd X15.here hx rfl (dE hby D70 37 rfl) rfl) ?_
      show gH (T15.setTop (mkF m 52 #[vr x1,vi (.ofNat o),vi ch] [(.int ((Int32.ofNat o)+(2:Int32)))])) ..
      rw [(show Int32.ofNat o+(2:Int32) = Int32.ofNat (o+2) from own_plus o 2)]
      show gH (T15.setTop (mkF m 52 #[vr x1,vi (.ofNat o),vi ch] [(.int (.ofNat (o+2)))])) ..
      exact own_retI X15 hx hret hlk (dE hby D70 38 rfl) (by rw [e15]; exact ⟨by rw [own_u1b hlow hmid]; rfl,N15,K18,by rw [own_u1b hlow hmid]; have q:=V15'; rw [List.append_assoc] at q; exact q⟩) (by decide) (by decide)
    · show gH (T0.setTop (mkF m 20 #[vr x1,vi (.ofNat o),vi ch] [(.int 2048),(.int ch)])) ..
      refine oS (fun _=>XS.icmpYes X0.here hx rfl (pc0:=20) (pc':=53) rfl (dE hby D70 14 rfl) rfl (flt hmid).2.1 (by decide) (by decide)) ?_
      refine oS (fun _=>XS.aloadN X0.here hx rfl (dE hby D70 39 rfl) rfl rfl) ?_
      refine oS (fun _=>XS.iloadN X0.here hx rfl (dE hby D70 40 rfl) rfl) ?_
      refine oS (fun _=>XS.sipush X0.here hx rfl (dE hby D70 41 rfl)) ?_
      refine oS (fun _=>XS.iloadN X0.here hx rfl (dE hby D70 42 rfl) rfl) ?_
      refine oS (fun _=>XS.bipush X0.here hx rfl (dE hby D70 43 rfl)) ?_
      refine oS (fun _=>XS.ishr X0.here hx rfl (dE hby D70 44 rfl) rfl) ?_
      refine oS (fun _=>XS.ior X0.here hx rfl (dE hby D70 45 rfl) rfl) ?_
      refine oS (fun _=>XS.i2b X0.here hx rfl (dE hby D70 46 rfl) rfl) ?_
      have V19p : Arv Z h0 x1 kx .byte (Int32.ofNat 10) (out++[(.int 0)]) (.int 0):=Vx.pad (pad_rep out (.int 0) 1)
      obtain ⟨cl20,Ar20,qk20,Sz20,Mz20,Hz20,Uz20⟩:=id V19p
      obtain ⟨T21,h21,X21,e21,W21,st21⟩:=stB X0 hx hZ e0 Ar20 (j:=(Int32.ofNat o)) (oI (i:=o) (n:=10) Sz20 (by omega) (by omega)) (g:=(mkF m 64 #[vr x1,vi (.ofNat o),vi ch] [(.int (((224:Int32)|||(ch>>>((12:Int32)&&&31))).toInt8.toInt32)),(.int (.ofNat o)),(.ref x1)])) rfl rfl (dE hby D70 47 rfl)
      refine oS st21 ?_
      have V21:=Arv.set Ar20 qk20 Sz20 Mz20 Hz20 Uz20 (fits_nar_byte _) W21 (out:List Value).length (by rw [oC (by omega)]; first | omega | (simp only [List.length_append,List.length_cons,List.length_nil]; omega)) (by simp)
      have z22:=W21.size
      have O23:=Old.wr O0 W21 (by omega)
      have K24:=Kr.wr W21 (Or.inl (by simp))
      have N21:=Fr.snoc X21 N0 (by omega : Z.heap.size≤x1)
      have V21' : Arv Z h21 x1 kx .byte (Int32.ofNat 10) (out++[.int (own_lo ((224:Int32)|||(ch>>>((12:Int32)&&&31))))]) (.int 0):=by have q:=V21; rw [own_set] at q; exact q
      show gH (T21.setTop (mkF m 65 #[vr x1,vi (.ofNat o),vi ch] [])) ..
      refine oS (fun _=>XS.aloadN X21.here hx rfl (dE hby D70 48 rfl) rfl rfl) ?_
      refine oS (fun _=>XS.iloadN X21.here hx rfl (dE hby D70 49 rfl) rfl) ?_
      refine oS (fun _=>XS.iconst X21.here hx rfl (dE hby D70 50 rfl)) ?_
      refine oS (fun _=>XS.iadd X21.here hx rfl (dE hby D70 51 rfl) rfl) ?_
      show gH (T21.setTop (mkF m 69 #[vr x1,vi (.ofNat o),vi ch] [(.int ((Int32.ofNat o)+(1:Int32))),(.ref x1)])) ..
      rw [(show Int32.ofNat o+(1:Int32) = Int32.ofNat (o+1) from own_plus o 1)]
      show gH (T21.setTop (mkF m 69 #[vr x1,vi (.ofNat o),vi ch] [(.int (.ofNat (o+1))),(.ref x1)])) ..
      refine oS (fun _=>XS.sipush X21.here hx rfl (dE hby D70 52 rfl)) ?_
      refine oS (fun _=>XS.iloadN X21.here hx rfl (dE hby D70 53 rfl) rfl) ?_
      refine oS (fun _=>XS.bipush X21.here hx rfl (dE hby D70 54 rfl)) ?_
      refine oS (fun _=>XS.ishr X21.here hx rfl (dE hby D70 55 rfl) rfl) ?_
      refine oS (fun _=>XS.bipush X21.here hx rfl (dE hby D70 56 rfl)) ?_
      refine oS (fun _=>XS.iand X21.here hx rfl (dE hby D70 57 rfl) rfl) ?_
      refine oS (fun _=>XS.ior X21.here hx rfl (dE hby D70 58 rfl) rfl) ?_
      refine oS (fun _=>XS.i2b X21.here hx rfl (dE hby D70 59 rfl) rfl) ?_
      have V25p : Arv Z h21 x1 kx .byte (Int32.ofNat 10) ((out++[.int (own_lo ((224:Int32)|||(ch>>>((12:Int32)&&&31))))])++[(.int 0)]) (.int 0):=V21'.pad (pad_rep (out++[.int (own_lo ((224:Int32)|||(ch>>>((12:Int32)&&&31))))]) (.int 0) 1)
      obtain ⟨cl26,Ar26,qk26,Sz26,Mz26,Hz26,Uz26⟩:=id V25p
      obtain ⟨T27,h27,X27,e27,W27,st27⟩:=stB X21 hx hZ e21 Ar26 (j:=(Int32.ofNat (o+1))) (oI (i:=o+1) (n:=10) Sz26 (by omega) (by omega)) (g:=(mkF m 81 #[vr x1,vi (.ofNat o),vi ch] [(.int (((128:Int32)|||((ch>>>((6:Int32)&&&31))&&&(63:Int32))).toInt8.toInt32)),(.int (.ofNat (o+1))),(.ref x1)])) rfl rfl (dE hby D70 60 rfl)
      refine oS st27 ?_
      have V27:=Arv.set Ar26 qk26 Sz26 Mz26 Hz26 Uz26 (fits_nar_byte _) W27 ((out++[.int (own_lo ((224:Int32)|||(ch>>>((12:Int32)&&&31))))]) : List Value).length (by rw [oC (by omega)]; first | omega | (simp only [List.length_append,List.length_cons,List.length_nil]; omega)) (by simp)
      have z28:=W27.size
      have O29:=Old.wr O23 W27 (by omega)
      have K30:=K24.wr W27 (Or.inl (by simp))
      have N27:=Fr.snoc X27 N21 (by omega : Z.heap.size≤x1)
      have V27' : Arv Z h27 x1 kx .byte (Int32.ofNat 10) ((out++[.int (own_lo ((224:Int32)|||(ch>>>((12:Int32)&&&31))))])++[.int (own_lo ((128:Int32)|||((ch>>>((6:Int32)&&&31))&&&(63:Int32))))]) (.int 0):=by have q:=V27; rw [own_set] at q; exact q
      show gH (T27.setTop (mkF m 82 #[vr x1,vi (.ofNat o),vi ch] [])) ..
      refine oS (fun _=>XS.aloadN X27.here hx rfl (dE hby D70 61 rfl) rfl rfl) ?_
      refine oS (fun _=>XS.iloadN X27.here hx rfl (dE hby D70 62 rfl) rfl) ?_
      refine oS (fun _=>XS.iconst X27.here hx rfl (dE hby D70 63 rfl)) ?_
      refine oS (fun _=>XS.iadd X27.here hx rfl (dE hby D70 64 rfl) rfl) ?_
      show gH (T27.setTop (mkF m 86 #[vr x1,vi (.ofNat o),vi ch] [(.int ((Int32.ofNat o)+(2:Int32))),(.ref x1)])) ..
      rw [(show Int32.ofNat o+(2:Int32) = Int32.ofNat (o+2) from own_plus o 2)]
      show gH (T27.setTop (mkF m 86 #[vr x1,vi (.ofNat o),vi ch] [(.int (.ofNat (o+2))),(.ref x1)])) ..
      refine oS (fun _=>XS.sipush X27.here hx rfl (dE hby D70 65 rfl)) ?_
      refine oS (fun _=>XS.iloadN X27.here hx rfl (dE hby D70 66 rfl) rfl) ?_
      refine oS (fun _=>XS.bipush X27.here hx rfl (dE hby D70 67 rfl)) ?_
      refine oS (fun _=>XS.iand X27.here hx rfl (dE hby D70 68 rfl) rfl) ?_
      refine oS (fun _=>XS.ior X27.here hx rfl (dE hby D70 69 rfl) rfl) ?_
      refine oS (fun _=>XS.i2b X27.here hx rfl (dE hby D70 70 rfl) rfl) ?_
      have V31p : Arv Z h27 x1 kx .byte (Int32.ofNat 10) (((out++[.int (own_lo ((224:Int32)|||(ch>>>((12:Int32)&&&31))))])++[.int (own_lo ((128:Int32)|||((ch>>>((6:Int32)&&&31))&&&(63:Int32))))])++[(.int 0)]) (.int 0):=V27'.pad (pad_rep ((out++[.int (own_lo ((224:Int32)|||(ch>>>((12:Int32)&&&31))))])++[.int (own_lo ((128:Int32)|||((ch>>>((6:Int32)&&&31))&&&(63:Int32))))]) (.int 0) 1)
      obtain ⟨cl32,Ar32,qk32,Sz32,Mz32,Hz32,Uz32⟩:=id V31p
      obtain ⟨T33,h33,X33,e33,W33,st33⟩:=stB X27 hx hZ e27 Ar32 (j:=(Int32.ofNat (o+2))) (oI (i:=o+2) (n:=10) Sz32 (by omega) (by omega)) (g:=(mkF m 95 #[vr x1,vi (.ofNat o),vi ch] [(.int (((128:Int32)|||(ch&&&(63:Int32))).toInt8.toInt32)),(.int (.ofNat (o+2))),(.ref x1)])) rfl rfl (dE hby D70 71 rfl)
      refine oS st33 ?_
      have V33:=Arv.set Ar32 qk32 Sz32 Mz32 Hz32 Uz32 (fits_nar_byte _) W33 (((out++[.int (own_lo ((224:Int32)|||(ch>>>((12:Int32)&&&31))))])++[.int (own_lo ((128:Int32)|||((ch>>>((6:Int32)&&&31))&&&(63:Int32))))]) : List Value).length (by rw [oC (by omega)]; first | omega | (simp only [List.length_append,List.length_cons,List.length_nil]; omega)) (by simp)
      have z34:=W33.size
      have O35:=Old.wr O29 W33 (by omega)
      have K36:=K30.wr W33 (Or.inl (by simp))
      have N33:=Fr.snoc X33 N27 (by omega : Z.heap.size≤x1)
      have V33' : Arv Z h33 x1 kx .byte (Int32.ofNat 10) (((out++[.int (own_lo ((224:Int32)|||(ch>>>((12:Int32)&&&31))))])++[.int (own_lo ((128:Int32)|||((ch>>>((6:Int32)&&&31))&&&(63:Int32))))])++[.int (own_lo ((128:Int32)|||(ch&&&(63:Int32))))]) (.int 0):=by have q:=V33; rw [own_set] at q; exact q
      show gH (T33.setTop (mkF m 96 #[vr x1,vi (.ofNat o),vi ch] [])) ..
      refine oS (fun _=>XS.iloadN X33.here hx rfl (dE hby D70 72 rfl) rfl) ?_
      refine oS (fun _=>XS.iconst X33.here hx rfl (dE hby D70 73 rfl)) ?_
      refine oS (fun _=>XS.iadd X33.here hx rfl (dE hby D70 74 rfl) rfl) ?_
      show gH (T33.setTop (mkF m 99 #[vr x1,vi (.ofNat o),vi ch] [(.int ((Int32.ofNat o)+(3:Int32)))])) ..
      rw [(show Int32.ofNat o+(3:Int32) = Int32.ofNat (o+3) from own_plus o 3)]
      show gH (T33.setTop (mkF m 99 #[vr x1,vi (.ofNat o),vi ch] [(.int (.ofNat (o+3)))])) ..
      exact own_retI X33 hx hret hlk (dE hby D70 75 rfl) (by rw [e33]; exact ⟨by rw [own_u1c hlow hmid]; rfl,N33,K36,by rw [own_u1c hlow hmid]; have q:=V33'; rw [List.append_assoc,List.append_assoc] at q; exact q⟩) (by decide) (by decide)
theorem own_i2c {x:Int32} (h:0≤x.toInt∧x.toInt < 65536) : x.toUInt32.toUInt16.toUInt32.toInt32 = x:=by
  apply Int32.toInt_inj.mp
  have:=c_i2c x
  omega
theorem own_narc {x:Int32} (h:0≤x.toInt∧x.toInt < 65536) : nar .char x = x:=own_i2c h
def own_cf (c1 c2 : Int32) (j:Nat) : Int32:=if j = 0 then c1 else c2
theorem own_u1_int (c:Int32) : ∀ v∈own_u1 c,∃ z : Int32,v = .int z:=by
  intro v hv
  unfold own_u1 at hv
  split at hv
  · exact ⟨_,List.mem_singleton.mp hv⟩
  · split at hv
    · simp only [List.mem_cons,List.not_mem_nil,or_false] at hv
      rcases hv with h | h <;> exact ⟨_,h⟩
    · simp only [List.mem_cons,List.not_mem_nil,or_false] at hv
      rcases hv with h | h | h <;> exact ⟨_,h⟩
theorem own_u4_int (u:Int32) : ∀ v∈own_u4 u,∃ z : Int32,v = .int z:=by
  intro v hv
  simp only [own_u4,List.mem_cons,List.not_mem_nil,or_false] at hv
  rcases hv with h | h | h | h <;> exact ⟨_,h⟩
theorem own_get_int {bs:List Value} {d:Value} (h:∀ v∈bs,∃ z : Int32,v = .int z) : ∀ j,j < bs.length→∃ z : Int32,bs.getD j d = .int z:=fun j hj=>by
  rw [List.getD_eq_getElem?_getD,List.getElem?_eq_getElem hj]
  exact h _ (List.getElem_mem hj)
theorem own_L1_int (cs:List Int32) : ∀ v∈own_L1 cs,∃ z : Int32,v = .int z:=by
  intro v hv
  obtain ⟨c,-,rfl⟩:=List.mem_map.mp hv
  exact ⟨_,rfl⟩
theorem own_u1_len (c:Int32) : 1≤(own_u1 c).length∧(own_u1 c).length≤3:=by
  unfold own_u1
  split
  · exact ⟨by simp,by simp⟩
  · split
    · exact ⟨by simp,by simp⟩
    · exact ⟨by simp,by simp⟩
theorem own_mask {x m : Int32} (k:Nat) (hk:k≤31) (hm:m.toBitVec.toNat = 2 ^ k - 1) : ∃ n : Nat,n < 2 ^ k∧x&&&m = Int32.ofNat n:=by
  have h:=c_mask x m k hk hm
  have h2 : (0:Int) < ((2 ^ k : Nat) : Int):=Int.natCast_pos.mpr (Nat.pow_pos (by decide))
  have h3 : 2 ^ k≤2 ^ 31:=Nat.pow_le_pow_right (by decide) hk
  have h4 : 0≤(x&&&m).toInt:=by rw [h]; exact Int.emod_nonneg _ (by omega)
  have h5 : (x&&&m).toInt < ((2 ^ k : Nat) : Int):=by rw [h]; exact Int.emod_lt_of_pos _ h2
  refine ⟨(x&&&m).toInt.toNat,by omega,Int32.toInt_inj.mp ?_⟩
  rw [own_nat (by omega)]
  omega
theorem own_mod {r d : Nat} (hr:r < 2147483648) (hd:0 < d) (hd2:d < 2147483648) : Int32.ofNat r % Int32.ofNat d = Int32.ofNat (r % d):=by
  apply Int32.toInt_inj.mp
  have h1 : r % d≤r:=Nat.mod_le r d
  have h:=(c_irem (Int32.ofNat r) (Int32.ofNat d) (d:Int) (own_nat hd2)).1 (by rw [own_nat hr]; omega)
  rw [h,own_nat hr,own_nat (by omega),Int.natCast_emod]
theorem own_ex {r v : Int} (h:(r - v) % 4294967296 = 0) (hr:-2147483648≤r∧r < 2147483648) (hv:-2147483648≤v∧v < 2147483648) : r = v:=by omega
theorem own_pairs (a b : Int32) : own_hs ((55296:Int32)|||(a&&&(1023:Int32)))∧own_ls ((56320:Int32)|||(b&&&(1023:Int32)))∧own_cpt ((55296:Int32)|||(a&&&(1023:Int32))) ((56320:Int32)|||(b&&&(1023:Int32))) = ((65536:Int32)+((a&&&(1023:Int32))<<<((10:Int32)&&&31)))+(b&&&(1023:Int32)):=by
  have ea:=c_mask a 1023 10 (by decide) rfl
  have eb:=c_mask b 1023 10 (by decide) rfl
  have hx : 0≤(a&&&(1023:Int32)).toInt∧(a&&&(1023:Int32)).toInt < 1024:=by rw [ea]; omega
  have hy : 0≤(b&&&(1023:Int32)).toInt∧(b&&&(1023:Int32)).toInt < 1024:=by rw [eb]; omega
  clear ea eb
  generalize (a&&&(1023:Int32)) = x at *
  generalize (b&&&(1023:Int32)) = y at *
  have g1:=c_or (55296:Int32) x 10 (by decide) 1024 rfl (by decide) hx.1 hx.2
  have g2:=c_or (56320:Int32) y 10 (by decide) 1024 rfl (by decide) hy.1 hy.2
  rw [show (55296:Int32).toInt = 55296 from rfl] at g1
  rw [show (56320:Int32).toInt = 56320 from rfl] at g2
  have e1:=own_ex g1 (rng32 _) (by omega)
  have e2:=own_ex g2 (rng32 _) (by omega)
  clear g1 g2
  generalize ((55296:Int32)|||x) = c at *
  generalize ((56320:Int32)|||y) = d at *
  refine ⟨⟨by omega,by omega⟩,⟨by omega,by omega⟩,Int32.toInt_inj.mp ?_⟩
  unfold own_cpt
  have h1 : ((c<<<((10:Int32)&&&31)).toInt - c.toInt * 1024) % 4294967296 = 0:=c_ishl c 10 10 rfl
  have f1:=own_ex h1 (rng32 _) (by omega)
  clear h1
  have h2:=c_iadd (c<<<((10:Int32)&&&31)) d
  rw [f1] at h2
  have f2:=own_ex h2 (rng32 _) (by omega)
  clear h2 f1
  have h3:=c_iadd ((c<<<((10:Int32)&&&31))+d) (-56613888)
  rw [f2,show (-56613888:Int32).toInt = -56613888 from rfl] at h3
  have f3:=own_ex h3 (rng32 _) (by omega)
  clear h3 f2
  have h4 : ((x<<<((10:Int32)&&&31)).toInt - x.toInt * 1024) % 4294967296 = 0:=c_ishl x 10 10 rfl
  have f4:=own_ex h4 (rng32 _) (by omega)
  clear h4
  have h5:=c_iadd 65536 (x<<<((10:Int32)&&&31))
  rw [f4,show (65536:Int32).toInt = 65536 from rfl] at h5
  have f5:=own_ex h5 (rng32 _) (by omega)
  clear h5 f4
  have h6:=c_iadd (65536+(x<<<((10:Int32)&&&31))) y
  rw [f5] at h6
  have f6:=own_ex h6 (rng32 _) (by omega)
  rw [f3,f6]
  omega
/-- what stands in front: its bytes are out,whatever plain signs follow -/
def own_pre (c1 c2 : Int32) (out:List Value) : Prop:=∀ ts : List Int32,(∀ c∈ts,0≤c.toInt∧c.toInt < 128)→own_u8 (c1 :: c2 :: ts) = out++own_L1 ts∧own_wf (c1 :: c2 :: ts)
theorem own_lt128 {c:Int32} (h:c.toInt < 128) : c < (128:Int32):=by rw [Int32.lt_iff_toInt_lt,show (128:Int32).toInt = 128 from rfl]; exact h
theorem own_wf_ascii : ∀ ts : List Int32,(∀ c∈ts,0≤c.toInt∧c.toInt < 128)→own_wf ts
  | [],_=>trivial
  | [c],h=>own_low (own_lt128 (h c (by simp)).2)
  | c :: d :: r,h=>⟨fun q=>absurd q (own_low (own_lt128 (h c (by simp)).2)),fun _=>own_wf_ascii (d :: r) (fun x hx=>h x (by simp [List.mem_cons.mp hx]))⟩
theorem own_u8_asc (ts:List Int32) (h:∀ c∈ts,0≤c.toInt∧c.toInt < 128) : own_u8 ts = own_L1 ts:=own_u8_ascii ts fun c hc=>own_lt128 (h c hc).2
theorem own_pre0 {c1 c2 : Int32} (h1:¬ own_sur c1) (h2:¬ own_sur c2) : own_pre c1 c2 (own_u1 c1++own_u1 c2):=fun ts h=>by
  refine ⟨by rw [own_u8_cons h1,own_u8_cons h2,own_u8_asc ts h,List.append_assoc],⟨fun q=>absurd q h1,fun _=>?_⟩⟩
  cases ts with
  | nil=>exact h2
  | cons d r=>exact ⟨fun q=>absurd q h2,fun _=>own_wf_ascii _ h⟩
theorem own_pre1 {c1 c2 : Int32} (h1:own_hs c1) (h2:own_ls c2) : own_pre c1 c2 (own_u4 (own_cpt c1 c2)):=fun ts h=>by
  have hs : own_sur c1:=⟨h1.1,by have:=h1.2; omega⟩
  exact ⟨by rw [own_u8_pair hs,own_u8_asc ts h],⟨fun _=>⟨h1,h2,own_wf_ascii _ h⟩,fun q=>absurd hs q⟩⟩
def own_ENV (Z:State) (w1:Int32) (fm:Value) (el ea dg u8 : Addr) (kea kdg : ClassId) : Prop:=Sta Z Z.heap "java/lang/String" "COMPACT_STRINGS" "Z" (.int w1)∧¬ (w1 = (0:Int32))∧own_US Z∧Sta Z Z.heap "jdk/internal/util/Preconditions" "SIOOBE_FORMATTER" "Ljava/util/function/BiFunction;" fm∧(fm = .null ∨ ∃ a,fm = .ref a)∧Sta Z Z.heap "java/util/ImmutableCollections" "EMPTY_LIST" "Ljava/util/ImmutableCollections$ListN;" (.ref el)∧Exa Z Z.heap el "java/util/ImmutableCollections$ListN"∧Fld Z Z.heap el "java/util/ImmutableCollections$ListN" "elements" "[Ljava/lang/Object;" (.ref ea)∧Arv Z Z.heap ea kea (.object "java/lang/Object") (0:Int32) [] .null∧Sta Z Z.heap "java/lang/Integer" "DigitOnes" "[B" (.ref dg)∧Arv Z Z.heap dg kdg .byte (Int32.ofNat 100) (oV own_dig 100) (.int 0)∧Sta Z Z.heap "sun/nio/cs/UTF_8" "INSTANCE" "Lsun/nio/cs/UTF_8;" (.ref u8)∧Sta Z Z.heap "java/nio/charset/StandardCharsets" "UTF_8" "Ljava/nio/charset/Charset;" (.ref u8)
theorem own_pd87 : parseMethodDescriptor "([C)V" = some ⟨[(.array .char)],none⟩:=by decide +kernel
theorem own_pd95 : parseMethodDescriptor "(Ljava/lang/String;J[Ljava/lang/String;)V" = some ⟨[(.object "java/lang/String"),.long,(.array (.object "java/lang/String"))],none⟩:=by decide +kernel
theorem own_pd109 : parseMethodDescriptor "([B[BI)Z" = some ⟨[(.array .byte),(.array .byte),.int],some .boolean⟩:=by decide +kernel
theorem own_y {p:Program} {l:Launch} {e:Env} {s:State} {m:MethodId} {args:Array Value} {below:List Frame} {meth:Method} {c:Code} {Z:State} {a0:Array Value} {locs:List Loc} {cells slots : Nat} {T0:State} {h0:Heap}  (c1 c2 : Int32) (x:Int64) (ex:Addr) (kx:ClassId) (cs ds : List Int32) (s13:Slot) (w1:Int32) (fm:Value) (el ea dg u8 : Addr) (kea kdg : ClassId) (s0 s1 s2 s3 s4 s5 s8 : Slot) (hx:p.tables.exec = Jvm.exec) (hZ:Z.Warmed39 s.vm) (hw:∀ d∈tables_1,d.before a0 Z = true) (hby:c.code = code) (hml:c.maxLocals = 18) (hown:s.vm.findClass "com/example/sluse/sluse/TextExpositionBytesPinLaw" = some m.cls) (X0:Stand p l e room_1 s m args below meth c T0 locs cells slots) (e0:T0.heap = h0) (N0:Fr Z.heap.size locs) (O0:Old Z Z.heap.size h0) (hret:meth.sig.returnType = some .boolean) (hlk:meth.locks = false) (EV:own_ENV Z w1 fm el ea dg u8 kea kdg) (hcs:cells+23≤56) (hss:slots+293≤448) (h13:One s13) (hc1:0≤c1.toInt∧c1.toInt < 65536) (hc2:0≤c2.toInt∧c2.toInt < 65536) (hnum:own_num x ds) (hCS:((([c1,c2]++[(32:Int32)])++ds)++[(10:Int32)]) = cs) (hcl:cs.length≤6) (hcr:∀ c∈cs,0≤c.toInt∧c.toInt < 65536) (hwf:own_wf cs) (hu:(own_u8 cs).length < 2 * cs.length∧(own_u8 cs).length≤12) (hu10:(own_u8 cs).length≤10) (hint:∀ j,j < (own_u8 cs).length→∃ z : Int32,(own_u8 cs).getD j (.int 0) = .int z) (Vx:Arv Z h0 ex kx .byte (Int32.ofNat 10) (own_u8 cs) (.int 0))
     :
    own_G p.tables e below (own_F s below (fun v h L=>v = some (.int 1)∧Fr Z.heap.size L) 56 448) (T0.setTop (mkF m 271 #[s0,s1,s2,s3,s4,s5,vi c1,vi c2,s8,.val (.long x),.second,vr ex,vi (.ofNat (own_u8 cs).length),s13,.unset,.unset,.unset,.unset] [])):=by
  have z0 : Z.heap.size≤h0.size:=O0.2.1
  have Kr:=Keep.refl h0 []
  show gH (T0.setTop (mkF m 271 #[s0,s1,s2,s3,s4,s5,vi c1,vi c2,s8,.val (.long x),.second,vr ex,vi (.ofNat (own_u8 cs).length),s13,.unset,.unset,.unset,.unset] [])) ..
  obtain ⟨S1,hw1,US,SF,hfm,SE,Ee,Fe,Ve,SD,Dg,SU,SV⟩:=id EV
  have ltex:=oL Vx.lt
  obtain ⟨T1,h1,X1,e1,E1,A1,D1,-,st1⟩:=newO X0 hx hZ hown (oW hw 5 rfl) (oW hw 6 rfl) (oW hw 7 rfl) e0 (g:=(mkF m 271 #[s0,s1,s2,s3,s4,s5,vi c1,vi c2,s8,.val (.long x),.second,vr ex,vi (.ofNat (own_u8 cs).length),s13,.unset,.unset,.unset,.unset] [])) rfl (hb hby at_271) (show cells+1≤56 by omega) (show slots+1≤448 by omega)
  obtain ⟨b1,g1⟩ : ∃ z,z = h0.size:=⟨_,rfl⟩
  rw [← g1] at A1 D1 st1
  refine oS st1 ?_
  have z2:=E1.1
  have O3:=Old.ext O0 E1
  have K4:=Kr.ext E1
  have F1_text : Fld Z h1 b1 "com/example/sluse/sluse/TextExposition" "text" "Ljava/lang/StringBuilder;" .null:=D1 (Or.inr (oW hw 34 rfl)) (ty:=(.object "java/lang/StringBuilder")) (by decide)
  have lt1:=oL A1.lt
  show gH (T1.setTop (mkF m 274 #[s0,s1,s2,s3,s4,s5,vi c1,vi c2,s8,.val (.long x),.second,vr ex,vi (.ofNat (own_u8 cs).length),s13,.unset,.unset,.unset,.unset] [(.ref b1)])) ..
  refine oS (fun _=>XS.dup X1.here hx rfl (hb hby at_274) rfl rfl) ?_
  show gH (T1.setTop (mkF m 275 #[s0,s1,s2,s3,s4,s5,vi c1,vi c2,s8,.val (.long x),.second,vr ex,vi (.ofNat (own_u8 cs).length),s13,.unset,.unset,.unset,.unset] [(.ref b1),(.ref b1)])) ..
  obtain ⟨_,T5,L5,X5,⟨rfl,N5q,K5_,sb,bv,kb,gsb,gbv,nsb,Ete,Fte,HB⟩,st5⟩:=own_cI X1 hx hZ hown (own_teI l Z a0 hw [] b1 w1 h1 O3 S1 hw1 (by omega) A1 F1_text) (oW hw 8 rfl) (oW hw 9 rfl) (a:=b1) rfl rfl (oW hw 7 rfl) (oW hw 10 rfl) (W:=1) (g:=(mkF m 275 #[s0,s1,s2,s3,s4,s5,vi c1,vi c2,s8,.val (.long x),.second,vr ex,vi (.ofNat (own_u8 cs).length),s13,.unset,.unset,.unset,.unset] [(.ref b1),(.ref b1)])) rfl (by rw [hml]; rfl) (argsL:=[]) (rest:=[(.ref b1)]) (lenOf own_pd14 rfl) rfl (hb hby at_275) rfl e1 (show cells+1+2≤56 by omega) (show slots+1+20≤448 by omega)
  have N5:=Fr.app N0 N5q
  refine oS st5 ?_
  have z6:=K5_.1
  have O7:=Old.keep O3 K5_ (allS (by omega) all0)
  have K8:=K4.trans K5_ (allS (Or.inr (by omega)) all0)
  show gH (T5.setTop (mkF m 278 #[s0,s1,s2,s3,s4,s5,vi c1,vi c2,s8,.val (.long x),.second,vr ex,vi (.ofNat (own_u8 cs).length),s13,.unset,.unset,.unset,.unset] [(.ref b1)])) ..
  have ltsb:=oL HB.1.1.lt
  have ltbv:=oL HB.2.lt
  have HBx:=HB.1
  refine oS (fun _=>XS.astoreS X5.here hx rfl (hb hby at_278) rfl rfl rfl rfl h13) ?_
  refine oS (fun _=>XS.aload X5.here hx rfl (hb hby at_280) rfl rfl) ?_
  show gH (T5.setTop (mkF m 282 #[s0,s1,s2,s3,s4,s5,vi c1,vi c2,s8,.val (.long x),.second,vr ex,vi (.ofNat (own_u8 cs).length),vr b1,.unset,.unset,.unset,.unset] [(.ref b1)])) ..
  obtain ⟨_,T9,L9,X9,⟨b0,kb0,rfl,N9q,K9_,gb0,Vb0⟩,st9⟩:=own_cV X5 hx hZ hown (own_byL l Z a0 hw [] b1 sb bv u8 kb [] w1 T5.heap O7 S1 hw1 SU SV (by decide) (fun c hc=>nomatch hc) (Or.inl rfl) Fte HB) (oW hw 35 rfl) (oW hw 36 rfl) (oW hw 38 rfl) (oW hw 37 rfl) (own_clsP (y:=(⟨"com/example/sluse/sluse/TextExposition","bytes","()[B"⟩ : MethodName)) (oW hw 38 rfl)) Ete (oW hw 7 rfl) (oW hw 39 rfl) (W:=0) (g:=(mkF m 282 #[s0,s1,s2,s3,s4,s5,vi c1,vi c2,s8,.val (.long x),.second,vr ex,vi (.ofNat (own_u8 cs).length),vr b1,.unset,.unset,.unset,.unset] [(.ref b1)])) rfl (by rw [hml]; rfl) (argsL:=[]) (rest:=[]) (lenOf own_pd21 rfl) rfl (hb hby at_282) rfl rfl (show cells+1+2+4≤56 by omega) (show slots+1+20+60≤448 by omega)
  have N9:=Fr.app N5 N9q
  refine oS st9 ?_
  have z10:=K9_.1
  have O11:=Old.keep O7 K9_ all0
  have K12:=K8.trans K9_ all0
  show gH (T9.setTop (mkF m 285 #[s0,s1,s2,s3,s4,s5,vi c1,vi c2,s8,.val (.long x),.second,vr ex,vi (.ofNat (own_u8 cs).length),vr b1,.unset,.unset,.unset,.unset] [(.ref b0)])) ..
  have ltb0:=oL Vb0.lt
  refine oS (fun _=>XS.astore X9.here hx rfl (hb hby at_285) rfl rfl (l':=#[s0,s1,s2,s3,s4,s5,vi c1,vi c2,s8,.val (.long x),.second,vr ex,vi (.ofNat (own_u8 cs).length),vr b1,vr b0,.unset,.unset,.unset]) rfl) ?_
  show gH (T9.setTop (mkF m 287 #[s0,s1,s2,s3,s4,s5,vi c1,vi c2,s8,.val (.long x),.second,vr ex,vi (.ofNat (own_u8 cs).length),vr b1,vr b0,.unset,.unset,.unset] [])) ..
  obtain ⟨T13,h13,X13,e13,E13,A13,D13,-,st13⟩:=newO X9 hx hZ hown (oW hw 135 rfl) (oW hw 46 rfl) (oW hw 28 rfl) rfl (g:=(mkF m 287 #[s0,s1,s2,s3,s4,s5,vi c1,vi c2,s8,.val (.long x),.second,vr ex,vi (.ofNat (own_u8 cs).length),vr b1,vr b0,.unset,.unset,.unset] [])) rfl (hb hby at_287) (show cells+1+2+4+1≤56 by omega) (show slots+1+20+60+4≤448 by omega)
  obtain ⟨b13,g13⟩ : ∃ z,z = T9.heap.size:=⟨_,rfl⟩
  rw [← g13] at A13 D13 st13
  refine oS st13 ?_
  have z14:=E13.1
  have O15:=Old.ext O11 E13
  have K16:=K12.ext E13
  have F13_coder : Fld Z h13 b13 "java/lang/String" "coder" "B" (.int 0):=D13 (Or.inr (oW hw 77 rfl)) (ty:=.byte) (by decide)
  have F13_value : Fld Z h13 b13 "java/lang/String" "value" "[B" .null:=D13 (Or.inr (oW hw 97 rfl)) (ty:=(.array .byte)) (by decide)
  have lt13:=oL A13.lt
  show gH (T13.setTop (mkF m 290 #[s0,s1,s2,s3,s4,s5,vi c1,vi c2,s8,.val (.long x),.second,vr ex,vi (.ofNat (own_u8 cs).length),vr b1,vr b0,.unset,.unset,.unset] [(.ref b13)])) ..
  refine oS (fun _=>XS.dup X13.here hx rfl (hb hby at_290) rfl rfl) ?_
  refine oS (fun _=>XS.iconst X13.here hx rfl (hb hby at_291)) ?_
  show gH (T13.setTop (mkF m 292 #[s0,s1,s2,s3,s4,s5,vi c1,vi c2,s8,.val (.long x),.second,vr ex,vi (.ofNat (own_u8 cs).length),vr b1,vr b0,.unset,.unset,.unset] [(.int 2),(.ref b13),(.ref b13)])) ..
  obtain ⟨T17,h17,k17,X17,e17,E17,A17,st17⟩:=newP X13 hx hZ (oW hw 136 rfl) e13 (g:=(mkF m 292 #[s0,s1,s2,s3,s4,s5,vi c1,vi c2,s8,.val (.long x),.second,vr ex,vi (.ofNat (own_u8 cs).length),vr b1,vr b0,.unset,.unset,.unset] [(.int 2),(.ref b13),(.ref b13)])) rfl (hb hby at_292) rfl (by decide) (cap:=2) (by decide) (by decide) (show cells+1+2+4+1+1≤56 by omega) (show slots+1+20+60+4+2≤448 by omega)
  obtain ⟨b17,g17⟩ : ∃ z,z = h13.size:=⟨_,rfl⟩
  rw [← g17] at A17 st17
  refine oS st17 ?_
  have z18:=E17.1
  have O19:=Old.ext O15 E17
  have K20:=K16.ext E17
  have V17 : Arv Z h17 b17 k17 .char (2:Int32) [(.int 0),(.int 0)] (.int 0):=(Arv.new A17 (by decide)).pad (pad_rep [] (.int 0) 2)
  have lt17:=oL A17.lt
  show gH (T17.setTop (mkF m 294 #[s0,s1,s2,s3,s4,s5,vi c1,vi c2,s8,.val (.long x),.second,vr ex,vi (.ofNat (own_u8 cs).length),vr b1,vr b0,.unset,.unset,.unset] [(.ref b17),(.ref b13),(.ref b13)])) ..
  refine oS (fun _=>XS.dup X17.here hx rfl (hb hby at_294) rfl rfl) ?_
  refine oS (fun _=>XS.iconst X17.here hx rfl (hb hby at_295)) ?_
  refine oS (fun _=>XS.iload X17.here hx rfl (hb hby at_296) rfl) ?_
  refine oS (fun _=>XS.i2c X17.here hx rfl (hb hby at_298) rfl) ?_
  show gH (T17.setTop (mkF m 299 #[s0,s1,s2,s3,s4,s5,vi c1,vi c2,s8,.val (.long x),.second,vr ex,vi (.ofNat (own_u8 cs).length),vr b1,vr b0,.unset,.unset,.unset] [(.int (c1.toUInt32.toUInt16.toUInt32.toInt32)),(.int 0),(.ref b17),(.ref b17),(.ref b13),(.ref b13)])) ..
  rw [own_i2c hc1]
  show gH (T17.setTop (mkF m 299 #[s0,s1,s2,s3,s4,s5,vi c1,vi c2,s8,.val (.long x),.second,vr ex,vi (.ofNat (own_u8 cs).length),vr b1,vr b0,.unset,.unset,.unset] [(.int c1),(.int 0),(.ref b17),(.ref b17),(.ref b13),(.ref b13)])) ..
  obtain ⟨cl21,Ar21,qk21,Sz21,Mz21,Hz21,Uz21⟩:=id V17
  obtain ⟨T22,h22,X22,e22,W22,st22⟩:=stC X17 hx hZ e17 Ar21 (j:=(0:Int32)) (inb_of Sz21 ⟨by decide,by decide⟩) (g:=(mkF m 299 #[s0,s1,s2,s3,s4,s5,vi c1,vi c2,s8,.val (.long x),.second,vr ex,vi (.ofNat (own_u8 cs).length),vr b1,vr b0,.unset,.unset,.unset] [(.int c1),(.int 0),(.ref b17),(.ref b17),(.ref b13),(.ref b13)])) rfl rfl (hb hby at_299)
  refine oS st22 ?_
  have V22:=Arv.set Ar21 qk21 Sz21 Mz21 Hz21 Uz21 (fits_nar_char _) W22 0 rfl (Nat.le_of_ble_eq_true rfl)
  have z23:=W22.size
  have O24:=Old.wr O19 W22 (by omega)
  have K25:=K20.wr W22 (Or.inr (by omega))
  have N22:=Fr.snoc X22 N9 (by omega : Z.heap.size≤b17)
  have V22' : Arv Z h22 b17 k17 .char (2:Int32) [(.int (nar .char c1)),(.int 0)] (.int 0):=V22
  show gH (T22.setTop (mkF m 300 #[s0,s1,s2,s3,s4,s5,vi c1,vi c2,s8,.val (.long x),.second,vr ex,vi (.ofNat (own_u8 cs).length),vr b1,vr b0,.unset,.unset,.unset] [(.ref b17),(.ref b13),(.ref b13)])) ..
  refine oS (fun _=>XS.dup X22.here hx rfl (hb hby at_300) rfl rfl) ?_
  refine oS (fun _=>XS.iconst X22.here hx rfl (hb hby at_301)) ?_
  refine oS (fun _=>XS.iload X22.here hx rfl (hb hby at_302) rfl) ?_
  refine oS (fun _=>XS.i2c X22.here hx rfl (hb hby at_304) rfl) ?_
  show gH (T22.setTop (mkF m 305 #[s0,s1,s2,s3,s4,s5,vi c1,vi c2,s8,.val (.long x),.second,vr ex,vi (.ofNat (own_u8 cs).length),vr b1,vr b0,.unset,.unset,.unset] [(.int (c2.toUInt32.toUInt16.toUInt32.toInt32)),(.int 1),(.ref b17),(.ref b17),(.ref b13),(.ref b13)])) ..
  rw [own_i2c hc2]
  show gH (T22.setTop (mkF m 305 #[s0,s1,s2,s3,s4,s5,vi c1,vi c2,s8,.val (.long x),.second,vr ex,vi (.ofNat (own_u8 cs).length),vr b1,vr b0,.unset,.unset,.unset] [(.int c2),(.int 1),(.ref b17),(.ref b17),(.ref b13),(.ref b13)])) ..
  obtain ⟨cl26,Ar26,qk26,Sz26,Mz26,Hz26,Uz26⟩:=id V22'
  obtain ⟨T27,h27,X27,e27,W27,st27⟩:=stC X22 hx hZ e22 Ar26 (j:=(1:Int32)) (inb_of Sz26 ⟨by decide,by decide⟩) (g:=(mkF m 305 #[s0,s1,s2,s3,s4,s5,vi c1,vi c2,s8,.val (.long x),.second,vr ex,vi (.ofNat (own_u8 cs).length),vr b1,vr b0,.unset,.unset,.unset] [(.int c2),(.int 1),(.ref b17),(.ref b17),(.ref b13),(.ref b13)])) rfl rfl (hb hby at_305)
  refine oS st27 ?_
  have V27:=Arv.set Ar26 qk26 Sz26 Mz26 Hz26 Uz26 (fits_nar_char _) W27 1 rfl (Nat.le_of_ble_eq_true rfl)
  have z28:=W27.size
  have O29:=Old.wr O24 W27 (by omega)
  have K30:=K25.wr W27 (Or.inr (by omega))
  have N27:=Fr.snoc X27 N22 (by omega : Z.heap.size≤b17)
  have V27' : Arv Z h27 b17 k17 .char (2:Int32) [(.int (nar .char c1)),(.int (nar .char c2))] (.int 0):=V27
  show gH (T27.setTop (mkF m 306 #[s0,s1,s2,s3,s4,s5,vi c1,vi c2,s8,.val (.long x),.second,vr ex,vi (.ofNat (own_u8 cs).length),vr b1,vr b0,.unset,.unset,.unset] [(.ref b17),(.ref b13),(.ref b13)])) ..
  have Vc : Arv Z h27 b17 k17 .char (Int32.ofNat 2) (oV (own_cf c1 c2) 2) (.int 0):=by have q:=V27'; rw [own_narc hc1,own_narc hc2] at q; exact q
  have q31:=(((A13.ext E17).wr W22).wr W27)
  have q32:=(((F13_value.ext E17).other W22 (Or.inl (show @Ne Nat b13 b17 by omega))).other W27 (Or.inl (show @Ne Nat b13 b17 by omega)))
  have q33:=(((F13_coder.ext E17).other W22 (Or.inl (show @Ne Nat b13 b17 by omega))).other W27 (Or.inl (show @Ne Nat b13 b17 by omega)))
  obtain ⟨_,T34,L34,X34,⟨rfl,N34q,K34_,t,kt,gt,Hs⟩,st34⟩:=own_cI X27 hx hZ hown (own_newS l Z a0 hw [] b13 b17 2 (own_cf c1 c2) k17 w1 .null (.int 0) h27 O29 (by decide) (by decide) (fun j _=>by unfold own_cf; split; exact hc1; exact hc2) US S1 hw1 (by omega) (show @Ne Nat b13 b17 by omega) q31 q32 q33 Vc) (oW hw 137 rfl) (oW hw 138 rfl) (a:=b13) rfl rfl (oW hw 28 rfl) (oW hw 139 rfl) (W:=1) (g:=(mkF m 306 #[s0,s1,s2,s3,s4,s5,vi c1,vi c2,s8,.val (.long x),.second,vr ex,vi (.ofNat (own_u8 cs).length),vr b1,vr b0,.unset,.unset,.unset] [(.ref b17),(.ref b13),(.ref b13)])) rfl (by rw [hml]; rfl) (argsL:=[(.ref b17)]) (rest:=[(.ref b13)]) (lenOf own_pd87 rfl) rfl (hb hby at_306) rfl e27 (show cells+1+2+4+1+1+2≤56 by omega) (show slots+1+20+60+4+2+48≤448 by omega)
  have N34:=Fr.app N27 N34q
  refine oS st34 ?_
  have z35:=K34_.1
  have O36:=Old.keep O29 K34_ (allS (by omega) all0)
  have K37:=K30.trans K34_ (allS (Or.inr (by omega)) all0)
  show gH (T34.setTop (mkF m 309 #[s0,s1,s2,s3,s4,s5,vi c1,vi c2,s8,.val (.long x),.second,vr ex,vi (.ofNat (own_u8 cs).length),vr b1,vr b0,.unset,.unset,.unset] [(.ref b13)])) ..
  obtain ⟨Es,cd,Fc,Fv,c0⟩:=Hs
  refine oS (fun _=>XS.astore X34.here hx rfl (hb hby at_309) rfl rfl (l':=#[s0,s1,s2,s3,s4,s5,vi c1,vi c2,s8,.val (.long x),.second,vr ex,vi (.ofNat (own_u8 cs).length),vr b1,vr b0,vr b13,.unset,.unset]) rfl) ?_
  refine oS (fun _=>XS.aload X34.here hx rfl (hb hby at_311) rfl rfl) ?_
  refine oS (fun _=>XS.aload X34.here hx rfl (hb hby at_313) rfl rfl) ?_
  refine oS (fun _=>XS.lload X34.here hx rfl (hb hby at_315) rfl) ?_
  refine oS (fun _=>XS.iconst X34.here hx rfl (hb hby at_317)) ?_
  show gH (T34.setTop (mkF m 318 #[s0,s1,s2,s3,s4,s5,vi c1,vi c2,s8,.val (.long x),.second,vr ex,vi (.ofNat (own_u8 cs).length),vr b1,vr b0,vr b13,.unset,.unset] [(.int 0),(.long x),(.ref b13),(.ref b1)])) ..
  obtain ⟨T38,h38,k38,X38,e38,E38,A38,OV38,st38⟩:=newR X34 hx hZ hown (oW hw 135 rfl) (oW hw 172 rfl) rfl (g:=(mkF m 318 #[s0,s1,s2,s3,s4,s5,vi c1,vi c2,s8,.val (.long x),.second,vr ex,vi (.ofNat (own_u8 cs).length),vr b1,vr b0,vr b13,.unset,.unset] [(.int 0),(.long x),(.ref b13),(.ref b1)])) rfl (hb hby at_318) rfl (by decide) (cap:=0) (by decide) (by decide) (show cells+1+2+4+1+1+2+1≤56 by omega) (show slots+1+20+60+4+2+48+0≤448 by omega)
  obtain ⟨b38,g38⟩ : ∃ z,z = T34.heap.size:=⟨_,rfl⟩
  rw [← g38] at A38 st38
  refine oS st38 ?_
  have z39:=E38.1
  have O40:=Old.ext O36 E38
  have K41:=K37.ext E38
  have V38 : Arv Z h38 b38 k38 (.object "java/lang/String") (0:Int32) [] .null:=Arv.new A38 (by decide)
  have lt38:=oL A38.lt
  show gH (T38.setTop (mkF m 321 #[s0,s1,s2,s3,s4,s5,vi c1,vi c2,s8,.val (.long x),.second,vr ex,vi (.ofNat (own_u8 cs).length),vr b1,vr b0,vr b13,.unset,.unset] [(.ref b38),(.long x),(.ref b13),(.ref b1)])) ..
  rcases c0 with ⟨rfl,hall,Vt⟩ | ⟨rfl,Vt⟩
  · skip
    have ltt:=oL Vt.lt
    have q42:=(Es.ext E38)
    have q43:=(Fc.ext E38)
    have q44:=(Fv.ext E38)
    have q45:=(Vt.ext E38)
    have Hn : own_StL Z h38 b13 t kt [c1,c2]:=⟨q42,q43,q44,q45⟩
    have q46:=(((((((HBx.1.keep K9_).ext E13).ext E17).wr W22).wr W27).keep K34_).ext E38)
    have q47:=(((((((HBx.2.1.keep K9_ nin0).ext E13).ext E17).other W22 (Or.inl (show @Ne Nat sb b17 by omega))).other W27 (Or.inl (show @Ne Nat sb b17 by omega))).keep K34_ (ninS (show @Ne Nat sb b13 by omega) nin0)).ext E38)
    have q48:=(((((((HBx.2.2.1.keep K9_ nin0).ext E13).ext E17).other W22 (Or.inl (show @Ne Nat sb b17 by omega))).other W27 (Or.inl (show @Ne Nat sb b17 by omega))).keep K34_ (ninS (show @Ne Nat sb b13 by omega) nin0)).ext E38)
    have q49:=(((((((HBx.2.2.2.1.keep K9_ nin0).ext E13).ext E17).other W22 (Or.inl (show @Ne Nat sb b17 by omega))).other W27 (Or.inl (show @Ne Nat sb b17 by omega))).keep K34_ (ninS (show @Ne Nat sb b13 by omega) nin0)).ext E38)
    have q50:=(((((((HBx.2.2.2.2.keep K9_ nin0).ext E13).ext E17).other W22 (Or.inl (show @Ne Nat sb b17 by omega))).other W27 (Or.inl (show @Ne Nat sb b17 by omega))).keep K34_ (ninS (show @Ne Nat sb b13 by omega) nin0)).ext E38)
    have q51:=(((((((HB.2.keep K9_ nin0).ext E13).ext E17).other W22 (show @Ne Nat bv b17 by omega)).other W27 (show @Ne Nat bv b17 by omega)).keep K34_ (ninS (show @Ne Nat bv b13 by omega) nin0)).ext E38)
    have q52:=(((((((Ete.keep K9_).ext E13).ext E17).wr W22).wr W27).keep K34_).ext E38)
    have q53:=(((((((Fte.keep K9_ nin0).ext E13).ext E17).other W22 (Or.inl (show @Ne Nat b1 b17 by omega))).other W27 (Or.inl (show @Ne Nat b1 b17 by omega))).keep K34_ (ninS (show @Ne Nat b1 b13 by omega) nin0)).ext E38)
    obtain ⟨_,T54,L54,X54,⟨rfl,N54q,K54_,HB2⟩,st54⟩:=own_cV X38 hx hZ hown (own_sj3L l Z a0 hw [] b1 b13 x b38 sb bv t ea el dg kb kt kea k38 kdg [c1,c2] ds w1 fm h38 O40 S1 hw1 US SF hfm SE Ee Fe Ve SD Dg (by omega) (by omega) (show @Ne Nat sb bv by omega) (show @Ne Nat t bv by omega) (show @Ne Nat t sb by omega) (show @Ne Nat b13 sb by omega) (show @Ne Nat b13 bv by omega) (show @Ne Nat b1 sb by omega) (show @Ne Nat b1 bv by omega) rfl hnum q52 q53 ⟨⟨q46,q47,q48,q49,q50⟩,q51⟩ Hn V38) (oW hw 173 rfl) (oW hw 174 rfl) (oW hw 176 rfl) (oW hw 175 rfl) (own_clsP (y:=(⟨"com/example/sluse/sluse/TextExposition","sample","(Ljava/lang/String;J[Ljava/lang/String;)V"⟩ : MethodName)) (oW hw 176 rfl)) q52 (oW hw 7 rfl) (oW hw 177 rfl) (W:=0) (g:=(mkF m 321 #[s0,s1,s2,s3,s4,s5,vi c1,vi c2,s8,.val (.long x),.second,vr ex,vi (.ofNat (own_u8 cs).length),vr b1,vr b0,vr b13,.unset,.unset] [(.ref b38),(.long x),(.ref b13),(.ref b1)])) rfl (by rw [hml]; rfl) (argsL:=[(.ref b13),(.long x),(.ref b38)]) (rest:=[]) (lenOf own_pd95 rfl) rfl (hb hby at_321) rfl e38 (show cells+1+2+4+1+1+2+1+3≤56 by omega) (show slots+1+20+60+4+2+48+0+38≤448 by omega)
    have N54:=Fr.app N34 N54q
    refine oS st54 ?_
    have z55:=K54_.1
    have O56:=Old.keep O40 K54_ (allS (by omega) (allS (by omega) all0))
    have K57:=K41.trans K54_ (allS (Or.inr (by omega)) (allS (Or.inr (by omega)) all0))
    show gH (T54.setTop (mkF m 324 #[s0,s1,s2,s3,s4,s5,vi c1,vi c2,s8,.val (.long x),.second,vr ex,vi (.ofNat (own_u8 cs).length),vr b1,vr b0,vr b13,.unset,.unset] [])) ..
    rw [hCS] at HB2
    have lt2:=oL HB2.2.lt
    have lt3:=oL HB2.1.1.lt
    have HB3:=HB2.1
    have hlr : ∀ c∈cs,0≤c.toInt∧¬ (255:Int32) < c:=by
      intro c hc
      rw [← hCS] at hc
      simp only [List.mem_append,List.mem_cons,List.not_mem_nil,or_false] at hc
      rcases hc with (((rfl | rfl) | rfl) | hc) | rfl
      · exact ⟨hc1.1,hall 0 (by decide)⟩
      · exact ⟨hc2.1,hall 1 (by decide)⟩
      · exact ⟨by decide,by decide⟩
      · exact own_r128 (own_num_r hnum c hc)
      · exact ⟨by decide,by decide⟩
    refine oS (fun _=>XS.aload X54.here hx rfl (hb hby at_324) rfl rfl) ?_
    show gH (T54.setTop (mkF m 326 #[s0,s1,s2,s3,s4,s5,vi c1,vi c2,s8,.val (.long x),.second,vr ex,vi (.ofNat (own_u8 cs).length),vr b1,vr b0,vr b13,.unset,.unset] [(.ref b1)])) ..
    have q58:=(q53.keep K54_ (ninS (show @Ne Nat b1 sb by omega) (ninS (show @Ne Nat b1 bv by omega) nin0)))
    have q60:=(q52.keep K54_)
    obtain ⟨_,T59,L59,X59,⟨g1_,kg1,rfl,N59q,K59_,gg1,Vg1⟩,st59⟩:=own_cV X54 hx hZ hown (own_byL l Z a0 hw [] b1 sb bv u8 kb cs w1 T54.heap O56 S1 hw1 SU SV hcl hlr (Or.inr hu) q58 ⟨⟨HB3.1,HB3.2.1,HB3.2.2.1,HB3.2.2.2.1,HB3.2.2.2.2⟩,HB2.2⟩) (oW hw 35 rfl) (oW hw 36 rfl) (oW hw 38 rfl) (oW hw 37 rfl) (own_clsP (y:=(⟨"com/example/sluse/sluse/TextExposition","bytes","()[B"⟩ : MethodName)) (oW hw 38 rfl)) q60 (oW hw 7 rfl) (oW hw 39 rfl) (W:=0) (g:=(mkF m 326 #[s0,s1,s2,s3,s4,s5,vi c1,vi c2,s8,.val (.long x),.second,vr ex,vi (.ofNat (own_u8 cs).length),vr b1,vr b0,vr b13,.unset,.unset] [(.ref b1)])) rfl (by rw [hml]; rfl) (argsL:=[]) (rest:=[]) (lenOf own_pd21 rfl) rfl (hb hby at_326) rfl rfl (show cells+1+2+4+1+1+2+1+3+4≤56 by omega) (show slots+1+20+60+4+2+48+0+38+60≤448 by omega)
    have N59:=Fr.app N54 N59q
    refine oS st59 ?_
    have z61:=K59_.1
    have O62:=Old.keep O56 K59_ all0
    have K63:=K57.trans K59_ all0
    show gH (T59.setTop (mkF m 329 #[s0,s1,s2,s3,s4,s5,vi c1,vi c2,s8,.val (.long x),.second,vr ex,vi (.ofNat (own_u8 cs).length),vr b1,vr b0,vr b13,.unset,.unset] [(.ref g1_)])) ..
    have ltg1:=oL Vg1.lt
    refine oS (fun _=>XS.astore X59.here hx rfl (hb hby at_329) rfl rfl (l':=#[s0,s1,s2,s3,s4,s5,vi c1,vi c2,s8,.val (.long x),.second,vr ex,vi (.ofNat (own_u8 cs).length),vr b1,vr b0,vr b13,vr g1_,.unset]) rfl) ?_
    refine oS (fun _=>XS.aload X59.here hx rfl (hb hby at_331) rfl rfl) ?_
    show gH (T59.setTop (mkF m 333 #[s0,s1,s2,s3,s4,s5,vi c1,vi c2,s8,.val (.long x),.second,vr ex,vi (.ofNat (own_u8 cs).length),vr b1,vr b0,vr b13,vr g1_,.unset] [(.ref b1)])) ..
    have q64:=(HB3.1.keep K59_)
    have q65:=(HB3.2.1.keep K59_ nin0)
    have q66:=(HB3.2.2.1.keep K59_ nin0)
    have q67:=(HB3.2.2.2.1.keep K59_ nin0)
    have q68:=(HB3.2.2.2.2.keep K59_ nin0)
    have q69:=(HB2.2.keep K59_ nin0)
    have q70:=(q58.keep K59_ nin0)
    have q72:=(q60.keep K59_)
    obtain ⟨_,T71,L71,X71,⟨g2_,kg2,rfl,N71q,K71_,gg2,Vg2⟩,st71⟩:=own_cV X59 hx hZ hown (own_byL l Z a0 hw [] b1 sb bv u8 kb cs w1 T59.heap O62 S1 hw1 SU SV hcl hlr (Or.inr hu) q70 ⟨⟨q64,q65,q66,q67,q68⟩,q69⟩) (oW hw 35 rfl) (oW hw 36 rfl) (oW hw 38 rfl) (oW hw 37 rfl) (own_clsP (y:=(⟨"com/example/sluse/sluse/TextExposition","bytes","()[B"⟩ : MethodName)) (oW hw 38 rfl)) q72 (oW hw 7 rfl) (oW hw 39 rfl) (W:=0) (g:=(mkF m 333 #[s0,s1,s2,s3,s4,s5,vi c1,vi c2,s8,.val (.long x),.second,vr ex,vi (.ofNat (own_u8 cs).length),vr b1,vr b0,vr b13,vr g1_,.unset] [(.ref b1)])) rfl (by rw [hml]; rfl) (argsL:=[]) (rest:=[]) (lenOf own_pd21 rfl) rfl (hb hby at_333) rfl rfl (show cells+1+2+4+1+1+2+1+3+4+4≤56 by omega) (show slots+1+20+60+4+2+48+0+38+60+60≤448 by omega)
    have N71:=Fr.app N59 N71q
    refine oS st71 ?_
    have z73:=K71_.1
    have O74:=Old.keep O62 K71_ all0
    have K75:=K63.trans K71_ all0
    show gH (T71.setTop (mkF m 336 #[s0,s1,s2,s3,s4,s5,vi c1,vi c2,s8,.val (.long x),.second,vr ex,vi (.ofNat (own_u8 cs).length),vr b1,vr b0,vr b13,vr g1_,.unset] [(.ref g2_)])) ..
    have ltg2:=oL Vg2.lt
    refine oS (fun _=>XS.astore X71.here hx rfl (hb hby at_336) rfl rfl (l':=#[s0,s1,s2,s3,s4,s5,vi c1,vi c2,s8,.val (.long x),.second,vr ex,vi (.ofNat (own_u8 cs).length),vr b1,vr b0,vr b13,vr g1_,vr g2_]) rfl) ?_
    refine oS (fun _=>XS.aload X71.here hx rfl (hb hby at_338) rfl rfl) ?_
    show gH (T71.setTop (mkF m 340 #[s0,s1,s2,s3,s4,s5,vi c1,vi c2,s8,.val (.long x),.second,vr ex,vi (.ofNat (own_u8 cs).length),vr b1,vr b0,vr b13,vr g1_,vr g2_] [(.ref b0)])) ..
    have q76:=(((((((((Vb0.ext E13).ext E17).other W22 (show @Ne Nat b0 b17 by omega)).other W27 (show @Ne Nat b0 b17 by omega)).keep K34_ (ninS (show @Ne Nat b0 b13 by omega) nin0)).ext E38).keep K54_ (ninS (show @Ne Nat b0 sb by omega) (ninS (show @Ne Nat b0 bv by omega) nin0))).keep K59_ nin0).keep K71_ nin0)
    obtain ⟨cl77,Ar77,qk77,Sz77,Mz77,Hz77,Uz77⟩:=id q76
    refine oS (X71.arraylength hx Ar77.1 (State.isArrayOf_alike hZ.alike Ar77.2.1) (g:=(mkF m 340 #[s0,s1,s2,s3,s4,s5,vi c1,vi c2,s8,.val (.long x),.second,vr ex,vi (.ofNat (own_u8 cs).length),vr b1,vr b0,vr b13,vr g1_,vr g2_] [(.ref b0)])) rfl rfl (hb hby at_340)) ?_
    rw [len_of Sz77 Mz77]
    show gH (T71.setTop (mkF m 341 #[s0,s1,s2,s3,s4,s5,vi c1,vi c2,s8,.val (.long x),.second,vr ex,vi (.ofNat (own_u8 cs).length),vr b1,vr b0,vr b13,vr g1_,vr g2_] [(.int (.ofNat (own_u8 []).length))])) ..
    refine oS (fun _=>XS.ifNo X71.here hx rfl (hb hby at_341) rfl ((if0 _ _).trans (teq rfl).2)) ?_
    refine oS (fun _=>XS.aload X71.here hx rfl (hb hby at_344) rfl rfl) ?_
    refine oS (fun _=>XS.aload X71.here hx rfl (hb hby at_346) rfl rfl) ?_
    refine oS (fun _=>XS.iload X71.here hx rfl (hb hby at_348) rfl) ?_
    show gH (T71.setTop (mkF m 350 #[s0,s1,s2,s3,s4,s5,vi c1,vi c2,s8,.val (.long x),.second,vr ex,vi (.ofNat (own_u8 cs).length),vr b1,vr b0,vr b13,vr g1_,vr g2_] [(.int (.ofNat (own_u8 cs).length)),(.ref ex),(.ref g1_)])) ..
    have q78:=(Vg1.keep K71_ nin0)
    have q79:=((((((((((((Vx.ext E1).keep K5_ (ninS (show @Ne Nat ex b1 by omega) nin0)).keep K9_ nin0).ext E13).ext E17).other W22 (show @Ne Nat ex b17 by omega)).other W27 (show @Ne Nat ex b17 by omega)).keep K34_ (ninS (show @Ne Nat ex b13 by omega) nin0)).ext E38).keep K54_ (ninS (show @Ne Nat ex sb by omega) (ninS (show @Ne Nat ex bv by omega) nin0))).keep K59_ nin0).keep K71_ nin0)
    obtain ⟨_,T80,L80,X80,⟨rfl,N80q,eh80⟩,st80⟩:=own_cS X71 hx hZ hown (own_sameB l Z a0 hw [] g1_ ex (own_u8 cs) kg1 kx T71.heap O74 (by omega) hint q78 q79) (oW hw 339 rfl) (oW hw 340 rfl) (oW hw 341 rfl) (oW hw 342 rfl) (W:=0) (g:=(mkF m 350 #[s0,s1,s2,s3,s4,s5,vi c1,vi c2,s8,.val (.long x),.second,vr ex,vi (.ofNat (own_u8 cs).length),vr b1,vr b0,vr b13,vr g1_,vr g2_] [(.int (.ofNat (own_u8 cs).length)),(.ref ex),(.ref g1_)])) rfl (by rw [hml]; rfl) (argsL:=[(.ref g1_),(.ref ex),(.int (.ofNat (own_u8 cs).length))]) (rest:=[]) (lenOf own_pd109 rfl) rfl (hb hby at_350) rfl rfl (show cells+1+2+4+1+1+2+1+3+4+4+0≤56 by omega) (show slots+1+20+60+4+2+48+0+38+60+60+0≤448 by omega)
    have N80:=Fr.app N71 N80q
    refine oS st80 ?_
    show gH (T80.setTop (mkF m 353 #[s0,s1,s2,s3,s4,s5,vi c1,vi c2,s8,.val (.long x),.second,vr ex,vi (.ofNat (own_u8 cs).length),vr b1,vr b0,vr b13,vr g1_,vr g2_] [(.int 1)])) ..
    refine oS (fun _=>XS.ifNo X80.here hx rfl (hb hby at_353) rfl ((if0 _ _).trans (feq (by decide)).1)) ?_
    refine oS (fun _=>XS.aload X80.here hx rfl (hb hby at_356) rfl rfl) ?_
    refine oS (fun _=>XS.aload X80.here hx rfl (hb hby at_358) rfl rfl) ?_
    refine oS (fun _=>XS.iload X80.here hx rfl (hb hby at_360) rfl) ?_
    show gH (T80.setTop (mkF m 362 #[s0,s1,s2,s3,s4,s5,vi c1,vi c2,s8,.val (.long x),.second,vr ex,vi (.ofNat (own_u8 cs).length),vr b1,vr b0,vr b13,vr g1_,vr g2_] [(.int (.ofNat (own_u8 cs).length)),(.ref ex),(.ref g2_)])) ..
    obtain ⟨_,T81,L81,X81,⟨rfl,N81q,eh81⟩,st81⟩:=own_cS X80 hx hZ hown (own_sameB l Z a0 hw [] g2_ ex (own_u8 cs) kg2 kx T71.heap O74 (by omega) hint Vg2 q79) (oW hw 339 rfl) (oW hw 340 rfl) (oW hw 341 rfl) (oW hw 342 rfl) (W:=0) (g:=(mkF m 362 #[s0,s1,s2,s3,s4,s5,vi c1,vi c2,s8,.val (.long x),.second,vr ex,vi (.ofNat (own_u8 cs).length),vr b1,vr b0,vr b13,vr g1_,vr g2_] [(.int (.ofNat (own_u8 cs).length)),(.ref ex),(.ref g2_)])) rfl (by rw [hml]; rfl) (argsL:=[(.ref g2_),(.ref ex),(.int (.ofNat (own_u8 cs).length))]) (rest:=[]) (lenOf own_pd109 rfl) rfl (hb hby at_362) rfl eh80 (show cells+1+2+4+1+1+2+1+3+4+4+0+0≤56 by omega) (show slots+1+20+60+4+2+48+0+38+60+60+0+0≤448 by omega)
    have N81:=Fr.app N80 N81q
    refine oS st81 ?_
    show gH (T81.setTop (mkF m 365 #[s0,s1,s2,s3,s4,s5,vi c1,vi c2,s8,.val (.long x),.second,vr ex,vi (.ofNat (own_u8 cs).length),vr b1,vr b0,vr b13,vr g1_,vr g2_] [(.int 1)])) ..
    refine oS (fun _=>XS.ifNo X81.here hx rfl (hb hby at_365) rfl ((if0 _ _).trans (feq (by decide)).1)) ?_
    refine oS (fun _=>XS.iconst X81.here hx rfl (hb hby at_368)) ?_
    refine oS (fun _=>XS.goto X81.here hx rfl (pc0:=369) (pc':=373) rfl (hb hby at_369) (by decide) (by decide)) ?_
    show gH (T81.setTop (mkF m 373 #[s0,s1,s2,s3,s4,s5,vi c1,vi c2,s8,.val (.long x),.second,vr ex,vi (.ofNat (own_u8 cs).length),vr b1,vr b0,vr b13,vr g1_,vr g2_] [(.int 1)])) ..
    exact own_retN X81 hx hret hlk (by simp) (hb hby at_373) ⟨rfl,N81⟩ (by omega) (by omega)
  · skip
    have ltt:=oL Vt.lt
    have q82:=(Es.ext E38)
    have q83:=(Fc.ext E38)
    have q84:=(Fv.ext E38)
    have q85:=(Vt.ext E38)
    have Hn : own_StU Z h38 b13 t kt [c1,c2]:=⟨q82,q83,q84,q85⟩
    have q86:=(((((((HBx.1.keep K9_).ext E13).ext E17).wr W22).wr W27).keep K34_).ext E38)
    have q87:=(((((((HBx.2.1.keep K9_ nin0).ext E13).ext E17).other W22 (Or.inl (show @Ne Nat sb b17 by omega))).other W27 (Or.inl (show @Ne Nat sb b17 by omega))).keep K34_ (ninS (show @Ne Nat sb b13 by omega) nin0)).ext E38)
    have q88:=(((((((HBx.2.2.1.keep K9_ nin0).ext E13).ext E17).other W22 (Or.inl (show @Ne Nat sb b17 by omega))).other W27 (Or.inl (show @Ne Nat sb b17 by omega))).keep K34_ (ninS (show @Ne Nat sb b13 by omega) nin0)).ext E38)
    have q89:=(((((((HBx.2.2.2.1.keep K9_ nin0).ext E13).ext E17).other W22 (Or.inl (show @Ne Nat sb b17 by omega))).other W27 (Or.inl (show @Ne Nat sb b17 by omega))).keep K34_ (ninS (show @Ne Nat sb b13 by omega) nin0)).ext E38)
    have q90:=(((((((HBx.2.2.2.2.keep K9_ nin0).ext E13).ext E17).other W22 (Or.inl (show @Ne Nat sb b17 by omega))).other W27 (Or.inl (show @Ne Nat sb b17 by omega))).keep K34_ (ninS (show @Ne Nat sb b13 by omega) nin0)).ext E38)
    have q91:=(((((((HB.2.keep K9_ nin0).ext E13).ext E17).other W22 (show @Ne Nat bv b17 by omega)).other W27 (show @Ne Nat bv b17 by omega)).keep K34_ (ninS (show @Ne Nat bv b13 by omega) nin0)).ext E38)
    have q92:=(((((((Ete.keep K9_).ext E13).ext E17).wr W22).wr W27).keep K34_).ext E38)
    have q93:=(((((((Fte.keep K9_ nin0).ext E13).ext E17).other W22 (Or.inl (show @Ne Nat b1 b17 by omega))).other W27 (Or.inl (show @Ne Nat b1 b17 by omega))).keep K34_ (ninS (show @Ne Nat b1 b13 by omega) nin0)).ext E38)
    obtain ⟨_,T94,L94,X94,⟨rfl,N94q,K94_,d,kd,gd,HB2⟩,st94⟩:=own_cV X38 hx hZ hown (own_sj3U l Z a0 hw [] b1 b13 x b38 sb bv t ea el dg kb kt kea k38 kdg [c1,c2] ds w1 fm h38 O40 S1 hw1 US SF hfm SE Ee Fe Ve SD Dg (by omega) (by omega) (show @Ne Nat sb bv by omega) (show @Ne Nat t bv by omega) (show @Ne Nat t sb by omega) (show @Ne Nat b13 sb by omega) (show @Ne Nat b13 bv by omega) (show @Ne Nat b1 sb by omega) (show @Ne Nat b1 bv by omega) rfl hnum q92 q93 ⟨⟨q86,q87,q88,q89,q90⟩,q91⟩ Hn V38) (oW hw 173 rfl) (oW hw 174 rfl) (oW hw 176 rfl) (oW hw 175 rfl) (own_clsP (y:=(⟨"com/example/sluse/sluse/TextExposition","sample","(Ljava/lang/String;J[Ljava/lang/String;)V"⟩ : MethodName)) (oW hw 176 rfl)) q92 (oW hw 7 rfl) (oW hw 177 rfl) (W:=0) (g:=(mkF m 321 #[s0,s1,s2,s3,s4,s5,vi c1,vi c2,s8,.val (.long x),.second,vr ex,vi (.ofNat (own_u8 cs).length),vr b1,vr b0,vr b13,.unset,.unset] [(.ref b38),(.long x),(.ref b13),(.ref b1)])) rfl (by rw [hml]; rfl) (argsL:=[(.ref b13),(.long x),(.ref b38)]) (rest:=[]) (lenOf own_pd95 rfl) rfl (hb hby at_321) rfl e38 (show cells+1+2+4+1+1+2+1+3≤56 by omega) (show slots+1+20+60+4+2+48+0+38≤448 by omega)
    have N94:=Fr.app N34 N94q
    refine oS st94 ?_
    have z95:=K94_.1
    have O96:=Old.keep O40 K94_ (allS (by omega) all0)
    have K97:=K41.trans K94_ (allS (Or.inr (by omega)) all0)
    show gH (T94.setTop (mkF m 324 #[s0,s1,s2,s3,s4,s5,vi c1,vi c2,s8,.val (.long x),.second,vr ex,vi (.ofNat (own_u8 cs).length),vr b1,vr b0,vr b13,.unset,.unset] [])) ..
    rw [hCS] at HB2
    have lt2:=oL HB2.2.lt
    have lt3:=oL HB2.1.1.lt
    have HB3:=HB2.1
    refine oS (fun _=>XS.aload X94.here hx rfl (hb hby at_324) rfl rfl) ?_
    show gH (T94.setTop (mkF m 326 #[s0,s1,s2,s3,s4,s5,vi c1,vi c2,s8,.val (.long x),.second,vr ex,vi (.ofNat (own_u8 cs).length),vr b1,vr b0,vr b13,.unset,.unset] [(.ref b1)])) ..
    have q98:=(q93.keep K94_ (ninS (show @Ne Nat b1 sb by omega) nin0))
    have q100:=(q92.keep K94_)
    obtain ⟨_,T99,L99,X99,⟨g1_,kg1,rfl,N99q,K99_,gg1,Vg1⟩,st99⟩:=own_cV X94 hx hZ hown (own_byU l Z a0 hw [] b1 sb d u8 kd cs w1 T94.heap O96 S1 hw1 SU SV US hcl hcr hwf hu q98 ⟨⟨HB3.1,HB3.2.1,HB3.2.2.1,HB3.2.2.2.1,HB3.2.2.2.2⟩,HB2.2⟩) (oW hw 35 rfl) (oW hw 36 rfl) (oW hw 38 rfl) (oW hw 37 rfl) (own_clsP (y:=(⟨"com/example/sluse/sluse/TextExposition","bytes","()[B"⟩ : MethodName)) (oW hw 38 rfl)) q100 (oW hw 7 rfl) (oW hw 39 rfl) (W:=0) (g:=(mkF m 326 #[s0,s1,s2,s3,s4,s5,vi c1,vi c2,s8,.val (.long x),.second,vr ex,vi (.ofNat (own_u8 cs).length),vr b1,vr b0,vr b13,.unset,.unset] [(.ref b1)])) rfl (by rw [hml]; rfl) (argsL:=[]) (rest:=[]) (lenOf own_pd21 rfl) rfl (hb hby at_326) rfl rfl (show cells+1+2+4+1+1+2+1+3+4≤56 by omega) (show slots+1+20+60+4+2+48+0+38+60≤448 by omega)
    have N99:=Fr.app N94 N99q
    refine oS st99 ?_
    have z101:=K99_.1
    have O102:=Old.keep O96 K99_ all0
    have K103:=K97.trans K99_ all0
    show gH (T99.setTop (mkF m 329 #[s0,s1,s2,s3,s4,s5,vi c1,vi c2,s8,.val (.long x),.second,vr ex,vi (.ofNat (own_u8 cs).length),vr b1,vr b0,vr b13,.unset,.unset] [(.ref g1_)])) ..
    have ltg1:=oL Vg1.lt
    refine oS (fun _=>XS.astore X99.here hx rfl (hb hby at_329) rfl rfl (l':=#[s0,s1,s2,s3,s4,s5,vi c1,vi c2,s8,.val (.long x),.second,vr ex,vi (.ofNat (own_u8 cs).length),vr b1,vr b0,vr b13,vr g1_,.unset]) rfl) ?_
    refine oS (fun _=>XS.aload X99.here hx rfl (hb hby at_331) rfl rfl) ?_
    show gH (T99.setTop (mkF m 333 #[s0,s1,s2,s3,s4,s5,vi c1,vi c2,s8,.val (.long x),.second,vr ex,vi (.ofNat (own_u8 cs).length),vr b1,vr b0,vr b13,vr g1_,.unset] [(.ref b1)])) ..
    have q104:=(HB3.1.keep K99_)
    have q105:=(HB3.2.1.keep K99_ nin0)
    have q106:=(HB3.2.2.1.keep K99_ nin0)
    have q107:=(HB3.2.2.2.1.keep K99_ nin0)
    have q108:=(HB3.2.2.2.2.keep K99_ nin0)
    have q109:=(HB2.2.keep K99_ nin0)
    have q110:=(q98.keep K99_ nin0)
    have q112:=(q100.keep K99_)
    obtain ⟨_,T111,L111,X111,⟨g2_,kg2,rfl,N111q,K111_,gg2,Vg2⟩,st111⟩:=own_cV X99 hx hZ hown (own_byU l Z a0 hw [] b1 sb d u8 kd cs w1 T99.heap O102 S1 hw1 SU SV US hcl hcr hwf hu q110 ⟨⟨q104,q105,q106,q107,q108⟩,q109⟩) (oW hw 35 rfl) (oW hw 36 rfl) (oW hw 38 rfl) (oW hw 37 rfl) (own_clsP (y:=(⟨"com/example/sluse/sluse/TextExposition","bytes","()[B"⟩ : MethodName)) (oW hw 38 rfl)) q112 (oW hw 7 rfl) (oW hw 39 rfl) (W:=0) (g:=(mkF m 333 #[s0,s1,s2,s3,s4,s5,vi c1,vi c2,s8,.val (.long x),.second,vr ex,vi (.ofNat (own_u8 cs).length),vr b1,vr b0,vr b13,vr g1_,.unset] [(.ref b1)])) rfl (by rw [hml]; rfl) (argsL:=[]) (rest:=[]) (lenOf own_pd21 rfl) rfl (hb hby at_333) rfl rfl (show cells+1+2+4+1+1+2+1+3+4+4≤56 by omega) (show slots+1+20+60+4+2+48+0+38+60+60≤448 by omega)
    have N111:=Fr.app N99 N111q
    refine oS st111 ?_
    have z113:=K111_.1
    have O114:=Old.keep O102 K111_ all0
    have K115:=K103.trans K111_ all0
    show gH (T111.setTop (mkF m 336 #[s0,s1,s2,s3,s4,s5,vi c1,vi c2,s8,.val (.long x),.second,vr ex,vi (.ofNat (own_u8 cs).length),vr b1,vr b0,vr b13,vr g1_,.unset] [(.ref g2_)])) ..
    have ltg2:=oL Vg2.lt
    refine oS (fun _=>XS.astore X111.here hx rfl (hb hby at_336) rfl rfl (l':=#[s0,s1,s2,s3,s4,s5,vi c1,vi c2,s8,.val (.long x),.second,vr ex,vi (.ofNat (own_u8 cs).length),vr b1,vr b0,vr b13,vr g1_,vr g2_]) rfl) ?_
    refine oS (fun _=>XS.aload X111.here hx rfl (hb hby at_338) rfl rfl) ?_
    show gH (T111.setTop (mkF m 340 #[s0,s1,s2,s3,s4,s5,vi c1,vi c2,s8,.val (.long x),.second,vr ex,vi (.ofNat (own_u8 cs).length),vr b1,vr b0,vr b13,vr g1_,vr g2_] [(.ref b0)])) ..
    have q116:=(((((((((Vb0.ext E13).ext E17).other W22 (show @Ne Nat b0 b17 by omega)).other W27 (show @Ne Nat b0 b17 by omega)).keep K34_ (ninS (show @Ne Nat b0 b13 by omega) nin0)).ext E38).keep K94_ (ninS (show @Ne Nat b0 sb by omega) nin0)).keep K99_ nin0).keep K111_ nin0)
    obtain ⟨cl117,Ar117,qk117,Sz117,Mz117,Hz117,Uz117⟩:=id q116
    refine oS (X111.arraylength hx Ar117.1 (State.isArrayOf_alike hZ.alike Ar117.2.1) (g:=(mkF m 340 #[s0,s1,s2,s3,s4,s5,vi c1,vi c2,s8,.val (.long x),.second,vr ex,vi (.ofNat (own_u8 cs).length),vr b1,vr b0,vr b13,vr g1_,vr g2_] [(.ref b0)])) rfl rfl (hb hby at_340)) ?_
    rw [len_of Sz117 Mz117]
    show gH (T111.setTop (mkF m 341 #[s0,s1,s2,s3,s4,s5,vi c1,vi c2,s8,.val (.long x),.second,vr ex,vi (.ofNat (own_u8 cs).length),vr b1,vr b0,vr b13,vr g1_,vr g2_] [(.int (.ofNat (own_u8 []).length))])) ..
    refine oS (fun _=>XS.ifNo X111.here hx rfl (hb hby at_341) rfl ((if0 _ _).trans (teq rfl).2)) ?_
    refine oS (fun _=>XS.aload X111.here hx rfl (hb hby at_344) rfl rfl) ?_
    refine oS (fun _=>XS.aload X111.here hx rfl (hb hby at_346) rfl rfl) ?_
    refine oS (fun _=>XS.iload X111.here hx rfl (hb hby at_348) rfl) ?_
    show gH (T111.setTop (mkF m 350 #[s0,s1,s2,s3,s4,s5,vi c1,vi c2,s8,.val (.long x),.second,vr ex,vi (.ofNat (own_u8 cs).length),vr b1,vr b0,vr b13,vr g1_,vr g2_] [(.int (.ofNat (own_u8 cs).length)),(.ref ex),(.ref g1_)])) ..
    have q118:=(Vg1.keep K111_ nin0)
    have q119:=((((((((((((Vx.ext E1).keep K5_ (ninS (show @Ne Nat ex b1 by omega) nin0)).keep K9_ nin0).ext E13).ext E17).other W22 (show @Ne Nat ex b17 by omega)).other W27 (show @Ne Nat ex b17 by omega)).keep K34_ (ninS (show @Ne Nat ex b13 by omega) nin0)).ext E38).keep K94_ (ninS (show @Ne Nat ex sb by omega) nin0)).keep K99_ nin0).keep K111_ nin0)
    obtain ⟨_,T120,L120,X120,⟨rfl,N120q,eh120⟩,st120⟩:=own_cS X111 hx hZ hown (own_sameB l Z a0 hw [] g1_ ex (own_u8 cs) kg1 kx T111.heap O114 (by omega) hint q118 q119) (oW hw 339 rfl) (oW hw 340 rfl) (oW hw 341 rfl) (oW hw 342 rfl) (W:=0) (g:=(mkF m 350 #[s0,s1,s2,s3,s4,s5,vi c1,vi c2,s8,.val (.long x),.second,vr ex,vi (.ofNat (own_u8 cs).length),vr b1,vr b0,vr b13,vr g1_,vr g2_] [(.int (.ofNat (own_u8 cs).length)),(.ref ex),(.ref g1_)])) rfl (by rw [hml]; rfl) (argsL:=[(.ref g1_),(.ref ex),(.int (.ofNat (own_u8 cs).length))]) (rest:=[]) (lenOf own_pd109 rfl) rfl (hb hby at_350) rfl rfl (show cells+1+2+4+1+1+2+1+3+4+4+0≤56 by omega) (show slots+1+20+60+4+2+48+0+38+60+60+0≤448 by omega)
    have N120:=Fr.app N111 N120q
    refine oS st120 ?_
    show gH (T120.setTop (mkF m 353 #[s0,s1,s2,s3,s4,s5,vi c1,vi c2,s8,.val (.long x),.second,vr ex,vi (.ofNat (own_u8 cs).length),vr b1,vr b0,vr b13,vr g1_,vr g2_] [(.int 1)])) ..
    refine oS (fun _=>XS.ifNo X120.here hx rfl (hb hby at_353) rfl ((if0 _ _).trans (feq (by decide)).1)) ?_
    refine oS (fun _=>XS.aload X120.here hx rfl (hb hby at_356) rfl rfl) ?_
    refine oS (fun _=>XS.aload X120.here hx rfl (hb hby at_358) rfl rfl) ?_
    refine oS (fun _=>XS.iload X120.here hx rfl (hb hby at_360) rfl) ?_
    show gH (T120.setTop (mkF m 362 #[s0,s1,s2,s3,s4,s5,vi c1,vi c2,s8,.val (.long x),.second,vr ex,vi (.ofNat (own_u8 cs).length),vr b1,vr b0,vr b13,vr g1_,vr g2_] [(.int (.ofNat (own_u8 cs).length)),(.ref ex),(.ref g2_)])) ..
    obtain ⟨_,T121,L121,X121,⟨rfl,N121q,eh121⟩,st121⟩:=own_cS X120 hx hZ hown (own_sameB l Z a0 hw [] g2_ ex (own_u8 cs) kg2 kx T111.heap O114 (by omega) hint Vg2 q119) (oW hw 339 rfl) (oW hw 340 rfl) (oW hw 341 rfl) (oW hw 342 rfl) (W:=0) (g:=(mkF m 362 #[s0,s1,s2,s3,s4,s5,vi c1,vi c2,s8,.val (.long x),.second,vr ex,vi (.ofNat (own_u8 cs).length),vr b1,vr b0,vr b13,vr g1_,vr g2_] [(.int (.ofNat (own_u8 cs).length)),(.ref ex),(.ref g2_)])) rfl (by rw [hml]; rfl) (argsL:=[(.ref g2_),(.ref ex),(.int (.ofNat (own_u8 cs).length))]) (rest:=[]) (lenOf own_pd109 rfl) rfl (hb hby at_362) rfl eh120 (show cells+1+2+4+1+1+2+1+3+4+4+0+0≤56 by omega) (show slots+1+20+60+4+2+48+0+38+60+60+0+0≤448 by omega)
    have N121:=Fr.app N120 N121q
    refine oS st121 ?_
    show gH (T121.setTop (mkF m 365 #[s0,s1,s2,s3,s4,s5,vi c1,vi c2,s8,.val (.long x),.second,vr ex,vi (.ofNat (own_u8 cs).length),vr b1,vr b0,vr b13,vr g1_,vr g2_] [(.int 1)])) ..
    refine oS (fun _=>XS.ifNo X121.here hx rfl (hb hby at_365) rfl ((if0 _ _).trans (feq (by decide)).1)) ?_
    refine oS (fun _=>XS.iconst X121.here hx rfl (hb hby at_368)) ?_
    refine oS (fun _=>XS.goto X121.here hx rfl (pc0:=369) (pc':=373) rfl (hb hby at_369) (by decide) (by decide)) ?_
    show gH (T121.setTop (mkF m 373 #[s0,s1,s2,s3,s4,s5,vi c1,vi c2,s8,.val (.long x),.second,vr ex,vi (.ofNat (own_u8 cs).length),vr b1,vr b0,vr b13,vr g1_,vr g2_] [(.int 1)])) ..
    exact own_retN X121 hx hret hlk (by simp) (hb hby at_373) ⟨rfl,N121⟩ (by omega) (by omega)
theorem own_close {c1 c2 : Int32} {out:List Value} {x:Int64} {ds:List Int32} (hp:own_pre c1 c2 out) (h1:0≤c1.toInt∧c1.toInt < 65536) (h2:0≤c2.toInt∧c2.toInt < 65536) (hn:own_num x ds) (ho:out.length≤6) (hi:∀ v∈out,∃ z : Int32,v = .int z) {cs:List Int32} (hCS:((([c1,c2]++[(32:Int32)])++ds)++[(10:Int32)]) = cs) :
    own_u8 cs = out++own_L1 ((32:Int32) :: (ds++[(10:Int32)]))∧cs.length≤6∧(∀ c∈cs,0≤c.toInt∧c.toInt < 65536)∧own_wf cs∧((own_u8 cs).length < 2 * cs.length∧(own_u8 cs).length≤12)∧(own_u8 cs).length≤10∧∀ j,j < (own_u8 cs).length→∃ z : Int32,(own_u8 cs).getD j (.int 0) = .int z:=by
  have hl:=own_num_len hn
  have hr:=own_num_r hn
  have hcs : cs = c1 :: c2 :: ((32:Int32) :: (ds++[(10:Int32)])):=by rw [← hCS]; simp
  have hts : ∀ c∈((32:Int32) :: (ds++[(10:Int32)])),0≤c.toInt∧c.toInt < 128:=by
    intro c hc
    simp only [List.mem_cons,List.mem_append,List.not_mem_nil,or_false] at hc
    rcases hc with rfl | hc | rfl
    · decide
    · exact hr c hc
    · decide
  obtain ⟨e1,e2⟩:=hp _ hts
  rw [← hcs] at e1 e2
  have l1 : cs.length = ds.length+4:=by rw [hcs]; simp
  have l2 : (own_u8 cs).length = out.length+(ds.length+2):=by rw [e1,List.length_append,own_L1_len]; simp
  refine ⟨e1,by omega,?_,e2,⟨by omega,by omega⟩,by omega,?_⟩
  · intro c hc
    rw [hcs] at hc
    rcases List.mem_cons.mp hc with rfl | hc
    · exact h1
    rcases List.mem_cons.mp hc with rfl | hc
    · exact h2
    have:=hts c hc
    exact ⟨this.1,by omega⟩
  · rw [e1]
    refine own_get_int fun v hv=>?_
    rcases List.mem_append.mp hv with q | q
    · exact hi v q
    · exact own_L1_int _ v q
theorem own_n32 : (32:Int32).toInt8.toInt32 = own_lo (32:Int32):=by decide
theorem own_n45 : (45:Int32).toInt8.toInt32 = own_lo (45:Int32):=by decide
theorem own_n10 : (10:Int32).toInt8.toInt32 = own_lo (10:Int32):=by decide
theorem own_x {p:Program} {l:Launch} {e:Env} {s:State} {m:MethodId} {args:Array Value} {below:List Frame} {meth:Method} {c:Code} {Z:State} {a0:Array Value} {locs:List Loc} {cells slots : Nat} {T0:State} {h0:Heap}  (c1 c2 ng : Int32) (x:Int64) (ex:Addr) (kx:ClassId) (d o : Nat) (out:List Value) (s13:Slot) (w1:Int32) (fm:Value) (el ea dg u8 : Addr) (kea kdg : ClassId) (s0 s1 s2 s3 s4 : Slot) (hx:p.tables.exec = Jvm.exec) (hZ:Z.Warmed39 s.vm) (hw:∀ d∈tables_1,d.before a0 Z = true) (hby:c.code = code) (hml:c.maxLocals = 18) (hown:s.vm.findClass "com/example/sluse/sluse/TextExpositionBytesPinLaw" = some m.cls) (X0:Stand p l e room_1 s m args below meth c T0 locs cells slots) (e0:T0.heap = h0) (N0:Fr Z.heap.size locs) (O0:Old Z Z.heap.size h0) (hret:meth.sig.returnType = some .boolean) (hlk:meth.locks = false) (EV:own_ENV Z w1 fm el ea dg u8 kea kdg) (hcs:cells+23≤56) (hss:slots+293≤448) (h13:One s13) (hc1:0≤c1.toInt∧c1.toInt < 65536) (hc2:0≤c2.toInt∧c2.toInt < 65536) (hd:d < 10) (hng:(ng = 0∧x = (Int32.ofNat d).toInt64) ∨ (ng = 1∧x = (-(Int32.ofNat d)).toInt64)) (hpre:own_pre c1 c2 out) (ho:out.length = o) (ho6:out.length≤6) (hint0:∀ v∈out,∃ z : Int32,v = .int z) (gx:Z.heap.size≤ex) (Vx:Arv Z h0 ex kx .byte (Int32.ofNat 10) out (.int 0))
     :
    own_G p.tables e below (own_F s below (fun v h L=>v = some (.int 1)∧Fr Z.heap.size L) 56 448) (T0.setTop (mkF m 217 #[s0,s1,s2,s3,s4,vi ng,vi c1,vi c2,vi (.ofNat d),.val (.long x),.second,vr ex,vi (.ofNat o),s13,.unset,.unset,.unset,.unset] [])):=by
  have z0 : Z.heap.size≤h0.size:=O0.2.1
  have Kr:=Keep.refl h0 [ex]
  show gH (T0.setTop (mkF m 217 #[s0,s1,s2,s3,s4,vi ng,vi c1,vi c2,vi (.ofNat d),.val (.long x),.second,vr ex,vi (.ofNat o),s13,.unset,.unset,.unset,.unset] [])) ..
  obtain ⟨S1,hw1,US,SF,hfm,SE,Ee,Fe,Ve,SD,Dg,SU,SV⟩:=id EV
  have ltex:=oL Vx.lt
  refine oS (fun _=>XS.aload X0.here hx rfl (hb hby at_217) rfl rfl) ?_
  refine oS (fun _=>XS.iload X0.here hx rfl (hb hby at_219) rfl) ?_
  refine oS (fun _=>XS.bipush X0.here hx rfl (hb hby at_221)) ?_
  have V1p : Arv Z h0 ex kx .byte (Int32.ofNat 10) (out++[(.int 0)]) (.int 0):=Vx.pad (pad_rep out (.int 0) 1)
  obtain ⟨cl2,Ar2,qk2,Sz2,Mz2,Hz2,Uz2⟩:=id V1p
  obtain ⟨T3,h3,X3,e3,W3,st3⟩:=stB X0 hx hZ e0 Ar2 (j:=(Int32.ofNat o)) (oI (i:=o) (n:=10) Sz2 (by omega) (by decide)) (g:=(mkF m 223 #[s0,s1,s2,s3,s4,vi ng,vi c1,vi c2,vi (.ofNat d),.val (.long x),.second,vr ex,vi (.ofNat o),s13,.unset,.unset,.unset,.unset] [(.int 32),(.int (.ofNat o)),(.ref ex)])) rfl rfl (hb hby at_223)
  refine oS st3 ?_
  have V3:=Arv.set Ar2 qk2 Sz2 Mz2 Hz2 Uz2 (fits_nar_byte _) W3 (out:List Value).length (by rw [oC (by omega)]; first | omega | (simp only [List.length_append,List.length_cons,List.length_nil]; omega)) (by simp)
  have z4:=W3.size
  have O5:=Old.wr O0 W3 (by omega)
  have K6:=Kr.wr W3 (Or.inl (by simp))
  have N3:=Fr.snoc X3 N0 (by omega : Z.heap.size≤ex)
  have V3' : Arv Z h3 ex kx .byte (Int32.ofNat 10) (out++[.int (own_lo (32:Int32))]) (.int 0):=by have q:=V3; rw [own_set,own_n32] at q; exact q
  show gH (T3.setTop (mkF m 224 #[s0,s1,s2,s3,s4,vi ng,vi c1,vi c2,vi (.ofNat d),.val (.long x),.second,vr ex,vi (.ofNat o),s13,.unset,.unset,.unset,.unset] [])) ..
  refine oS (fun _=>XS.iinc X3.here hx rfl (hb hby at_224) rfl (l':=#[s0,s1,s2,s3,s4,vi ng,vi c1,vi c2,vi (.ofNat d),.val (.long x),.second,vr ex,vi ((Int32.ofNat o)+(1:Int32)),s13,.unset,.unset,.unset,.unset]) rfl) ?_
  show gH (T3.setTop (mkF m 227 #[s0,s1,s2,s3,s4,vi ng,vi c1,vi c2,vi (.ofNat d),.val (.long x),.second,vr ex,vi ((Int32.ofNat o)+(1:Int32)),s13,.unset,.unset,.unset,.unset] [])) ..
  rw [oO (o)]
  show gH (T3.setTop (mkF m 227 #[s0,s1,s2,s3,s4,vi ng,vi c1,vi c2,vi (.ofNat d),.val (.long x),.second,vr ex,vi (.ofNat (o+1)),s13,.unset,.unset,.unset,.unset] [])) ..
  refine oS (fun _=>XS.iload X3.here hx rfl (hb hby at_227) rfl) ?_
  show gH (T3.setTop (mkF m 229 #[s0,s1,s2,s3,s4,vi ng,vi c1,vi c2,vi (.ofNat d),.val (.long x),.second,vr ex,vi (.ofNat (o+1)),s13,.unset,.unset,.unset,.unset] [(.int ng)])) ..
  rcases hng with ⟨rfl,hx_⟩ | ⟨rfl,hx_⟩
  · skip
    show gH (T3.setTop (mkF m 229 #[s0,s1,s2,s3,s4,vi 0,vi c1,vi c2,vi (.ofNat d),.val (.long x),.second,vr ex,vi (.ofNat (o+1)),s13,.unset,.unset,.unset,.unset] [(.int 0)])) ..
    refine oS (fun _=>XS.ifYes X3.here hx rfl (pc0:=229) (pc':=247) rfl (hb hby at_229) rfl ((if0 _ _).trans (teq rfl).1) (by decide) (by decide)) ?_
    refine oS (fun _=>XS.aload X3.here hx rfl (hb hby at_247) rfl rfl) ?_
    refine oS (fun _=>XS.iload X3.here hx rfl (hb hby at_249) rfl) ?_
    refine oS (fun _=>XS.bipush X3.here hx rfl (hb hby at_251)) ?_
    refine oS (fun _=>XS.iload X3.here hx rfl (hb hby at_253) rfl) ?_
    refine oS (fun _=>XS.iadd X3.here hx rfl (hb hby at_255) rfl) ?_
    show gH (T3.setTop (mkF m 256 #[s0,s1,s2,s3,s4,vi 0,vi c1,vi c2,vi (.ofNat d),.val (.long x),.second,vr ex,vi (.ofNat (o+1)),s13,.unset,.unset,.unset,.unset] [(.int ((48:Int32)+(Int32.ofNat d))),(.int (.ofNat (o+1))),(.ref ex)])) ..
    rw [(show (48:Int32)+Int32.ofNat d = Int32.ofNat (48+d) from own_plus 48 d)]
    show gH (T3.setTop (mkF m 256 #[s0,s1,s2,s3,s4,vi 0,vi c1,vi c2,vi (.ofNat d),.val (.long x),.second,vr ex,vi (.ofNat (o+1)),s13,.unset,.unset,.unset,.unset] [(.int (.ofNat (48+d))),(.int (.ofNat (o+1))),(.ref ex)])) ..
    refine oS (fun _=>XS.i2b X3.here hx rfl (hb hby at_256) rfl) ?_
    have V7p : Arv Z h3 ex kx .byte (Int32.ofNat 10) ((out++[.int (own_lo (32:Int32))])++[(.int 0)]) (.int 0):=V3'.pad (pad_rep (out++[.int (own_lo (32:Int32))]) (.int 0) 1)
    obtain ⟨cl8,Ar8,qk8,Sz8,Mz8,Hz8,Uz8⟩:=id V7p
    obtain ⟨T9,h9,X9,e9,W9,st9⟩:=stB X3 hx hZ e3 Ar8 (j:=(Int32.ofNat (o+1))) (oI (i:=o+1) (n:=10) Sz8 (by omega) (by omega)) (g:=(mkF m 257 #[s0,s1,s2,s3,s4,vi 0,vi c1,vi c2,vi (.ofNat d),.val (.long x),.second,vr ex,vi (.ofNat (o+1)),s13,.unset,.unset,.unset,.unset] [(.int ((Int32.ofNat (48+d)).toInt8.toInt32)),(.int (.ofNat (o+1))),(.ref ex)])) rfl rfl (hb hby at_257)
    refine oS st9 ?_
    have V9:=Arv.set Ar8 qk8 Sz8 Mz8 Hz8 Uz8 (fits_nar_byte _) W9 ((out++[.int (own_lo (32:Int32))]) : List Value).length (by rw [oC (by omega)]; first | omega | (simp only [List.length_append,List.length_cons,List.length_nil]; omega)) (by simp)
    have z10:=W9.size
    have O11:=Old.wr O5 W9 (by omega)
    have K12:=K6.wr W9 (Or.inl (by simp))
    have N9:=Fr.snoc X9 N3 (by omega : Z.heap.size≤ex)
    have V9' : Arv Z h9 ex kx .byte (Int32.ofNat 10) ((out++[.int (own_lo (32:Int32))])++[.int (own_lo (Int32.ofNat (48+d)))]) (.int 0):=by have q:=V9; rw [own_set] at q; exact q
    show gH (T9.setTop (mkF m 258 #[s0,s1,s2,s3,s4,vi 0,vi c1,vi c2,vi (.ofNat d),.val (.long x),.second,vr ex,vi (.ofNat (o+1)),s13,.unset,.unset,.unset,.unset] [])) ..
    refine oS (fun _=>XS.iinc X9.here hx rfl (hb hby at_258) rfl (l':=#[s0,s1,s2,s3,s4,vi 0,vi c1,vi c2,vi (.ofNat d),.val (.long x),.second,vr ex,vi ((Int32.ofNat (o+1))+(1:Int32)),s13,.unset,.unset,.unset,.unset]) rfl) ?_
    show gH (T9.setTop (mkF m 261 #[s0,s1,s2,s3,s4,vi 0,vi c1,vi c2,vi (.ofNat d),.val (.long x),.second,vr ex,vi ((Int32.ofNat (o+1))+(1:Int32)),s13,.unset,.unset,.unset,.unset] [])) ..
    rw [oO (o+1)]
    show gH (T9.setTop (mkF m 261 #[s0,s1,s2,s3,s4,vi 0,vi c1,vi c2,vi (.ofNat d),.val (.long x),.second,vr ex,vi (.ofNat (o+2)),s13,.unset,.unset,.unset,.unset] [])) ..
    refine oS (fun _=>XS.aload X9.here hx rfl (hb hby at_261) rfl rfl) ?_
    refine oS (fun _=>XS.iload X9.here hx rfl (hb hby at_263) rfl) ?_
    refine oS (fun _=>XS.bipush X9.here hx rfl (hb hby at_265)) ?_
    have V13p : Arv Z h9 ex kx .byte (Int32.ofNat 10) (((out++[.int (own_lo (32:Int32))])++[.int (own_lo (Int32.ofNat (48+d)))])++[(.int 0)]) (.int 0):=V9'.pad (pad_rep ((out++[.int (own_lo (32:Int32))])++[.int (own_lo (Int32.ofNat (48+d)))]) (.int 0) 1)
    obtain ⟨cl14,Ar14,qk14,Sz14,Mz14,Hz14,Uz14⟩:=id V13p
    obtain ⟨T15,h15,X15,e15,W15,st15⟩:=stB X9 hx hZ e9 Ar14 (j:=(Int32.ofNat (o+2))) (oI (i:=o+2) (n:=10) Sz14 (by omega) (by decide)) (g:=(mkF m 267 #[s0,s1,s2,s3,s4,vi 0,vi c1,vi c2,vi (.ofNat d),.val (.long x),.second,vr ex,vi (.ofNat (o+2)),s13,.unset,.unset,.unset,.unset] [(.int 10),(.int (.ofNat (o+2))),(.ref ex)])) rfl rfl (hb hby at_267)
    refine oS st15 ?_
    have V15:=Arv.set Ar14 qk14 Sz14 Mz14 Hz14 Uz14 (fits_nar_byte _) W15 (((out++[.int (own_lo (32:Int32))])++[.int (own_lo (Int32.ofNat (48+d)))]) : List Value).length (by rw [oC (by omega)]; first | omega | (simp only [List.length_append,List.length_cons,List.length_nil]; omega)) (by simp)
    have z16:=W15.size
    have O17:=Old.wr O11 W15 (by omega)
    have K18:=K12.wr W15 (Or.inl (by simp))
    have N15:=Fr.snoc X15 N9 (by omega : Z.heap.size≤ex)
    have V15' : Arv Z h15 ex kx .byte (Int32.ofNat 10) (((out++[.int (own_lo (32:Int32))])++[.int (own_lo (Int32.ofNat (48+d)))])++[.int (own_lo (10:Int32))]) (.int 0):=by have q:=V15; rw [own_set,own_n10] at q; exact q
    show gH (T15.setTop (mkF m 268 #[s0,s1,s2,s3,s4,vi 0,vi c1,vi c2,vi (.ofNat d),.val (.long x),.second,vr ex,vi (.ofNat (o+2)),s13,.unset,.unset,.unset,.unset] [])) ..
    refine oS (fun _=>XS.iinc X15.here hx rfl (hb hby at_268) rfl (l':=#[s0,s1,s2,s3,s4,vi 0,vi c1,vi c2,vi (.ofNat d),.val (.long x),.second,vr ex,vi ((Int32.ofNat (o+2))+(1:Int32)),s13,.unset,.unset,.unset,.unset]) rfl) ?_
    show gH (T15.setTop (mkF m 271 #[s0,s1,s2,s3,s4,vi 0,vi c1,vi c2,vi (.ofNat d),.val (.long x),.second,vr ex,vi ((Int32.ofNat (o+2))+(1:Int32)),s13,.unset,.unset,.unset,.unset] [])) ..
    rw [oO (o+2)]
    show gH (T15.setTop (mkF m 271 #[s0,s1,s2,s3,s4,vi 0,vi c1,vi c2,vi (.ofNat d),.val (.long x),.second,vr ex,vi (.ofNat (o+3)),s13,.unset,.unset,.unset,.unset] [])) ..
    have hnum : own_num x [Int32.ofNat (48+d)]:=Or.inl ⟨d,hd,hx_,rfl⟩
    obtain ⟨y1,y2,y3,y4,y5,y6,y7⟩:=own_close hpre hc1 hc2 hnum ho6 hint0 rfl
    have Vy : Arv Z h15 ex kx .byte (Int32.ofNat 10) (own_u8 ((([c1,c2]++[(32:Int32)])++[Int32.ofNat (48+d)])++[(10:Int32)])) (.int 0):=by rw [y1]; have q:=V15'; simp only [List.append_assoc] at q; exact q
    have hlen_ : o+3 = (own_u8 ((([c1,c2]++[(32:Int32)])++[Int32.ofNat (48+d)])++[(10:Int32)])).length:=by rw [y1,List.length_append,own_L1_len,ho]; rfl
    rw [hlen_]
    exact own_y c1 c2 x ex kx _ [Int32.ofNat (48+d)] _ w1 fm el ea dg u8 kea kdg _ _ _ _ _ _ _ hx hZ hw hby hml hown X15 e15 N15 O17 hret hlk EV (by omega) (by omega) h13 hc1 hc2 hnum rfl y2 y3 y4 y5 y6 y7 Vy
  · skip
    show gH (T3.setTop (mkF m 229 #[s0,s1,s2,s3,s4,vi 1,vi c1,vi c2,vi (.ofNat d),.val (.long x),.second,vr ex,vi (.ofNat (o+1)),s13,.unset,.unset,.unset,.unset] [(.int 1)])) ..
    refine oS (fun _=>XS.ifNo X3.here hx rfl (hb hby at_229) rfl ((if0 _ _).trans (feq (by decide)).1)) ?_
    refine oS (fun _=>XS.iload X3.here hx rfl (hb hby at_232) rfl) ?_
    show gH (T3.setTop (mkF m 234 #[s0,s1,s2,s3,s4,vi 1,vi c1,vi c2,vi (.ofNat d),.val (.long x),.second,vr ex,vi (.ofNat (o+1)),s13,.unset,.unset,.unset,.unset] [(.int (.ofNat d))])) ..
    by_cases hd0 : d = 0
    · skip
      refine oS (fun _=>XS.ifYes X3.here hx rfl (pc0:=234) (pc':=247) rfl (hb hby at_234) rfl ((if0 _ _).trans (teq (by rw [hd0]; rfl)).1) (by decide) (by decide)) ?_
      refine oS (fun _=>XS.aload X3.here hx rfl (hb hby at_247) rfl rfl) ?_
      refine oS (fun _=>XS.iload X3.here hx rfl (hb hby at_249) rfl) ?_
      refine oS (fun _=>XS.bipush X3.here hx rfl (hb hby at_251)) ?_
      refine oS (fun _=>XS.iload X3.here hx rfl (hb hby at_253) rfl) ?_
      refine oS (fun _=>XS.iadd X3.here hx rfl (hb hby at_255) rfl) ?_
      show gH (T3.setTop (mkF m 256 #[s0,s1,s2,s3,s4,vi 1,vi c1,vi c2,vi (.ofNat d),.val (.long x),.second,vr ex,vi (.ofNat (o+1)),s13,.unset,.unset,.unset,.unset] [(.int ((48:Int32)+(Int32.ofNat d))),(.int (.ofNat (o+1))),(.ref ex)])) ..
      rw [(show (48:Int32)+Int32.ofNat d = Int32.ofNat (48+d) from own_plus 48 d)]
      show gH (T3.setTop (mkF m 256 #[s0,s1,s2,s3,s4,vi 1,vi c1,vi c2,vi (.ofNat d),.val (.long x),.second,vr ex,vi (.ofNat (o+1)),s13,.unset,.unset,.unset,.unset] [(.int (.ofNat (48+d))),(.int (.ofNat (o+1))),(.ref ex)])) ..
      refine oS (fun _=>XS.i2b X3.here hx rfl (hb hby at_256) rfl) ?_
      have V19p : Arv Z h3 ex kx .byte (Int32.ofNat 10) ((out++[.int (own_lo (32:Int32))])++[(.int 0)]) (.int 0):=V3'.pad (pad_rep (out++[.int (own_lo (32:Int32))]) (.int 0) 1)
      obtain ⟨cl20,Ar20,qk20,Sz20,Mz20,Hz20,Uz20⟩:=id V19p
      obtain ⟨T21,h21,X21,e21,W21,st21⟩:=stB X3 hx hZ e3 Ar20 (j:=(Int32.ofNat (o+1))) (oI (i:=o+1) (n:=10) Sz20 (by omega) (by omega)) (g:=(mkF m 257 #[s0,s1,s2,s3,s4,vi 1,vi c1,vi c2,vi (.ofNat d),.val (.long x),.second,vr ex,vi (.ofNat (o+1)),s13,.unset,.unset,.unset,.unset] [(.int ((Int32.ofNat (48+d)).toInt8.toInt32)),(.int (.ofNat (o+1))),(.ref ex)])) rfl rfl (hb hby at_257)
      refine oS st21 ?_
      have V21:=Arv.set Ar20 qk20 Sz20 Mz20 Hz20 Uz20 (fits_nar_byte _) W21 ((out++[.int (own_lo (32:Int32))]) : List Value).length (by rw [oC (by omega)]; first | omega | (simp only [List.length_append,List.length_cons,List.length_nil]; omega)) (by simp)
      have z22:=W21.size
      have O23:=Old.wr O5 W21 (by omega)
      have K24:=K6.wr W21 (Or.inl (by simp))
      have N21:=Fr.snoc X21 N3 (by omega : Z.heap.size≤ex)
      have V21' : Arv Z h21 ex kx .byte (Int32.ofNat 10) ((out++[.int (own_lo (32:Int32))])++[.int (own_lo (Int32.ofNat (48+d)))]) (.int 0):=by have q:=V21; rw [own_set] at q; exact q
      show gH (T21.setTop (mkF m 258 #[s0,s1,s2,s3,s4,vi 1,vi c1,vi c2,vi (.ofNat d),.val (.long x),.second,vr ex,vi (.ofNat (o+1)),s13,.unset,.unset,.unset,.unset] [])) ..
      refine oS (fun _=>XS.iinc X21.here hx rfl (hb hby at_258) rfl (l':=#[s0,s1,s2,s3,s4,vi 1,vi c1,vi c2,vi (.ofNat d),.val (.long x),.second,vr ex,vi ((Int32.ofNat (o+1))+(1:Int32)),s13,.unset,.unset,.unset,.unset]) rfl) ?_
      show gH (T21.setTop (mkF m 261 #[s0,s1,s2,s3,s4,vi 1,vi c1,vi c2,vi (.ofNat d),.val (.long x),.second,vr ex,vi ((Int32.ofNat (o+1))+(1:Int32)),s13,.unset,.unset,.unset,.unset] [])) ..
      rw [oO (o+1)]
      show gH (T21.setTop (mkF m 261 #[s0,s1,s2,s3,s4,vi 1,vi c1,vi c2,vi (.ofNat d),.val (.long x),.second,vr ex,vi (.ofNat (o+2)),s13,.unset,.unset,.unset,.unset] [])) ..
      refine oS (fun _=>XS.aload X21.here hx rfl (hb hby at_261) rfl rfl) ?_
      refine oS (fun _=>XS.iload X21.here hx rfl (hb hby at_263) rfl) ?_
      refine oS (fun _=>XS.bipush X21.here hx rfl (hb hby at_265)) ?_
      have V25p : Arv Z h21 ex kx .byte (Int32.ofNat 10) (((out++[.int (own_lo (32:Int32))])++[.int (own_lo (Int32.ofNat (48+d)))])++[(.int 0)]) (.int 0):=V21'.pad (pad_rep ((out++[.int (own_lo (32:Int32))])++[.int (own_lo (Int32.ofNat (48+d)))]) (.int 0) 1)
      obtain ⟨cl26,Ar26,qk26,Sz26,Mz26,Hz26,Uz26⟩:=id V25p
      obtain ⟨T27,h27,X27,e27,W27,st27⟩:=stB X21 hx hZ e21 Ar26 (j:=(Int32.ofNat (o+2))) (oI (i:=o+2) (n:=10) Sz26 (by omega) (by decide)) (g:=(mkF m 267 #[s0,s1,s2,s3,s4,vi 1,vi c1,vi c2,vi (.ofNat d),.val (.long x),.second,vr ex,vi (.ofNat (o+2)),s13,.unset,.unset,.unset,.unset] [(.int 10),(.int (.ofNat (o+2))),(.ref ex)])) rfl rfl (hb hby at_267)
      refine oS st27 ?_
      have V27:=Arv.set Ar26 qk26 Sz26 Mz26 Hz26 Uz26 (fits_nar_byte _) W27 (((out++[.int (own_lo (32:Int32))])++[.int (own_lo (Int32.ofNat (48+d)))]) : List Value).length (by rw [oC (by omega)]; first | omega | (simp only [List.length_append,List.length_cons,List.length_nil]; omega)) (by simp)
      have z28:=W27.size
      have O29:=Old.wr O23 W27 (by omega)
      have K30:=K24.wr W27 (Or.inl (by simp))
      have N27:=Fr.snoc X27 N21 (by omega : Z.heap.size≤ex)
      have V27' : Arv Z h27 ex kx .byte (Int32.ofNat 10) (((out++[.int (own_lo (32:Int32))])++[.int (own_lo (Int32.ofNat (48+d)))])++[.int (own_lo (10:Int32))]) (.int 0):=by have q:=V27; rw [own_set,own_n10] at q; exact q
      show gH (T27.setTop (mkF m 268 #[s0,s1,s2,s3,s4,vi 1,vi c1,vi c2,vi (.ofNat d),.val (.long x),.second,vr ex,vi (.ofNat (o+2)),s13,.unset,.unset,.unset,.unset] [])) ..
      refine oS (fun _=>XS.iinc X27.here hx rfl (hb hby at_268) rfl (l':=#[s0,s1,s2,s3,s4,vi 1,vi c1,vi c2,vi (.ofNat d),.val (.long x),.second,vr ex,vi ((Int32.ofNat (o+2))+(1:Int32)),s13,.unset,.unset,.unset,.unset]) rfl) ?_
      show gH (T27.setTop (mkF m 271 #[s0,s1,s2,s3,s4,vi 1,vi c1,vi c2,vi (.ofNat d),.val (.long x),.second,vr ex,vi ((Int32.ofNat (o+2))+(1:Int32)),s13,.unset,.unset,.unset,.unset] [])) ..
      rw [oO (o+2)]
      show gH (T27.setTop (mkF m 271 #[s0,s1,s2,s3,s4,vi 1,vi c1,vi c2,vi (.ofNat d),.val (.long x),.second,vr ex,vi (.ofNat (o+3)),s13,.unset,.unset,.unset,.unset] [])) ..
      have hnum : own_num x [Int32.ofNat (48+d)]:=Or.inl ⟨d,hd,by rw [hx_,hd0]; rfl,rfl⟩
      obtain ⟨y1,y2,y3,y4,y5,y6,y7⟩:=own_close hpre hc1 hc2 hnum ho6 hint0 rfl
      have Vy : Arv Z h27 ex kx .byte (Int32.ofNat 10) (own_u8 ((([c1,c2]++[(32:Int32)])++[Int32.ofNat (48+d)])++[(10:Int32)])) (.int 0):=by rw [y1]; have q:=V27'; simp only [List.append_assoc] at q; exact q
      have hlen_ : o+3 = (own_u8 ((([c1,c2]++[(32:Int32)])++[Int32.ofNat (48+d)])++[(10:Int32)])).length:=by rw [y1,List.length_append,own_L1_len,ho]; rfl
      rw [hlen_]
      exact own_y c1 c2 x ex kx _ [Int32.ofNat (48+d)] _ w1 fm el ea dg u8 kea kdg _ _ _ _ _ _ _ hx hZ hw hby hml hown X27 e27 N27 O29 hret hlk EV (by omega) (by omega) h13 hc1 hc2 hnum rfl y2 y3 y4 y5 y6 y7 Vy
    · skip
      refine oS (fun _=>XS.ifNo X3.here hx rfl (hb hby at_234) rfl ((if0 _ _).trans (feq (own_ne (b:=0) hd0 (by omega) (by decide))).1)) ?_
      refine oS (fun _=>XS.aload X3.here hx rfl (hb hby at_237) rfl rfl) ?_
      refine oS (fun _=>XS.iload X3.here hx rfl (hb hby at_239) rfl) ?_
      refine oS (fun _=>XS.bipush X3.here hx rfl (hb hby at_241)) ?_
      have V31p : Arv Z h3 ex kx .byte (Int32.ofNat 10) ((out++[.int (own_lo (32:Int32))])++[(.int 0)]) (.int 0):=V3'.pad (pad_rep (out++[.int (own_lo (32:Int32))]) (.int 0) 1)
      obtain ⟨cl32,Ar32,qk32,Sz32,Mz32,Hz32,Uz32⟩:=id V31p
      obtain ⟨T33,h33,X33,e33,W33,st33⟩:=stB X3 hx hZ e3 Ar32 (j:=(Int32.ofNat (o+1))) (oI (i:=o+1) (n:=10) Sz32 (by omega) (by decide)) (g:=(mkF m 243 #[s0,s1,s2,s3,s4,vi 1,vi c1,vi c2,vi (.ofNat d),.val (.long x),.second,vr ex,vi (.ofNat (o+1)),s13,.unset,.unset,.unset,.unset] [(.int 45),(.int (.ofNat (o+1))),(.ref ex)])) rfl rfl (hb hby at_243)
      refine oS st33 ?_
      have V33:=Arv.set Ar32 qk32 Sz32 Mz32 Hz32 Uz32 (fits_nar_byte _) W33 ((out++[.int (own_lo (32:Int32))]) : List Value).length (by rw [oC (by omega)]; first | omega | (simp only [List.length_append,List.length_cons,List.length_nil]; omega)) (by simp)
      have z34:=W33.size
      have O35:=Old.wr O5 W33 (by omega)
      have K36:=K6.wr W33 (Or.inl (by simp))
      have N33:=Fr.snoc X33 N3 (by omega : Z.heap.size≤ex)
      have V33' : Arv Z h33 ex kx .byte (Int32.ofNat 10) ((out++[.int (own_lo (32:Int32))])++[.int (own_lo (45:Int32))]) (.int 0):=by have q:=V33; rw [own_set,own_n45] at q; exact q
      show gH (T33.setTop (mkF m 244 #[s0,s1,s2,s3,s4,vi 1,vi c1,vi c2,vi (.ofNat d),.val (.long x),.second,vr ex,vi (.ofNat (o+1)),s13,.unset,.unset,.unset,.unset] [])) ..
      refine oS (fun _=>XS.iinc X33.here hx rfl (hb hby at_244) rfl (l':=#[s0,s1,s2,s3,s4,vi 1,vi c1,vi c2,vi (.ofNat d),.val (.long x),.second,vr ex,vi ((Int32.ofNat (o+1))+(1:Int32)),s13,.unset,.unset,.unset,.unset]) rfl) ?_
      show gH (T33.setTop (mkF m 247 #[s0,s1,s2,s3,s4,vi 1,vi c1,vi c2,vi (.ofNat d),.val (.long x),.second,vr ex,vi ((Int32.ofNat (o+1))+(1:Int32)),s13,.unset,.unset,.unset,.unset] [])) ..
      rw [oO (o+1)]
      show gH (T33.setTop (mkF m 247 #[s0,s1,s2,s3,s4,vi 1,vi c1,vi c2,vi (.ofNat d),.val (.long x),.second,vr ex,vi (.ofNat (o+2)),s13,.unset,.unset,.unset,.unset] [])) ..
      obtain ⟨d',rfl⟩ : ∃ d',d = d'+1:=⟨d - 1,by omega⟩
      show gH (T33.setTop (mkF m 247 #[s0,s1,s2,s3,s4,vi 1,vi c1,vi c2,vi (.ofNat (d'+1)),.val (.long x),.second,vr ex,vi (.ofNat (o+2)),s13,.unset,.unset,.unset,.unset] [])) ..
      refine oS (fun _=>XS.aload X33.here hx rfl (hb hby at_247) rfl rfl) ?_
      refine oS (fun _=>XS.iload X33.here hx rfl (hb hby at_249) rfl) ?_
      refine oS (fun _=>XS.bipush X33.here hx rfl (hb hby at_251)) ?_
      refine oS (fun _=>XS.iload X33.here hx rfl (hb hby at_253) rfl) ?_
      refine oS (fun _=>XS.iadd X33.here hx rfl (hb hby at_255) rfl) ?_
      show gH (T33.setTop (mkF m 256 #[s0,s1,s2,s3,s4,vi 1,vi c1,vi c2,vi (.ofNat (d'+1)),.val (.long x),.second,vr ex,vi (.ofNat (o+2)),s13,.unset,.unset,.unset,.unset] [(.int ((48:Int32)+(Int32.ofNat (d'+1)))),(.int (.ofNat (o+2))),(.ref ex)])) ..
      rw [(show (48:Int32)+Int32.ofNat (d'+1) = Int32.ofNat (48+(d'+1)) from own_plus 48 (d'+1))]
      show gH (T33.setTop (mkF m 256 #[s0,s1,s2,s3,s4,vi 1,vi c1,vi c2,vi (.ofNat (d'+1)),.val (.long x),.second,vr ex,vi (.ofNat (o+2)),s13,.unset,.unset,.unset,.unset] [(.int (.ofNat (48+(d'+1)))),(.int (.ofNat (o+2))),(.ref ex)])) ..
      refine oS (fun _=>XS.i2b X33.here hx rfl (hb hby at_256) rfl) ?_
      have V37p : Arv Z h33 ex kx .byte (Int32.ofNat 10) (((out++[.int (own_lo (32:Int32))])++[.int (own_lo (45:Int32))])++[(.int 0)]) (.int 0):=V33'.pad (pad_rep ((out++[.int (own_lo (32:Int32))])++[.int (own_lo (45:Int32))]) (.int 0) 1)
      obtain ⟨cl38,Ar38,qk38,Sz38,Mz38,Hz38,Uz38⟩:=id V37p
      obtain ⟨T39,h39,X39,e39,W39,st39⟩:=stB X33 hx hZ e33 Ar38 (j:=(Int32.ofNat (o+2))) (oI (i:=o+2) (n:=10) Sz38 (by omega) (by omega)) (g:=(mkF m 257 #[s0,s1,s2,s3,s4,vi 1,vi c1,vi c2,vi (.ofNat (d'+1)),.val (.long x),.second,vr ex,vi (.ofNat (o+2)),s13,.unset,.unset,.unset,.unset] [(.int ((Int32.ofNat (48+(d'+1))).toInt8.toInt32)),(.int (.ofNat (o+2))),(.ref ex)])) rfl rfl (hb hby at_257)
      refine oS st39 ?_
      have V39:=Arv.set Ar38 qk38 Sz38 Mz38 Hz38 Uz38 (fits_nar_byte _) W39 (((out++[.int (own_lo (32:Int32))])++[.int (own_lo (45:Int32))]) : List Value).length (by rw [oC (by omega)]; first | omega | (simp only [List.length_append,List.length_cons,List.length_nil]; omega)) (by simp)
      have z40:=W39.size
      have O41:=Old.wr O35 W39 (by omega)
      have K42:=K36.wr W39 (Or.inl (by simp))
      have N39:=Fr.snoc X39 N33 (by omega : Z.heap.size≤ex)
      have V39' : Arv Z h39 ex kx .byte (Int32.ofNat 10) (((out++[.int (own_lo (32:Int32))])++[.int (own_lo (45:Int32))])++[.int (own_lo (Int32.ofNat (48+(d'+1))))]) (.int 0):=by have q:=V39; rw [own_set] at q; exact q
      show gH (T39.setTop (mkF m 258 #[s0,s1,s2,s3,s4,vi 1,vi c1,vi c2,vi (.ofNat (d'+1)),.val (.long x),.second,vr ex,vi (.ofNat (o+2)),s13,.unset,.unset,.unset,.unset] [])) ..
      refine oS (fun _=>XS.iinc X39.here hx rfl (hb hby at_258) rfl (l':=#[s0,s1,s2,s3,s4,vi 1,vi c1,vi c2,vi (.ofNat (d'+1)),.val (.long x),.second,vr ex,vi ((Int32.ofNat (o+2))+(1:Int32)),s13,.unset,.unset,.unset,.unset]) rfl) ?_
      show gH (T39.setTop (mkF m 261 #[s0,s1,s2,s3,s4,vi 1,vi c1,vi c2,vi (.ofNat (d'+1)),.val (.long x),.second,vr ex,vi ((Int32.ofNat (o+2))+(1:Int32)),s13,.unset,.unset,.unset,.unset] [])) ..
      rw [oO (o+2)]
      show gH (T39.setTop (mkF m 261 #[s0,s1,s2,s3,s4,vi 1,vi c1,vi c2,vi (.ofNat (d'+1)),.val (.long x),.second,vr ex,vi (.ofNat (o+3)),s13,.unset,.unset,.unset,.unset] [])) ..
      refine oS (fun _=>XS.aload X39.here hx rfl (hb hby at_261) rfl rfl) ?_
      refine oS (fun _=>XS.iload X39.here hx rfl (hb hby at_263) rfl) ?_
      refine oS (fun _=>XS.bipush X39.here hx rfl (hb hby at_265)) ?_
      have V43p : Arv Z h39 ex kx .byte (Int32.ofNat 10) ((((out++[.int (own_lo (32:Int32))])++[.int (own_lo (45:Int32))])++[.int (own_lo (Int32.ofNat (48+(d'+1))))])++[(.int 0)]) (.int 0):=V39'.pad (pad_rep (((out++[.int (own_lo (32:Int32))])++[.int (own_lo (45:Int32))])++[.int (own_lo (Int32.ofNat (48+(d'+1))))]) (.int 0) 1)
      obtain ⟨cl44,Ar44,qk44,Sz44,Mz44,Hz44,Uz44⟩:=id V43p
      obtain ⟨T45,h45,X45,e45,W45,st45⟩:=stB X39 hx hZ e39 Ar44 (j:=(Int32.ofNat (o+3))) (oI (i:=o+3) (n:=10) Sz44 (by omega) (by decide)) (g:=(mkF m 267 #[s0,s1,s2,s3,s4,vi 1,vi c1,vi c2,vi (.ofNat (d'+1)),.val (.long x),.second,vr ex,vi (.ofNat (o+3)),s13,.unset,.unset,.unset,.unset] [(.int 10),(.int (.ofNat (o+3))),(.ref ex)])) rfl rfl (hb hby at_267)
      refine oS st45 ?_
      have V45:=Arv.set Ar44 qk44 Sz44 Mz44 Hz44 Uz44 (fits_nar_byte _) W45 ((((out++[.int (own_lo (32:Int32))])++[.int (own_lo (45:Int32))])++[.int (own_lo (Int32.ofNat (48+(d'+1))))]) : List Value).length (by rw [oC (by omega)]; first | omega | (simp only [List.length_append,List.length_cons,List.length_nil]; omega)) (by simp)
      have z46:=W45.size
      have O47:=Old.wr O41 W45 (by omega)
      have K48:=K42.wr W45 (Or.inl (by simp))
      have N45:=Fr.snoc X45 N39 (by omega : Z.heap.size≤ex)
      have V45' : Arv Z h45 ex kx .byte (Int32.ofNat 10) ((((out++[.int (own_lo (32:Int32))])++[.int (own_lo (45:Int32))])++[.int (own_lo (Int32.ofNat (48+(d'+1))))])++[.int (own_lo (10:Int32))]) (.int 0):=by have q:=V45; rw [own_set,own_n10] at q; exact q
      show gH (T45.setTop (mkF m 268 #[s0,s1,s2,s3,s4,vi 1,vi c1,vi c2,vi (.ofNat (d'+1)),.val (.long x),.second,vr ex,vi (.ofNat (o+3)),s13,.unset,.unset,.unset,.unset] [])) ..
      refine oS (fun _=>XS.iinc X45.here hx rfl (hb hby at_268) rfl (l':=#[s0,s1,s2,s3,s4,vi 1,vi c1,vi c2,vi (.ofNat (d'+1)),.val (.long x),.second,vr ex,vi ((Int32.ofNat (o+3))+(1:Int32)),s13,.unset,.unset,.unset,.unset]) rfl) ?_
      show gH (T45.setTop (mkF m 271 #[s0,s1,s2,s3,s4,vi 1,vi c1,vi c2,vi (.ofNat (d'+1)),.val (.long x),.second,vr ex,vi ((Int32.ofNat (o+3))+(1:Int32)),s13,.unset,.unset,.unset,.unset] [])) ..
      rw [oO (o+3)]
      show gH (T45.setTop (mkF m 271 #[s0,s1,s2,s3,s4,vi 1,vi c1,vi c2,vi (.ofNat (d'+1)),.val (.long x),.second,vr ex,vi (.ofNat (o+4)),s13,.unset,.unset,.unset,.unset] [])) ..
      have hnum : own_num x [(45:Int32),Int32.ofNat (48+(d'+1))]:=Or.inr ⟨d',by omega,hx_,rfl⟩
      obtain ⟨y1,y2,y3,y4,y5,y6,y7⟩:=own_close hpre hc1 hc2 hnum ho6 hint0 rfl
      have Vy : Arv Z h45 ex kx .byte (Int32.ofNat 10) (own_u8 ((([c1,c2]++[(32:Int32)])++[(45:Int32),Int32.ofNat (48+(d'+1))])++[(10:Int32)])) (.int 0):=by rw [y1]; have q:=V45'; simp only [List.append_assoc] at q; exact q
      have hlen_ : o+4 = (own_u8 ((([c1,c2]++[(32:Int32)])++[(45:Int32),Int32.ofNat (48+(d'+1))])++[(10:Int32)])).length:=by rw [y1,List.length_append,own_L1_len,ho]; rfl
      rw [hlen_]
      exact own_y c1 c2 x ex kx _ [(45:Int32),Int32.ofNat (48+(d'+1))] _ w1 fm el ea dg u8 kea kdg _ _ _ _ _ _ _ hx hZ hw hby hml hown X45 e45 N45 O47 hret hlk EV (by omega) (by omega) h13 hc1 hc2 hnum rfl y2 y3 y4 y5 y6 y7 Vy
theorem own_w {p:Program} {l:Launch} {e:Env} {s:State} {m:MethodId} {args:Array Value} {below:List Frame} {meth:Method} {c:Code} {Z:State} {a0:Array Value} {locs:List Loc} {cells slots : Nat} {T0:State} {h0:Heap}  (pa pb pr ng c1 c2 : Int32) (x:Int64) (ex:Addr) (kx:ClassId) (d:Nat) (w1:Int32) (fm:Value) (el ea dg u8 : Addr) (kea kdg : ClassId) (s2 s3 : Slot) (hx:p.tables.exec = Jvm.exec) (hZ:Z.Warmed39 s.vm) (hw:∀ d∈tables_1,d.before a0 Z = true) (hby:c.code = code) (hml:c.maxLocals = 18) (hown:s.vm.findClass "com/example/sluse/sluse/TextExpositionBytesPinLaw" = some m.cls) (X0:Stand p l e room_1 s m args below meth c T0 locs cells slots) (e0:T0.heap = h0) (N0:Fr Z.heap.size locs) (O0:Old Z Z.heap.size h0) (hret:meth.sig.returnType = some .boolean) (hlk:meth.locks = false) (EV:own_ENV Z w1 fm el ea dg u8 kea kdg) (hcs:cells+23≤56) (hss:slots+293≤448) (hd:d < 10) (hng:(ng = 0∧x = (Int32.ofNat d).toInt64) ∨ (ng = 1∧x = (-(Int32.ofNat d)).toInt64)) (hpr:(pr = 1∧c1 = (55296:Int32)|||(pa&&&(1023:Int32))∧c2 = (56320:Int32)|||(pb&&&(1023:Int32))) ∨ (pr = 0∧(0≤c1.toInt∧c1.toInt < 65536)∧(0≤c2.toInt∧c2.toInt < 65536)∧¬ own_sur c1∧¬ own_sur c2)) (gx:Z.heap.size≤ex) (Vx:Arv Z h0 ex kx .byte (Int32.ofNat 10) [] (.int 0))
     :
    own_G p.tables e below (own_F s below (fun v h L=>v = some (.int 1)∧Fr Z.heap.size L) 56 448) (T0.setTop (mkF m 104 #[vi pa,vi pb,s2,s3,vi pr,vi ng,vi c1,vi c2,vi (.ofNat d),.val (.long x),.second,vr ex,.unset,.unset,.unset,.unset,.unset,.unset] [])):=by
  have z0 : Z.heap.size≤h0.size:=O0.2.1
  have Kr:=Keep.refl h0 [ex]
  show gH (T0.setTop (mkF m 104 #[vi pa,vi pb,s2,s3,vi pr,vi ng,vi c1,vi c2,vi (.ofNat d),.val (.long x),.second,vr ex,.unset,.unset,.unset,.unset,.unset,.unset] [])) ..
  obtain ⟨S1,hw1,US,SF,hfm,SE,Ee,Fe,Ve,SD,Dg,SU,SV⟩:=id EV
  have ltex:=oL Vx.lt
  refine oS (fun _=>XS.iload X0.here hx rfl (hb hby at_104) rfl) ?_
  show gH (T0.setTop (mkF m 106 #[vi pa,vi pb,s2,s3,vi pr,vi ng,vi c1,vi c2,vi (.ofNat d),.val (.long x),.second,vr ex,.unset,.unset,.unset,.unset,.unset,.unset] [(.int pr)])) ..
  rcases hpr with ⟨rfl,rfl,rfl⟩ | ⟨rfl,hc1,hc2,hs1,hs2⟩
  · skip
    show gH (T0.setTop (mkF m 106 #[vi pa,vi pb,s2,s3,vi 1,vi ng,vi ((55296:Int32)|||(pa&&&(1023:Int32))),vi ((56320:Int32)|||(pb&&&(1023:Int32))),vi (.ofNat d),.val (.long x),.second,vr ex,.unset,.unset,.unset,.unset,.unset,.unset] [(.int 1)])) ..
    refine oS (fun _=>XS.ifNo X0.here hx rfl (hb hby at_106) rfl ((if0 _ _).trans (feq (by decide)).1)) ?_
    show gH (T0.setTop (mkF m 109 #[vi pa,vi pb,s2,s3,vi 1,vi ng,vi ((55296:Int32)|||(pa&&&(1023:Int32))),vi ((56320:Int32)|||(pb&&&(1023:Int32))),vi (.ofNat d),.val (.long x),.second,vr ex,.unset,.unset,.unset,.unset,.unset,.unset] [])) ..
    obtain ⟨hh,hl,hcp⟩:=own_pairs pa pb
    refine oS (X0.ldcInt hx hown (mvT hZ (oW hw 4 rfl)) (g:=(mkF m 109 #[vi pa,vi pb,s2,s3,vi 1,vi ng,vi ((55296:Int32)|||(pa&&&(1023:Int32))),vi ((56320:Int32)|||(pb&&&(1023:Int32))),vi (.ofNat d),.val (.long x),.second,vr ex,.unset,.unset,.unset,.unset,.unset,.unset] [])) rfl (hb hby at_109)) ?_
    show gH (T0.setTop (mkF m 111 #[vi pa,vi pb,s2,s3,vi 1,vi ng,vi ((55296:Int32)|||(pa&&&(1023:Int32))),vi ((56320:Int32)|||(pb&&&(1023:Int32))),vi (.ofNat d),.val (.long x),.second,vr ex,.unset,.unset,.unset,.unset,.unset,.unset] [(.int 65536)])) ..
    refine oS (fun _=>XS.iloadN X0.here hx rfl (hb hby at_111) rfl) ?_
    refine oS (fun _=>XS.sipush X0.here hx rfl (hb hby at_112)) ?_
    refine oS (fun _=>XS.iand X0.here hx rfl (hb hby at_115) rfl) ?_
    refine oS (fun _=>XS.bipush X0.here hx rfl (hb hby at_116)) ?_
    refine oS (fun _=>XS.ishl X0.here hx rfl (hb hby at_118) rfl) ?_
    refine oS (fun _=>XS.iadd X0.here hx rfl (hb hby at_119) rfl) ?_
    refine oS (fun _=>XS.iloadN X0.here hx rfl (hb hby at_120) rfl) ?_
    refine oS (fun _=>XS.sipush X0.here hx rfl (hb hby at_121)) ?_
    refine oS (fun _=>XS.iand X0.here hx rfl (hb hby at_124) rfl) ?_
    refine oS (fun _=>XS.iadd X0.here hx rfl (hb hby at_125) rfl) ?_
    show gH (T0.setTop (mkF m 126 #[vi pa,vi pb,s2,s3,vi 1,vi ng,vi ((55296:Int32)|||(pa&&&(1023:Int32))),vi ((56320:Int32)|||(pb&&&(1023:Int32))),vi (.ofNat d),.val (.long x),.second,vr ex,.unset,.unset,.unset,.unset,.unset,.unset] [(.int (((65536:Int32)+((pa&&&(1023:Int32))<<<((10:Int32)&&&31)))+(pb&&&(1023:Int32))))])) ..
    rw [← hcp]
    show gH (T0.setTop (mkF m 126 #[vi pa,vi pb,s2,s3,vi 1,vi ng,vi ((55296:Int32)|||(pa&&&(1023:Int32))),vi ((56320:Int32)|||(pb&&&(1023:Int32))),vi (.ofNat d),.val (.long x),.second,vr ex,.unset,.unset,.unset,.unset,.unset,.unset] [(.int (own_cpt ((55296:Int32)|||(pa&&&(1023:Int32))) ((56320:Int32)|||(pb&&&(1023:Int32)))))])) ..
    generalize hu_ : own_cpt ((55296:Int32)|||(pa&&&(1023:Int32))) ((56320:Int32)|||(pb&&&(1023:Int32))) = u at hcp ⊢
    show gH (T0.setTop (mkF m 126 #[vi pa,vi pb,s2,s3,vi 1,vi ng,vi ((55296:Int32)|||(pa&&&(1023:Int32))),vi ((56320:Int32)|||(pb&&&(1023:Int32))),vi (.ofNat d),.val (.long x),.second,vr ex,.unset,.unset,.unset,.unset,.unset,.unset] [(.int u)])) ..
    refine oS (fun _=>XS.istore X0.here hx rfl (hb hby at_126) rfl (l':=#[vi pa,vi pb,s2,s3,vi 1,vi ng,vi ((55296:Int32)|||(pa&&&(1023:Int32))),vi ((56320:Int32)|||(pb&&&(1023:Int32))),vi (.ofNat d),.val (.long x),.second,vr ex,.unset,vi u,.unset,.unset,.unset,.unset]) rfl) ?_
    refine oS (fun _=>XS.aload X0.here hx rfl (hb hby at_128) rfl rfl) ?_
    refine oS (fun _=>XS.iconst X0.here hx rfl (hb hby at_130)) ?_
    refine oS (fun _=>XS.sipush X0.here hx rfl (hb hby at_131)) ?_
    refine oS (fun _=>XS.iload X0.here hx rfl (hb hby at_134) rfl) ?_
    refine oS (fun _=>XS.bipush X0.here hx rfl (hb hby at_136)) ?_
    refine oS (fun _=>XS.ishr X0.here hx rfl (hb hby at_138) rfl) ?_
    refine oS (fun _=>XS.ior X0.here hx rfl (hb hby at_139) rfl) ?_
    refine oS (fun _=>XS.i2b X0.here hx rfl (hb hby at_140) rfl) ?_
    show gH (T0.setTop (mkF m 141 #[vi pa,vi pb,s2,s3,vi 1,vi ng,vi ((55296:Int32)|||(pa&&&(1023:Int32))),vi ((56320:Int32)|||(pb&&&(1023:Int32))),vi (.ofNat d),.val (.long x),.second,vr ex,.unset,vi u,.unset,.unset,.unset,.unset] [(.int (((240:Int32)|||(u>>>((18:Int32)&&&31))).toInt8.toInt32)),(.int 0),(.ref ex)])) ..
    have V1p : Arv Z h0 ex kx .byte (Int32.ofNat 10) ([]++[(.int 0)]) (.int 0):=Vx.pad (pad_rep [] (.int 0) 1)
    obtain ⟨cl2,Ar2,qk2,Sz2,Mz2,Hz2,Uz2⟩:=id V1p
    obtain ⟨T3,h3,X3,e3,W3,st3⟩:=stB X0 hx hZ e0 Ar2 (j:=(0:Int32)) (oI (i:=0) (n:=10) Sz2 (by omega) (by omega)) (g:=(mkF m 141 #[vi pa,vi pb,s2,s3,vi 1,vi ng,vi ((55296:Int32)|||(pa&&&(1023:Int32))),vi ((56320:Int32)|||(pb&&&(1023:Int32))),vi (.ofNat d),.val (.long x),.second,vr ex,.unset,vi u,.unset,.unset,.unset,.unset] [(.int (((240:Int32)|||(u>>>((18:Int32)&&&31))).toInt8.toInt32)),(.int 0),(.ref ex)])) rfl rfl (hb hby at_141)
    refine oS st3 ?_
    have V3:=Arv.set Ar2 qk2 Sz2 Mz2 Hz2 Uz2 (fits_nar_byte _) W3 ([] : List Value).length rfl (by simp)
    have z4:=W3.size
    have O5:=Old.wr O0 W3 (by omega)
    have K6:=Kr.wr W3 (Or.inl (by simp))
    have N3:=Fr.snoc X3 N0 (by omega : Z.heap.size≤ex)
    have V3' : Arv Z h3 ex kx .byte (Int32.ofNat 10) ([]++[.int (own_lo ((240:Int32)|||(u>>>((18:Int32)&&&31))))]) (.int 0):=by have q:=V3; rw [own_set] at q; exact q
    show gH (T3.setTop (mkF m 142 #[vi pa,vi pb,s2,s3,vi 1,vi ng,vi ((55296:Int32)|||(pa&&&(1023:Int32))),vi ((56320:Int32)|||(pb&&&(1023:Int32))),vi (.ofNat d),.val (.long x),.second,vr ex,.unset,vi u,.unset,.unset,.unset,.unset] [])) ..
    refine oS (fun _=>XS.aload X3.here hx rfl (hb hby at_142) rfl rfl) ?_
    refine oS (fun _=>XS.iconst X3.here hx rfl (hb hby at_144)) ?_
    refine oS (fun _=>XS.sipush X3.here hx rfl (hb hby at_145)) ?_
    refine oS (fun _=>XS.iload X3.here hx rfl (hb hby at_148) rfl) ?_
    refine oS (fun _=>XS.bipush X3.here hx rfl (hb hby at_150)) ?_
    refine oS (fun _=>XS.ishr X3.here hx rfl (hb hby at_152) rfl) ?_
    refine oS (fun _=>XS.bipush X3.here hx rfl (hb hby at_153)) ?_
    refine oS (fun _=>XS.iand X3.here hx rfl (hb hby at_155) rfl) ?_
    refine oS (fun _=>XS.ior X3.here hx rfl (hb hby at_156) rfl) ?_
    refine oS (fun _=>XS.i2b X3.here hx rfl (hb hby at_157) rfl) ?_
    show gH (T3.setTop (mkF m 158 #[vi pa,vi pb,s2,s3,vi 1,vi ng,vi ((55296:Int32)|||(pa&&&(1023:Int32))),vi ((56320:Int32)|||(pb&&&(1023:Int32))),vi (.ofNat d),.val (.long x),.second,vr ex,.unset,vi u,.unset,.unset,.unset,.unset] [(.int (((128:Int32)|||((u>>>((12:Int32)&&&31))&&&(63:Int32))).toInt8.toInt32)),(.int 1),(.ref ex)])) ..
    have V7p : Arv Z h3 ex kx .byte (Int32.ofNat 10) (([]++[.int (own_lo ((240:Int32)|||(u>>>((18:Int32)&&&31))))])++[(.int 0)]) (.int 0):=V3'.pad (pad_rep ([]++[.int (own_lo ((240:Int32)|||(u>>>((18:Int32)&&&31))))]) (.int 0) 1)
    obtain ⟨cl8,Ar8,qk8,Sz8,Mz8,Hz8,Uz8⟩:=id V7p
    obtain ⟨T9,h9,X9,e9,W9,st9⟩:=stB X3 hx hZ e3 Ar8 (j:=(1:Int32)) (oI (i:=1) (n:=10) Sz8 (by omega) (by omega)) (g:=(mkF m 158 #[vi pa,vi pb,s2,s3,vi 1,vi ng,vi ((55296:Int32)|||(pa&&&(1023:Int32))),vi ((56320:Int32)|||(pb&&&(1023:Int32))),vi (.ofNat d),.val (.long x),.second,vr ex,.unset,vi u,.unset,.unset,.unset,.unset] [(.int (((128:Int32)|||((u>>>((12:Int32)&&&31))&&&(63:Int32))).toInt8.toInt32)),(.int 1),(.ref ex)])) rfl rfl (hb hby at_158)
    refine oS st9 ?_
    have V9:=Arv.set Ar8 qk8 Sz8 Mz8 Hz8 Uz8 (fits_nar_byte _) W9 (([]++[.int (own_lo ((240:Int32)|||(u>>>((18:Int32)&&&31))))]) : List Value).length rfl (by simp)
    have z10:=W9.size
    have O11:=Old.wr O5 W9 (by omega)
    have K12:=K6.wr W9 (Or.inl (by simp))
    have N9:=Fr.snoc X9 N3 (by omega : Z.heap.size≤ex)
    have V9' : Arv Z h9 ex kx .byte (Int32.ofNat 10) (([]++[.int (own_lo ((240:Int32)|||(u>>>((18:Int32)&&&31))))])++[.int (own_lo ((128:Int32)|||((u>>>((12:Int32)&&&31))&&&(63:Int32))))]) (.int 0):=by have q:=V9; rw [own_set] at q; exact q
    show gH (T9.setTop (mkF m 159 #[vi pa,vi pb,s2,s3,vi 1,vi ng,vi ((55296:Int32)|||(pa&&&(1023:Int32))),vi ((56320:Int32)|||(pb&&&(1023:Int32))),vi (.ofNat d),.val (.long x),.second,vr ex,.unset,vi u,.unset,.unset,.unset,.unset] [])) ..
    refine oS (fun _=>XS.aload X9.here hx rfl (hb hby at_159) rfl rfl) ?_
    refine oS (fun _=>XS.iconst X9.here hx rfl (hb hby at_161)) ?_
    refine oS (fun _=>XS.sipush X9.here hx rfl (hb hby at_162)) ?_
    refine oS (fun _=>XS.iload X9.here hx rfl (hb hby at_165) rfl) ?_
    refine oS (fun _=>XS.bipush X9.here hx rfl (hb hby at_167)) ?_
    refine oS (fun _=>XS.ishr X9.here hx rfl (hb hby at_169) rfl) ?_
    refine oS (fun _=>XS.bipush X9.here hx rfl (hb hby at_170)) ?_
    refine oS (fun _=>XS.iand X9.here hx rfl (hb hby at_172) rfl) ?_
    refine oS (fun _=>XS.ior X9.here hx rfl (hb hby at_173) rfl) ?_
    refine oS (fun _=>XS.i2b X9.here hx rfl (hb hby at_174) rfl) ?_
    show gH (T9.setTop (mkF m 175 #[vi pa,vi pb,s2,s3,vi 1,vi ng,vi ((55296:Int32)|||(pa&&&(1023:Int32))),vi ((56320:Int32)|||(pb&&&(1023:Int32))),vi (.ofNat d),.val (.long x),.second,vr ex,.unset,vi u,.unset,.unset,.unset,.unset] [(.int (((128:Int32)|||((u>>>((6:Int32)&&&31))&&&(63:Int32))).toInt8.toInt32)),(.int 2),(.ref ex)])) ..
    have V13p : Arv Z h9 ex kx .byte (Int32.ofNat 10) ((([]++[.int (own_lo ((240:Int32)|||(u>>>((18:Int32)&&&31))))])++[.int (own_lo ((128:Int32)|||((u>>>((12:Int32)&&&31))&&&(63:Int32))))])++[(.int 0)]) (.int 0):=V9'.pad (pad_rep (([]++[.int (own_lo ((240:Int32)|||(u>>>((18:Int32)&&&31))))])++[.int (own_lo ((128:Int32)|||((u>>>((12:Int32)&&&31))&&&(63:Int32))))]) (.int 0) 1)
    obtain ⟨cl14,Ar14,qk14,Sz14,Mz14,Hz14,Uz14⟩:=id V13p
    obtain ⟨T15,h15,X15,e15,W15,st15⟩:=stB X9 hx hZ e9 Ar14 (j:=(2:Int32)) (oI (i:=2) (n:=10) Sz14 (by omega) (by omega)) (g:=(mkF m 175 #[vi pa,vi pb,s2,s3,vi 1,vi ng,vi ((55296:Int32)|||(pa&&&(1023:Int32))),vi ((56320:Int32)|||(pb&&&(1023:Int32))),vi (.ofNat d),.val (.long x),.second,vr ex,.unset,vi u,.unset,.unset,.unset,.unset] [(.int (((128:Int32)|||((u>>>((6:Int32)&&&31))&&&(63:Int32))).toInt8.toInt32)),(.int 2),(.ref ex)])) rfl rfl (hb hby at_175)
    refine oS st15 ?_
    have V15:=Arv.set Ar14 qk14 Sz14 Mz14 Hz14 Uz14 (fits_nar_byte _) W15 ((([]++[.int (own_lo ((240:Int32)|||(u>>>((18:Int32)&&&31))))])++[.int (own_lo ((128:Int32)|||((u>>>((12:Int32)&&&31))&&&(63:Int32))))]) : List Value).length rfl (by simp)
    have z16:=W15.size
    have O17:=Old.wr O11 W15 (by omega)
    have K18:=K12.wr W15 (Or.inl (by simp))
    have N15:=Fr.snoc X15 N9 (by omega : Z.heap.size≤ex)
    have V15' : Arv Z h15 ex kx .byte (Int32.ofNat 10) ((([]++[.int (own_lo ((240:Int32)|||(u>>>((18:Int32)&&&31))))])++[.int (own_lo ((128:Int32)|||((u>>>((12:Int32)&&&31))&&&(63:Int32))))])++[.int (own_lo ((128:Int32)|||((u>>>((6:Int32)&&&31))&&&(63:Int32))))]) (.int 0):=by have q:=V15; rw [own_set] at q; exact q
    show gH (T15.setTop (mkF m 176 #[vi pa,vi pb,s2,s3,vi 1,vi ng,vi ((55296:Int32)|||(pa&&&(1023:Int32))),vi ((56320:Int32)|||(pb&&&(1023:Int32))),vi (.ofNat d),.val (.long x),.second,vr ex,.unset,vi u,.unset,.unset,.unset,.unset] [])) ..
    refine oS (fun _=>XS.aload X15.here hx rfl (hb hby at_176) rfl rfl) ?_
    refine oS (fun _=>XS.iconst X15.here hx rfl (hb hby at_178)) ?_
    refine oS (fun _=>XS.sipush X15.here hx rfl (hb hby at_179)) ?_
    refine oS (fun _=>XS.iload X15.here hx rfl (hb hby at_182) rfl) ?_
    refine oS (fun _=>XS.bipush X15.here hx rfl (hb hby at_184)) ?_
    refine oS (fun _=>XS.iand X15.here hx rfl (hb hby at_186) rfl) ?_
    refine oS (fun _=>XS.ior X15.here hx rfl (hb hby at_187) rfl) ?_
    refine oS (fun _=>XS.i2b X15.here hx rfl (hb hby at_188) rfl) ?_
    show gH (T15.setTop (mkF m 189 #[vi pa,vi pb,s2,s3,vi 1,vi ng,vi ((55296:Int32)|||(pa&&&(1023:Int32))),vi ((56320:Int32)|||(pb&&&(1023:Int32))),vi (.ofNat d),.val (.long x),.second,vr ex,.unset,vi u,.unset,.unset,.unset,.unset] [(.int (((128:Int32)|||(u&&&(63:Int32))).toInt8.toInt32)),(.int 3),(.ref ex)])) ..
    have V19p : Arv Z h15 ex kx .byte (Int32.ofNat 10) (((([]++[.int (own_lo ((240:Int32)|||(u>>>((18:Int32)&&&31))))])++[.int (own_lo ((128:Int32)|||((u>>>((12:Int32)&&&31))&&&(63:Int32))))])++[.int (own_lo ((128:Int32)|||((u>>>((6:Int32)&&&31))&&&(63:Int32))))])++[(.int 0)]) (.int 0):=V15'.pad (pad_rep ((([]++[.int (own_lo ((240:Int32)|||(u>>>((18:Int32)&&&31))))])++[.int (own_lo ((128:Int32)|||((u>>>((12:Int32)&&&31))&&&(63:Int32))))])++[.int (own_lo ((128:Int32)|||((u>>>((6:Int32)&&&31))&&&(63:Int32))))]) (.int 0) 1)
    obtain ⟨cl20,Ar20,qk20,Sz20,Mz20,Hz20,Uz20⟩:=id V19p
    obtain ⟨T21,h21,X21,e21,W21,st21⟩:=stB X15 hx hZ e15 Ar20 (j:=(3:Int32)) (oI (i:=3) (n:=10) Sz20 (by omega) (by omega)) (g:=(mkF m 189 #[vi pa,vi pb,s2,s3,vi 1,vi ng,vi ((55296:Int32)|||(pa&&&(1023:Int32))),vi ((56320:Int32)|||(pb&&&(1023:Int32))),vi (.ofNat d),.val (.long x),.second,vr ex,.unset,vi u,.unset,.unset,.unset,.unset] [(.int (((128:Int32)|||(u&&&(63:Int32))).toInt8.toInt32)),(.int 3),(.ref ex)])) rfl rfl (hb hby at_189)
    refine oS st21 ?_
    have V21:=Arv.set Ar20 qk20 Sz20 Mz20 Hz20 Uz20 (fits_nar_byte _) W21 (((([]++[.int (own_lo ((240:Int32)|||(u>>>((18:Int32)&&&31))))])++[.int (own_lo ((128:Int32)|||((u>>>((12:Int32)&&&31))&&&(63:Int32))))])++[.int (own_lo ((128:Int32)|||((u>>>((6:Int32)&&&31))&&&(63:Int32))))]) : List Value).length rfl (by simp)
    have z22:=W21.size
    have O23:=Old.wr O17 W21 (by omega)
    have K24:=K18.wr W21 (Or.inl (by simp))
    have N21:=Fr.snoc X21 N15 (by omega : Z.heap.size≤ex)
    have V21' : Arv Z h21 ex kx .byte (Int32.ofNat 10) (((([]++[.int (own_lo ((240:Int32)|||(u>>>((18:Int32)&&&31))))])++[.int (own_lo ((128:Int32)|||((u>>>((12:Int32)&&&31))&&&(63:Int32))))])++[.int (own_lo ((128:Int32)|||((u>>>((6:Int32)&&&31))&&&(63:Int32))))])++[.int (own_lo ((128:Int32)|||(u&&&(63:Int32))))]) (.int 0):=by have q:=V21; rw [own_set] at q; exact q
    show gH (T21.setTop (mkF m 190 #[vi pa,vi pb,s2,s3,vi 1,vi ng,vi ((55296:Int32)|||(pa&&&(1023:Int32))),vi ((56320:Int32)|||(pb&&&(1023:Int32))),vi (.ofNat d),.val (.long x),.second,vr ex,.unset,vi u,.unset,.unset,.unset,.unset] [])) ..
    refine oS (fun _=>XS.iconst X21.here hx rfl (hb hby at_190)) ?_
    refine oS (fun _=>XS.istore X21.here hx rfl (hb hby at_191) rfl (l':=#[vi pa,vi pb,s2,s3,vi 1,vi ng,vi ((55296:Int32)|||(pa&&&(1023:Int32))),vi ((56320:Int32)|||(pb&&&(1023:Int32))),vi (.ofNat d),.val (.long x),.second,vr ex,vi 4,vi u,.unset,.unset,.unset,.unset]) rfl) ?_
    refine oS (fun _=>XS.goto X21.here hx rfl (pc0:=193) (pc':=217) rfl (hb hby at_193) (by decide) (by decide)) ?_
    show gH (T21.setTop (mkF m 217 #[vi pa,vi pb,s2,s3,vi 1,vi ng,vi ((55296:Int32)|||(pa&&&(1023:Int32))),vi ((56320:Int32)|||(pb&&&(1023:Int32))),vi (.ofNat d),.val (.long x),.second,vr ex,vi 4,vi u,.unset,.unset,.unset,.unset] [])) ..
    have hp1 : own_pre ((55296:Int32)|||(pa&&&(1023:Int32))) ((56320:Int32)|||(pb&&&(1023:Int32))) (own_u4 u):=by rw [← hu_]; exact own_pre1 hh hl
    exact own_x _ _ ng x ex kx d 4 (own_u4 u) _ w1 fm el ea dg u8 kea kdg _ _ _ _ _ hx hZ hw hby hml hown X21 e21 N21 O23 hret hlk EV (by omega) (by omega) (One.val rfl) ⟨by have:=hh.1; omega,by have:=hh.2; omega⟩ ⟨by have:=hl.1; omega,by have:=hl.2; omega⟩ hd hng hp1 rfl (by simp [own_u4]) (own_u4_int u) gx V21'
  · skip
    show gH (T0.setTop (mkF m 106 #[vi pa,vi pb,s2,s3,vi 0,vi ng,vi c1,vi c2,vi (.ofNat d),.val (.long x),.second,vr ex,.unset,.unset,.unset,.unset,.unset,.unset] [(.int 0)])) ..
    refine oS (fun _=>XS.ifYes X0.here hx rfl (pc0:=106) (pc':=196) rfl (hb hby at_106) rfl ((if0 _ _).trans (teq rfl).1) (by decide) (by decide)) ?_
    refine oS (fun _=>XS.aload X0.here hx rfl (hb hby at_196) rfl rfl) ?_
    refine oS (fun _=>XS.iconst X0.here hx rfl (hb hby at_198)) ?_
    refine oS (fun _=>XS.iload X0.here hx rfl (hb hby at_199) rfl) ?_
    show gH (T0.setTop (mkF m 201 #[vi pa,vi pb,s2,s3,vi 0,vi ng,vi c1,vi c2,vi (.ofNat d),.val (.long x),.second,vr ex,.unset,.unset,.unset,.unset,.unset,.unset] [(.int c1),(.int 0),(.ref ex)])) ..
    have hl1:=own_u1_len c1
    have hl2:=own_u1_len c2
    obtain ⟨_,T25,L25,X25,⟨rfl,N25q,K25_,V1⟩,st25⟩:=own_cS X0 hx hZ hown (own_put l Z a0 hw [] ex c1 0 [] kx h0 O0 rfl (by decide) gx Vx) (oW hw 350 rfl) (oW hw 351 rfl) (oW hw 341 rfl) (oW hw 352 rfl) (W:=0) (g:=(mkF m 201 #[vi pa,vi pb,s2,s3,vi 0,vi ng,vi c1,vi c2,vi (.ofNat d),.val (.long x),.second,vr ex,.unset,.unset,.unset,.unset,.unset,.unset] [(.int c1),(.int 0),(.ref ex)])) rfl (by rw [hml]; rfl) (argsL:=[(.ref ex),(.int 0),(.int c1)]) (rest:=[]) (lenOf own_pd30 rfl) rfl (hb hby at_201) rfl e0 (show cells+0≤56 by omega) (show slots+0≤448 by omega)
    have N25:=Fr.app N0 N25q
    refine oS st25 ?_
    have z26:=K25_.1
    have O27:=Old.keep O0 K25_ (allS (by omega) all0)
    have K28:=Kr.trans K25_ (allS (Or.inl (by simp)) all0)
    show gH (T25.setTop (mkF m 204 #[vi pa,vi pb,s2,s3,vi 0,vi ng,vi c1,vi c2,vi (.ofNat d),.val (.long x),.second,vr ex,.unset,.unset,.unset,.unset,.unset,.unset] [(.int (.ofNat (0+(own_u1 c1).length)))])) ..
    refine oS (fun _=>XS.istore X25.here hx rfl (hb hby at_204) rfl (l':=#[vi pa,vi pb,s2,s3,vi 0,vi ng,vi c1,vi c2,vi (.ofNat d),.val (.long x),.second,vr ex,vi (.ofNat (0+(own_u1 c1).length)),.unset,.unset,.unset,.unset,.unset]) rfl) ?_
    refine oS (fun _=>XS.aload X25.here hx rfl (hb hby at_206) rfl rfl) ?_
    refine oS (fun _=>XS.iload X25.here hx rfl (hb hby at_208) rfl) ?_
    refine oS (fun _=>XS.iload X25.here hx rfl (hb hby at_210) rfl) ?_
    show gH (T25.setTop (mkF m 212 #[vi pa,vi pb,s2,s3,vi 0,vi ng,vi c1,vi c2,vi (.ofNat d),.val (.long x),.second,vr ex,vi (.ofNat (0+(own_u1 c1).length)),.unset,.unset,.unset,.unset,.unset] [(.int c2),(.int (.ofNat (0+(own_u1 c1).length))),(.ref ex)])) ..
    obtain ⟨_,T29,L29,X29,⟨rfl,N29q,K29_,V2⟩,st29⟩:=own_cS X25 hx hZ hown (own_put l Z a0 hw [] ex c2 (0+(own_u1 c1).length) ([]++own_u1 c1) kx T25.heap O27 (by simp) (by omega) gx V1) (oW hw 350 rfl) (oW hw 351 rfl) (oW hw 341 rfl) (oW hw 352 rfl) (W:=0) (g:=(mkF m 212 #[vi pa,vi pb,s2,s3,vi 0,vi ng,vi c1,vi c2,vi (.ofNat d),.val (.long x),.second,vr ex,vi (.ofNat (0+(own_u1 c1).length)),.unset,.unset,.unset,.unset,.unset] [(.int c2),(.int (.ofNat (0+(own_u1 c1).length))),(.ref ex)])) rfl (by rw [hml]; rfl) (argsL:=[(.ref ex),(.int (.ofNat (0+(own_u1 c1).length))),(.int c2)]) (rest:=[]) (lenOf own_pd30 rfl) rfl (hb hby at_212) rfl rfl (show cells+0+0≤56 by omega) (show slots+0+0≤448 by omega)
    have N29:=Fr.app N25 N29q
    refine oS st29 ?_
    have z30:=K29_.1
    have O31:=Old.keep O27 K29_ (allS (by omega) all0)
    have K32:=K28.trans K29_ (allS (Or.inl (by simp)) all0)
    show gH (T29.setTop (mkF m 215 #[vi pa,vi pb,s2,s3,vi 0,vi ng,vi c1,vi c2,vi (.ofNat d),.val (.long x),.second,vr ex,vi (.ofNat (0+(own_u1 c1).length)),.unset,.unset,.unset,.unset,.unset] [(.int (.ofNat (0+(own_u1 c1).length+(own_u1 c2).length)))])) ..
    refine oS (fun _=>XS.istore X29.here hx rfl (hb hby at_215) rfl (l':=#[vi pa,vi pb,s2,s3,vi 0,vi ng,vi c1,vi c2,vi (.ofNat d),.val (.long x),.second,vr ex,vi (.ofNat (0+(own_u1 c1).length+(own_u1 c2).length)),.unset,.unset,.unset,.unset,.unset]) rfl) ?_
    show gH (T29.setTop (mkF m 217 #[vi pa,vi pb,s2,s3,vi 0,vi ng,vi c1,vi c2,vi (.ofNat d),.val (.long x),.second,vr ex,vi (.ofNat (0+(own_u1 c1).length+(own_u1 c2).length)),.unset,.unset,.unset,.unset,.unset] [])) ..
    exact own_x c1 c2 ng x ex kx d _ (own_u1 c1++own_u1 c2) _ w1 fm el ea dg u8 kea kdg _ _ _ _ _ hx hZ hw hby hml hown X29 rfl N29 O31 hret hlk EV (by omega) (by omega) One.u hc1 hc2 hd hng (own_pre0 hs1 hs2) (by rw [List.length_append]; omega) (by rw [List.length_append]; omega) (fun z hz=>(List.mem_append.mp hz).elim (own_u1_int c1 z) (own_u1_int c2 z)) gx V2
theorem own_v {p:Program} {l:Launch} {e:Env} {s:State} {m:MethodId} {args:Array Value} {below:List Frame} {meth:Method} {c:Code} {Z:State} {a0:Array Value} {locs:List Loc} {cells slots : Nat} {T0:State} {h0:Heap}  (pa pb pv pr ng c1 c2 : Int32) (w1:Int32) (fm:Value) (el ea dg u8 : Addr) (kea kdg : ClassId) (s3:Slot) (hx:p.tables.exec = Jvm.exec) (hZ:Z.Warmed39 s.vm) (hw:∀ d∈tables_1,d.before a0 Z = true) (hby:c.code = code) (hml:c.maxLocals = 18) (hown:s.vm.findClass "com/example/sluse/sluse/TextExpositionBytesPinLaw" = some m.cls) (X0:Stand p l e room_1 s m args below meth c T0 locs cells slots) (e0:T0.heap = h0) (N0:Fr Z.heap.size locs) (O0:Old Z Z.heap.size h0) (hret:meth.sig.returnType = some .boolean) (hlk:meth.locks = false) (EV:own_ENV Z w1 fm el ea dg u8 kea kdg) (hcs:cells+24≤56) (hss:slots+303≤448) (hng:ng = 0 ∨ ng = 1) (hpr:(pr = 1∧c1 = (55296:Int32)|||(pa&&&(1023:Int32))∧c2 = (56320:Int32)|||(pb&&&(1023:Int32))) ∨ (pr = 0∧(0≤c1.toInt∧c1.toInt < 65536)∧(0≤c2.toInt∧c2.toInt < 65536)∧¬ own_sur c1∧¬ own_sur c2))
     :
    own_G p.tables e below (own_F s below (fun v h L=>v = some (.int 1)∧Fr Z.heap.size L) 56 448) (T0.setTop (mkF m 72 #[vi pa,vi pb,vi pv,s3,vi pr,vi ng,vi c1,vi c2,.unset,.unset,.unset,.unset,.unset,.unset,.unset,.unset,.unset,.unset] [])):=by
  have z0 : Z.heap.size≤h0.size:=O0.2.1
  have Kr:=Keep.refl h0 []
  show gH (T0.setTop (mkF m 72 #[vi pa,vi pb,vi pv,s3,vi pr,vi ng,vi c1,vi c2,.unset,.unset,.unset,.unset,.unset,.unset,.unset,.unset,.unset,.unset] [])) ..
  obtain ⟨S1,hw1,US,SF,hfm,SE,Ee,Fe,Ve,SD,Dg,SU,SV⟩:=id EV
  refine oS (fun _=>XS.iloadN X0.here hx rfl (hb hby at_72) rfl) ?_
  show gH (T0.setTop (mkF m 73 #[vi pa,vi pb,vi pv,s3,vi pr,vi ng,vi c1,vi c2,.unset,.unset,.unset,.unset,.unset,.unset,.unset,.unset,.unset,.unset] [(.int pv)])) ..
  refine oS (X0.ldcInt hx hown (mvT hZ (oW hw 2 rfl)) (g:=(mkF m 73 #[vi pa,vi pb,vi pv,s3,vi pr,vi ng,vi c1,vi c2,.unset,.unset,.unset,.unset,.unset,.unset,.unset,.unset,.unset,.unset] [(.int pv)])) rfl (hb hby at_73)) ?_
  show gH (T0.setTop (mkF m 75 #[vi pa,vi pb,vi pv,s3,vi pr,vi ng,vi c1,vi c2,.unset,.unset,.unset,.unset,.unset,.unset,.unset,.unset,.unset,.unset] [(.int 2147483647),(.int pv)])) ..
  refine oS (fun _=>XS.iand X0.here hx rfl (hb hby at_75) rfl) ?_
  show gH (T0.setTop (mkF m 76 #[vi pa,vi pb,vi pv,s3,vi pr,vi ng,vi c1,vi c2,.unset,.unset,.unset,.unset,.unset,.unset,.unset,.unset,.unset,.unset] [(.int (pv&&&(2147483647:Int32)))])) ..
  obtain ⟨n,hn,en⟩:=own_mask (x:=pv) (m:=2147483647) 31 (by decide) rfl
  rw [en]
  show gH (T0.setTop (mkF m 76 #[vi pa,vi pb,vi pv,s3,vi pr,vi ng,vi c1,vi c2,.unset,.unset,.unset,.unset,.unset,.unset,.unset,.unset,.unset,.unset] [(.int (.ofNat n))])) ..
  refine oS (fun _=>XS.bipush X0.here hx rfl (hb hby at_76)) ?_
  refine oS (fun _=>Jvm.RoadKit.iremM (g:=(mkF m 78 #[vi pa,vi pb,vi pv,s3,vi pr,vi ng,vi c1,vi c2,.unset,.unset,.unset,.unset,.unset,.unset,.unset,.unset,.unset,.unset] [(.int 10),(.int (.ofNat n))])) X0 hx rfl (hb hby at_78) rfl (by decide)) ?_
  show gH (T0.setTop (mkF m 79 #[vi pa,vi pb,vi pv,s3,vi pr,vi ng,vi c1,vi c2,.unset,.unset,.unset,.unset,.unset,.unset,.unset,.unset,.unset,.unset] [(.int ((Int32.ofNat n) % (10:Int32)))])) ..
  rw [(show Int32.ofNat n % (10:Int32) = Int32.ofNat (n % 10) from own_mod (d:=10) (by omega) (by decide) (by decide))]
  show gH (T0.setTop (mkF m 79 #[vi pa,vi pb,vi pv,s3,vi pr,vi ng,vi c1,vi c2,.unset,.unset,.unset,.unset,.unset,.unset,.unset,.unset,.unset,.unset] [(.int (.ofNat (n % 10)))])) ..
  obtain ⟨d,ed⟩ : ∃ z,z = n % 10:=⟨_,rfl⟩
  have hd : d < 10:=by omega
  rw [← ed]
  show gH (T0.setTop (mkF m 79 #[vi pa,vi pb,vi pv,s3,vi pr,vi ng,vi c1,vi c2,.unset,.unset,.unset,.unset,.unset,.unset,.unset,.unset,.unset,.unset] [(.int (.ofNat d))])) ..
  refine oS (fun _=>XS.istore X0.here hx rfl (hb hby at_79) rfl (l':=#[vi pa,vi pb,vi pv,s3,vi pr,vi ng,vi c1,vi c2,vi (.ofNat d),.unset,.unset,.unset,.unset,.unset,.unset,.unset,.unset,.unset]) rfl) ?_
  refine oS (fun _=>XS.iload X0.here hx rfl (hb hby at_81) rfl) ?_
  show gH (T0.setTop (mkF m 83 #[vi pa,vi pb,vi pv,s3,vi pr,vi ng,vi c1,vi c2,vi (.ofNat d),.unset,.unset,.unset,.unset,.unset,.unset,.unset,.unset,.unset] [(.int ng)])) ..
  rcases hng with rfl | rfl
  · skip
    show gH (T0.setTop (mkF m 83 #[vi pa,vi pb,vi pv,s3,vi pr,vi 0,vi c1,vi c2,vi (.ofNat d),.unset,.unset,.unset,.unset,.unset,.unset,.unset,.unset,.unset] [(.int 0)])) ..
    refine oS (fun _=>XS.ifYes X0.here hx rfl (pc0:=83) (pc':=93) rfl (hb hby at_83) rfl ((if0 _ _).trans (teq rfl).1) (by decide) (by decide)) ?_
    refine oS (fun _=>XS.iload X0.here hx rfl (hb hby at_93) rfl) ?_
    refine oS (fun _=>XS.i2l X0.here hx rfl (hb hby at_95) rfl) ?_
    refine oS (fun _=>XS.lstore X0.here hx rfl (hb hby at_96) rfl (l':=#[vi pa,vi pb,vi pv,s3,vi pr,vi 0,vi c1,vi c2,vi (.ofNat d),.val (.long ((Int32.ofNat d).toInt64)),.second,.unset,.unset,.unset,.unset,.unset,.unset,.unset]) rfl) ?_
    refine oS (fun _=>XS.bipush X0.here hx rfl (hb hby at_98)) ?_
    obtain ⟨T1,h1,k1,X1,e1,E1,A1,st1⟩:=newP X0 hx hZ (oW hw 3 rfl) e0 (g:=(mkF m 100 #[vi pa,vi pb,vi pv,s3,vi pr,vi 0,vi c1,vi c2,vi (.ofNat d),.val (.long ((Int32.ofNat d).toInt64)),.second,.unset,.unset,.unset,.unset,.unset,.unset,.unset] [(.int 10)])) rfl (hb hby at_100) rfl (by decide) (cap:=10) (by decide) (by decide) (show cells+1≤56 by omega) (show slots+10≤448 by omega)
    obtain ⟨b1,g1⟩ : ∃ z,z = h0.size:=⟨_,rfl⟩
    rw [← g1] at A1 st1
    refine oS st1 ?_
    have z2:=E1.1
    have O3:=Old.ext O0 E1
    have K4:=Kr.ext E1
    have V1 : Arv Z h1 b1 k1 .byte (10:Int32) [] (.int 0):=Arv.new A1 (by decide)
    have lt1:=oL A1.lt
    show gH (T1.setTop (mkF m 102 #[vi pa,vi pb,vi pv,s3,vi pr,vi 0,vi c1,vi c2,vi (.ofNat d),.val (.long ((Int32.ofNat d).toInt64)),.second,.unset,.unset,.unset,.unset,.unset,.unset,.unset] [(.ref b1)])) ..
    refine oS (fun _=>XS.astore X1.here hx rfl (hb hby at_102) rfl rfl (l':=#[vi pa,vi pb,vi pv,s3,vi pr,vi 0,vi c1,vi c2,vi (.ofNat d),.val (.long ((Int32.ofNat d).toInt64)),.second,vr b1,.unset,.unset,.unset,.unset,.unset,.unset]) rfl) ?_
    show gH (T1.setTop (mkF m 104 #[vi pa,vi pb,vi pv,s3,vi pr,vi 0,vi c1,vi c2,vi (.ofNat d),.val (.long ((Int32.ofNat d).toInt64)),.second,vr b1,.unset,.unset,.unset,.unset,.unset,.unset] [])) ..
    exact own_w pa pb pr _ c1 c2 _ b1 k1 d w1 fm el ea dg u8 kea kdg _ _ hx hZ hw hby hml hown X1 e1 N0 O3 hret hlk EV (by omega) (by omega) hd (Or.inl ⟨rfl,rfl⟩) hpr (by omega) V1
  · skip
    show gH (T0.setTop (mkF m 83 #[vi pa,vi pb,vi pv,s3,vi pr,vi 1,vi c1,vi c2,vi (.ofNat d),.unset,.unset,.unset,.unset,.unset,.unset,.unset,.unset,.unset] [(.int 1)])) ..
    refine oS (fun _=>XS.ifNo X0.here hx rfl (hb hby at_83) rfl ((if0 _ _).trans (feq (by decide)).1)) ?_
    refine oS (fun _=>XS.iload X0.here hx rfl (hb hby at_86) rfl) ?_
    refine oS (fun _=>XS.ineg X0.here hx rfl (hb hby at_88) rfl) ?_
    refine oS (fun _=>XS.i2l X0.here hx rfl (hb hby at_89) rfl) ?_
    refine oS (fun _=>XS.goto X0.here hx rfl (pc0:=90) (pc':=96) rfl (hb hby at_90) (by decide) (by decide)) ?_
    refine oS (fun _=>XS.lstore X0.here hx rfl (hb hby at_96) rfl (l':=#[vi pa,vi pb,vi pv,s3,vi pr,vi 1,vi c1,vi c2,vi (.ofNat d),.val (.long ((-(Int32.ofNat d)).toInt64)),.second,.unset,.unset,.unset,.unset,.unset,.unset,.unset]) rfl) ?_
    refine oS (fun _=>XS.bipush X0.here hx rfl (hb hby at_98)) ?_
    obtain ⟨T5,h5,k5,X5,e5,E5,A5,st5⟩:=newP X0 hx hZ (oW hw 3 rfl) e0 (g:=(mkF m 100 #[vi pa,vi pb,vi pv,s3,vi pr,vi 1,vi c1,vi c2,vi (.ofNat d),.val (.long ((-(Int32.ofNat d)).toInt64)),.second,.unset,.unset,.unset,.unset,.unset,.unset,.unset] [(.int 10)])) rfl (hb hby at_100) rfl (by decide) (cap:=10) (by decide) (by decide) (show cells+1≤56 by omega) (show slots+10≤448 by omega)
    obtain ⟨b5,g5⟩ : ∃ z,z = h0.size:=⟨_,rfl⟩
    rw [← g5] at A5 st5
    refine oS st5 ?_
    have z6:=E5.1
    have O7:=Old.ext O0 E5
    have K8:=Kr.ext E5
    have V5 : Arv Z h5 b5 k5 .byte (10:Int32) [] (.int 0):=Arv.new A5 (by decide)
    have lt5:=oL A5.lt
    show gH (T5.setTop (mkF m 102 #[vi pa,vi pb,vi pv,s3,vi pr,vi 1,vi c1,vi c2,vi (.ofNat d),.val (.long ((-(Int32.ofNat d)).toInt64)),.second,.unset,.unset,.unset,.unset,.unset,.unset,.unset] [(.ref b5)])) ..
    refine oS (fun _=>XS.astore X5.here hx rfl (hb hby at_102) rfl rfl (l':=#[vi pa,vi pb,vi pv,s3,vi pr,vi 1,vi c1,vi c2,vi (.ofNat d),.val (.long ((-(Int32.ofNat d)).toInt64)),.second,vr b5,.unset,.unset,.unset,.unset,.unset,.unset]) rfl) ?_
    show gH (T5.setTop (mkF m 104 #[vi pa,vi pb,vi pv,s3,vi pr,vi 1,vi c1,vi c2,vi (.ofNat d),.val (.long ((-(Int32.ofNat d)).toInt64)),.second,vr b5,.unset,.unset,.unset,.unset,.unset,.unset] [])) ..
    exact own_w pa pb pr _ c1 c2 _ b5 k5 d w1 fm el ea dg u8 kea kdg _ _ hx hZ hw hby hml hown X5 e5 N0 O7 hret hlk EV (by omega) (by omega) hd (Or.inr ⟨rfl,rfl⟩) hpr (by omega) V5
theorem own_u {p:Program} {l:Launch} {e:Env} {s:State} {m:MethodId} {args:Array Value} {below:List Frame} {meth:Method} {c:Code} {Z:State} {a0:Array Value} {locs:List Loc} {cells slots : Nat} {T0:State} {h0:Heap}  (pa pb pv pr ng : Int32) (w1:Int32) (fm:Value) (el ea dg u8 : Addr) (kea kdg : ClassId) (s3:Slot) (hx:p.tables.exec = Jvm.exec) (hZ:Z.Warmed39 s.vm) (hw:∀ d∈tables_1,d.before a0 Z = true) (hby:c.code = code) (hml:c.maxLocals = 18) (hown:s.vm.findClass "com/example/sluse/sluse/TextExpositionBytesPinLaw" = some m.cls) (X0:Stand p l e room_1 s m args below meth c T0 locs cells slots) (e0:T0.heap = h0) (N0:Fr Z.heap.size locs) (O0:Old Z Z.heap.size h0) (hret:meth.sig.returnType = some .boolean) (hlk:meth.locks = false) (EV:own_ENV Z w1 fm el ea dg u8 kea kdg) (hcs:cells+24≤56) (hss:slots+303≤448) (hpr:pr = 0 ∨ pr = 1) (hng:ng = 0 ∨ ng = 1)
     :
    own_G p.tables e below (own_F s below (fun v h L=>v = some (.int 1)∧Fr Z.heap.size L) 56 448) (T0.setTop (mkF m 26 #[vi pa,vi pb,vi pv,s3,vi pr,vi ng,.unset,.unset,.unset,.unset,.unset,.unset,.unset,.unset,.unset,.unset,.unset,.unset] [])):=by
  have z0 : Z.heap.size≤h0.size:=O0.2.1
  show gH (T0.setTop (mkF m 26 #[vi pa,vi pb,vi pv,s3,vi pr,vi ng,.unset,.unset,.unset,.unset,.unset,.unset,.unset,.unset,.unset,.unset,.unset,.unset] [])) ..
  obtain ⟨S1,hw1,US,SF,hfm,SE,Ee,Fe,Ve,SD,Dg,SU,SV⟩:=id EV
  refine oS (fun _=>XS.iload X0.here hx rfl (hb hby at_26) rfl) ?_
  show gH (T0.setTop (mkF m 28 #[vi pa,vi pb,vi pv,s3,vi pr,vi ng,.unset,.unset,.unset,.unset,.unset,.unset,.unset,.unset,.unset,.unset,.unset,.unset] [(.int pr)])) ..
  rcases hpr with rfl | rfl
  · skip
    show gH (T0.setTop (mkF m 28 #[vi pa,vi pb,vi pv,s3,vi 0,vi ng,.unset,.unset,.unset,.unset,.unset,.unset,.unset,.unset,.unset,.unset,.unset,.unset] [(.int 0)])) ..
    refine oS (fun _=>XS.ifYes X0.here hx rfl (pc0:=28) (pc':=54) rfl (hb hby at_28) rfl ((if0 _ _).trans (teq rfl).1) (by decide) (by decide)) ?_
    refine oS (fun _=>XS.iloadN X0.here hx rfl (hb hby at_54) rfl) ?_
    show gH (T0.setTop (mkF m 55 #[vi pa,vi pb,vi pv,s3,vi 0,vi ng,.unset,.unset,.unset,.unset,.unset,.unset,.unset,.unset,.unset,.unset,.unset,.unset] [(.int pa)])) ..
    refine oS (X0.ldcInt hx hown (mvT hZ (oW hw 346 rfl)) (g:=(mkF m 55 #[vi pa,vi pb,vi pv,s3,vi 0,vi ng,.unset,.unset,.unset,.unset,.unset,.unset,.unset,.unset,.unset,.unset,.unset,.unset] [(.int pa)])) rfl (hb hby at_55)) ?_
    show gH (T0.setTop (mkF m 57 #[vi pa,vi pb,vi pv,s3,vi 0,vi ng,.unset,.unset,.unset,.unset,.unset,.unset,.unset,.unset,.unset,.unset,.unset,.unset] [(.int 65535),(.int pa)])) ..
    refine oS (fun _=>XS.iand X0.here hx rfl (hb hby at_57) rfl) ?_
    obtain ⟨_,T1,L1,X1,⟨r1,rfl,N1q,eh1,hr1,hs1⟩,st1⟩:=own_cS X0 hx hZ hown (own_plain l Z a0 hw [] (pa&&&(65535:Int32)) h0 O0 ⟨by rw [c_mask pa 65535 16 (by decide) rfl]; omega,by rw [c_mask pa 65535 16 (by decide) rfl]; omega⟩) (oW hw 347 rfl) (oW hw 348 rfl) (oW hw 341 rfl) (oW hw 349 rfl) (W:=0) (g:=(mkF m 58 #[vi pa,vi pb,vi pv,s3,vi 0,vi ng,.unset,.unset,.unset,.unset,.unset,.unset,.unset,.unset,.unset,.unset,.unset,.unset] [(.int (pa&&&(65535:Int32)))])) rfl (by rw [hml]; rfl) (argsL:=[(.int (pa&&&(65535:Int32)))]) (rest:=[]) (lenOf own_pd1 rfl) rfl (hb hby at_58) rfl e0 (show cells+0≤56 by omega) (show slots+0≤448 by omega)
    have N1:=Fr.app N0 N1q
    refine oS st1 ?_
    show gH (T1.setTop (mkF m 61 #[vi pa,vi pb,vi pv,s3,vi 0,vi ng,.unset,.unset,.unset,.unset,.unset,.unset,.unset,.unset,.unset,.unset,.unset,.unset] [(.int r1)])) ..
    refine oS (fun _=>XS.istore X1.here hx rfl (hb hby at_61) rfl (l':=#[vi pa,vi pb,vi pv,s3,vi 0,vi ng,vi r1,.unset,.unset,.unset,.unset,.unset,.unset,.unset,.unset,.unset,.unset,.unset]) rfl) ?_
    refine oS (fun _=>XS.iloadN X1.here hx rfl (hb hby at_63) rfl) ?_
    show gH (T1.setTop (mkF m 64 #[vi pa,vi pb,vi pv,s3,vi 0,vi ng,vi r1,.unset,.unset,.unset,.unset,.unset,.unset,.unset,.unset,.unset,.unset,.unset] [(.int pb)])) ..
    refine oS (X1.ldcInt hx hown (mvT hZ (oW hw 346 rfl)) (g:=(mkF m 64 #[vi pa,vi pb,vi pv,s3,vi 0,vi ng,vi r1,.unset,.unset,.unset,.unset,.unset,.unset,.unset,.unset,.unset,.unset,.unset] [(.int pb)])) rfl (hb hby at_64)) ?_
    show gH (T1.setTop (mkF m 66 #[vi pa,vi pb,vi pv,s3,vi 0,vi ng,vi r1,.unset,.unset,.unset,.unset,.unset,.unset,.unset,.unset,.unset,.unset,.unset] [(.int 65535),(.int pb)])) ..
    refine oS (fun _=>XS.iand X1.here hx rfl (hb hby at_66) rfl) ?_
    obtain ⟨_,T2,L2,X2,⟨r2,rfl,N2q,eh2,hr2,hs2⟩,st2⟩:=own_cS X1 hx hZ hown (own_plain l Z a0 hw [] (pb&&&(65535:Int32)) h0 O0 ⟨by rw [c_mask pb 65535 16 (by decide) rfl]; omega,by rw [c_mask pb 65535 16 (by decide) rfl]; omega⟩) (oW hw 347 rfl) (oW hw 348 rfl) (oW hw 341 rfl) (oW hw 349 rfl) (W:=0) (g:=(mkF m 67 #[vi pa,vi pb,vi pv,s3,vi 0,vi ng,vi r1,.unset,.unset,.unset,.unset,.unset,.unset,.unset,.unset,.unset,.unset,.unset] [(.int (pb&&&(65535:Int32)))])) rfl (by rw [hml]; rfl) (argsL:=[(.int (pb&&&(65535:Int32)))]) (rest:=[]) (lenOf own_pd1 rfl) rfl (hb hby at_67) rfl eh1 (show cells+0+0≤56 by omega) (show slots+0+0≤448 by omega)
    have N2:=Fr.app N1 N2q
    refine oS st2 ?_
    show gH (T2.setTop (mkF m 70 #[vi pa,vi pb,vi pv,s3,vi 0,vi ng,vi r1,.unset,.unset,.unset,.unset,.unset,.unset,.unset,.unset,.unset,.unset,.unset] [(.int r2)])) ..
    refine oS (fun _=>XS.istore X2.here hx rfl (hb hby at_70) rfl (l':=#[vi pa,vi pb,vi pv,s3,vi 0,vi ng,vi r1,vi r2,.unset,.unset,.unset,.unset,.unset,.unset,.unset,.unset,.unset,.unset]) rfl) ?_
    show gH (T2.setTop (mkF m 72 #[vi pa,vi pb,vi pv,s3,vi 0,vi ng,vi r1,vi r2,.unset,.unset,.unset,.unset,.unset,.unset,.unset,.unset,.unset,.unset] [])) ..
    exact own_v pa pb pv _ ng r1 r2 w1 fm el ea dg u8 kea kdg _ hx hZ hw hby hml hown X2 eh2 N2 O0 hret hlk EV (by omega) (by omega) hng (Or.inr ⟨rfl,hr1,hr2,hs1,hs2⟩)
  · skip
    show gH (T0.setTop (mkF m 28 #[vi pa,vi pb,vi pv,s3,vi 1,vi ng,.unset,.unset,.unset,.unset,.unset,.unset,.unset,.unset,.unset,.unset,.unset,.unset] [(.int 1)])) ..
    refine oS (fun _=>XS.ifNo X0.here hx rfl (hb hby at_28) rfl ((if0 _ _).trans (feq (by decide)).1)) ?_
    show gH (T0.setTop (mkF m 31 #[vi pa,vi pb,vi pv,s3,vi 1,vi ng,.unset,.unset,.unset,.unset,.unset,.unset,.unset,.unset,.unset,.unset,.unset,.unset] [])) ..
    refine oS (X0.ldcInt hx hown (mvT hZ (oW hw 0 rfl)) (g:=(mkF m 31 #[vi pa,vi pb,vi pv,s3,vi 1,vi ng,.unset,.unset,.unset,.unset,.unset,.unset,.unset,.unset,.unset,.unset,.unset,.unset] [])) rfl (hb hby at_31)) ?_
    show gH (T0.setTop (mkF m 33 #[vi pa,vi pb,vi pv,s3,vi 1,vi ng,.unset,.unset,.unset,.unset,.unset,.unset,.unset,.unset,.unset,.unset,.unset,.unset] [(.int 55296)])) ..
    refine oS (fun _=>XS.iloadN X0.here hx rfl (hb hby at_33) rfl) ?_
    refine oS (fun _=>XS.sipush X0.here hx rfl (hb hby at_34)) ?_
    refine oS (fun _=>XS.iand X0.here hx rfl (hb hby at_37) rfl) ?_
    refine oS (fun _=>XS.ior X0.here hx rfl (hb hby at_38) rfl) ?_
    refine oS (fun _=>XS.istore X0.here hx rfl (hb hby at_39) rfl (l':=#[vi pa,vi pb,vi pv,s3,vi 1,vi ng,vi ((55296:Int32)|||(pa&&&(1023:Int32))),.unset,.unset,.unset,.unset,.unset,.unset,.unset,.unset,.unset,.unset,.unset]) rfl) ?_
    show gH (T0.setTop (mkF m 41 #[vi pa,vi pb,vi pv,s3,vi 1,vi ng,vi ((55296:Int32)|||(pa&&&(1023:Int32))),.unset,.unset,.unset,.unset,.unset,.unset,.unset,.unset,.unset,.unset,.unset] [])) ..
    refine oS (X0.ldcInt hx hown (mvT hZ (oW hw 1 rfl)) (g:=(mkF m 41 #[vi pa,vi pb,vi pv,s3,vi 1,vi ng,vi ((55296:Int32)|||(pa&&&(1023:Int32))),.unset,.unset,.unset,.unset,.unset,.unset,.unset,.unset,.unset,.unset,.unset] [])) rfl (hb hby at_41)) ?_
    show gH (T0.setTop (mkF m 43 #[vi pa,vi pb,vi pv,s3,vi 1,vi ng,vi ((55296:Int32)|||(pa&&&(1023:Int32))),.unset,.unset,.unset,.unset,.unset,.unset,.unset,.unset,.unset,.unset,.unset] [(.int 56320)])) ..
    refine oS (fun _=>XS.iloadN X0.here hx rfl (hb hby at_43) rfl) ?_
    refine oS (fun _=>XS.sipush X0.here hx rfl (hb hby at_44)) ?_
    refine oS (fun _=>XS.iand X0.here hx rfl (hb hby at_47) rfl) ?_
    refine oS (fun _=>XS.ior X0.here hx rfl (hb hby at_48) rfl) ?_
    refine oS (fun _=>XS.istore X0.here hx rfl (hb hby at_49) rfl (l':=#[vi pa,vi pb,vi pv,s3,vi 1,vi ng,vi ((55296:Int32)|||(pa&&&(1023:Int32))),vi ((56320:Int32)|||(pb&&&(1023:Int32))),.unset,.unset,.unset,.unset,.unset,.unset,.unset,.unset,.unset,.unset]) rfl) ?_
    refine oS (fun _=>XS.goto X0.here hx rfl (pc0:=51) (pc':=72) rfl (hb hby at_51) (by decide) (by decide)) ?_
    show gH (T0.setTop (mkF m 72 #[vi pa,vi pb,vi pv,s3,vi 1,vi ng,vi ((55296:Int32)|||(pa&&&(1023:Int32))),vi ((56320:Int32)|||(pb&&&(1023:Int32))),.unset,.unset,.unset,.unset,.unset,.unset,.unset,.unset,.unset,.unset] [])) ..
    exact own_v pa pb pv _ ng _ _ w1 fm el ea dg u8 kea kdg _ hx hZ hw hby hml hown X0 e0 N0 O0 hret hlk EV (by omega) (by omega) hng (Or.inl ⟨rfl,rfl,rfl⟩)
theorem own_law (l:Launch) (Z:State) (a0:Array Value) (hw:∀ d∈tables_1,d.before a0 Z = true) (ws:List Jvm.Cond) (p0:Int32) (p1:Int32) (p2:Int32) (p3:Int32) (w1:Int32) (fm:Value) (el ea dg u8 : Addr) (kea kdg : ClassId) (h0:Heap) (O0:Old Z Z.heap.size h0) (EV:own_ENV Z w1 fm el ea dg u8 kea kdg) :
    own_Met l Z x code maxLocals ret ws room_1 #[(.int p0),(.int p1),(.int p2),(.int p3)] h0 (fun v h L=>v = some (.int 1)∧Fr Z.heap.size L) 56 448:=by
  refine own_body (ef:=fun m=>mkF m 0 #[.val (.int p0),.val (.int p1),.val (.int p2),.val (.int p3),.unset,.unset,.unset,.unset,.unset,.unset,.unset,.unset,.unset,.unset,.unset,.unset,.unset,.unset] []) (plainFor_of_name own_pn63) (fun m=>by first | (simp [entryFrame,mkF,argsToLocals,Value.category,maxLocals]; done) | rfl) ?_
  intro p e s m below meth c T0 hx hZ hby hml hown hnm hret hlk X0 e0
  have N0:=Fr.nil Z.heap.size
  have z0 : Z.heap.size≤h0.size:=O0.2.1
  show gH (T0.setTop (mkF m 0 #[vi p0,vi p1,vi p2,vi p3,.unset,.unset,.unset,.unset,.unset,.unset,.unset,.unset,.unset,.unset,.unset,.unset,.unset,.unset] [])) ..
  refine oS (fun _=>XS.iloadN X0.here hx rfl (hb hby at_0) rfl) ?_
  refine oS (fun _=>XS.iconst X0.here hx rfl (hb hby at_1)) ?_
  refine oS (fun _=>XS.iand X0.here hx rfl (hb hby at_2) rfl) ?_
  show gH (T0.setTop (mkF m 3 #[vi p0,vi p1,vi p2,vi p3,.unset,.unset,.unset,.unset,.unset,.unset,.unset,.unset,.unset,.unset,.unset,.unset,.unset,.unset] [(.int (p3&&&(1:Int32)))])) ..
  by_cases hb1 : (p3&&&(1:Int32)) = (0:Int32)
  · skip
    refine oS (fun _=>XS.ifYes X0.here hx rfl (pc0:=3) (pc':=10) rfl (hb hby at_3) rfl ((if0 _ _).trans (teq hb1).1) (by decide) (by decide)) ?_
    refine oS (fun _=>XS.iconst X0.here hx rfl (hb hby at_10)) ?_
    refine oS (fun _=>XS.istore X0.here hx rfl (hb hby at_11) rfl (l':=#[vi p0,vi p1,vi p2,vi p3,vi 0,.unset,.unset,.unset,.unset,.unset,.unset,.unset,.unset,.unset,.unset,.unset,.unset,.unset]) rfl) ?_
    refine oS (fun _=>XS.iloadN X0.here hx rfl (hb hby at_13) rfl) ?_
    refine oS (fun _=>XS.iconst X0.here hx rfl (hb hby at_14)) ?_
    refine oS (fun _=>XS.iand X0.here hx rfl (hb hby at_15) rfl) ?_
    show gH (T0.setTop (mkF m 16 #[vi p0,vi p1,vi p2,vi p3,vi 0,.unset,.unset,.unset,.unset,.unset,.unset,.unset,.unset,.unset,.unset,.unset,.unset,.unset] [(.int (p3&&&(2:Int32)))])) ..
    by_cases hb2 : (p3&&&(2:Int32)) = (0:Int32)
    · skip
      refine oS (fun _=>XS.ifYes X0.here hx rfl (pc0:=16) (pc':=23) rfl (hb hby at_16) rfl ((if0 _ _).trans (teq hb2).1) (by decide) (by decide)) ?_
      refine oS (fun _=>XS.iconst X0.here hx rfl (hb hby at_23)) ?_
      refine oS (fun _=>XS.istore X0.here hx rfl (hb hby at_24) rfl (l':=#[vi p0,vi p1,vi p2,vi p3,vi 0,vi 0,.unset,.unset,.unset,.unset,.unset,.unset,.unset,.unset,.unset,.unset,.unset,.unset]) rfl) ?_
      show gH (T0.setTop (mkF m 26 #[vi p0,vi p1,vi p2,vi p3,vi 0,vi 0,.unset,.unset,.unset,.unset,.unset,.unset,.unset,.unset,.unset,.unset,.unset,.unset] [])) ..
      exact own_u p0 p1 p2 _ _ w1 fm el ea dg u8 kea kdg _ hx hZ hw hby hml hown X0 e0 N0 O0 hret hlk EV (by omega) (by omega) (Or.inl rfl) (Or.inl rfl)
    · show gH (T0.setTop (mkF m 16 #[vi p0,vi p1,vi p2,vi p3,vi 0,.unset,.unset,.unset,.unset,.unset,.unset,.unset,.unset,.unset,.unset,.unset,.unset,.unset] [(.int (p3&&&(2:Int32)))])) ..
      refine oS (fun _=>XS.ifNo X0.here hx rfl (hb hby at_16) rfl ((if0 _ _).trans (feq hb2).1)) ?_
      refine oS (fun _=>XS.iconst X0.here hx rfl (hb hby at_19)) ?_
      refine oS (fun _=>XS.goto X0.here hx rfl (pc0:=20) (pc':=24) rfl (hb hby at_20) (by decide) (by decide)) ?_
      refine oS (fun _=>XS.istore X0.here hx rfl (hb hby at_24) rfl (l':=#[vi p0,vi p1,vi p2,vi p3,vi 0,vi 1,.unset,.unset,.unset,.unset,.unset,.unset,.unset,.unset,.unset,.unset,.unset,.unset]) rfl) ?_
      show gH (T0.setTop (mkF m 26 #[vi p0,vi p1,vi p2,vi p3,vi 0,vi 1,.unset,.unset,.unset,.unset,.unset,.unset,.unset,.unset,.unset,.unset,.unset,.unset] [])) ..
      exact own_u p0 p1 p2 _ _ w1 fm el ea dg u8 kea kdg _ hx hZ hw hby hml hown X0 e0 N0 O0 hret hlk EV (by omega) (by omega) (Or.inl rfl) (Or.inr rfl)
  · show gH (T0.setTop (mkF m 3 #[vi p0,vi p1,vi p2,vi p3,.unset,.unset,.unset,.unset,.unset,.unset,.unset,.unset,.unset,.unset,.unset,.unset,.unset,.unset] [(.int (p3&&&(1:Int32)))])) ..
    refine oS (fun _=>XS.ifNo X0.here hx rfl (hb hby at_3) rfl ((if0 _ _).trans (feq hb1).1)) ?_
    refine oS (fun _=>XS.iconst X0.here hx rfl (hb hby at_6)) ?_
    refine oS (fun _=>XS.goto X0.here hx rfl (pc0:=7) (pc':=11) rfl (hb hby at_7) (by decide) (by decide)) ?_
    refine oS (fun _=>XS.istore X0.here hx rfl (hb hby at_11) rfl (l':=#[vi p0,vi p1,vi p2,vi p3,vi 1,.unset,.unset,.unset,.unset,.unset,.unset,.unset,.unset,.unset,.unset,.unset,.unset,.unset]) rfl) ?_
    refine oS (fun _=>XS.iloadN X0.here hx rfl (hb hby at_13) rfl) ?_
    refine oS (fun _=>XS.iconst X0.here hx rfl (hb hby at_14)) ?_
    refine oS (fun _=>XS.iand X0.here hx rfl (hb hby at_15) rfl) ?_
    show gH (T0.setTop (mkF m 16 #[vi p0,vi p1,vi p2,vi p3,vi 1,.unset,.unset,.unset,.unset,.unset,.unset,.unset,.unset,.unset,.unset,.unset,.unset,.unset] [(.int (p3&&&(2:Int32)))])) ..
    by_cases hb2 : (p3&&&(2:Int32)) = (0:Int32)
    · skip
      refine oS (fun _=>XS.ifYes X0.here hx rfl (pc0:=16) (pc':=23) rfl (hb hby at_16) rfl ((if0 _ _).trans (teq hb2).1) (by decide) (by decide)) ?_
      refine oS (fun _=>XS.iconst X0.here hx rfl (hb hby at_23)) ?_
      refine oS (fun _=>XS.istore X0.here hx rfl (hb hby at_24) rfl (l':=#[vi p0,vi p1,vi p2,vi p3,vi 1,vi 0,.unset,.unset,.unset,.unset,.unset,.unset,.unset,.unset,.unset,.unset,.unset,.unset]) rfl) ?_
      show gH (T0.setTop (mkF m 26 #[vi p0,vi p1,vi p2,vi p3,vi 1,vi 0,.unset,.unset,.unset,.unset,.unset,.unset,.unset,.unset,.unset,.unset,.unset,.unset] [])) ..
      exact own_u p0 p1 p2 _ _ w1 fm el ea dg u8 kea kdg _ hx hZ hw hby hml hown X0 e0 N0 O0 hret hlk EV (by omega) (by omega) (Or.inr rfl) (Or.inl rfl)
    · show gH (T0.setTop (mkF m 16 #[vi p0,vi p1,vi p2,vi p3,vi 1,.unset,.unset,.unset,.unset,.unset,.unset,.unset,.unset,.unset,.unset,.unset,.unset,.unset] [(.int (p3&&&(2:Int32)))])) ..
      refine oS (fun _=>XS.ifNo X0.here hx rfl (hb hby at_16) rfl ((if0 _ _).trans (feq hb2).1)) ?_
      refine oS (fun _=>XS.iconst X0.here hx rfl (hb hby at_19)) ?_
      refine oS (fun _=>XS.goto X0.here hx rfl (pc0:=20) (pc':=24) rfl (hb hby at_20) (by decide) (by decide)) ?_
      refine oS (fun _=>XS.istore X0.here hx rfl (hb hby at_24) rfl (l':=#[vi p0,vi p1,vi p2,vi p3,vi 1,vi 1,.unset,.unset,.unset,.unset,.unset,.unset,.unset,.unset,.unset,.unset,.unset,.unset]) rfl) ?_
      show gH (T0.setTop (mkF m 26 #[vi p0,vi p1,vi p2,vi p3,vi 1,vi 1,.unset,.unset,.unset,.unset,.unset,.unset,.unset,.unset,.unset,.unset,.unset,.unset] [])) ..
      exact own_u p0 p1 p2 _ _ w1 fm el ea dg u8 kea kdg _ hx hZ hw hby hml hown X0 e0 N0 O0 hret hlk EV (by omega) (by omega) (Or.inr rfl) (Or.inr rfl)
theorem own_len_v {args:Array Value} {first s : State} {o:Option Outcome} {idx:List Nat} {t:Term} {x:Addr} {cl:Cell} {z:Int32} (h:(Term.length t).eval args first o idx s = some (.int z)) (ht:t.eval args first o idx s = some (.ref x)) (ha:s.arrayAt? x = some cl) : cl.slots.size < 2 ^ 31∧cl.slots.size.toInt32 = z:=by
  by_cases hl : cl.slots.size < 2 ^ 31
  · rw [len_f ht ha hl] at h
    cases h
    exact ⟨hl,rfl⟩
  · simp [Term.eval,ht,ha,hl] at h
theorem own_eqR {args:Array Value} {first s : State} {o:Option Outcome} {idx:List Nat} {a b : Term} {y:Addr} (h:(Jvm.Cond.eq a b).value args first o s idx = some true) (hb:b.eval args first o idx s = some (.ref y)) : a.eval args first o idx s = some (.ref y):=by
  obtain ⟨x,y',h1,h2,h3,h4⟩:=cmp_v (Or.inl h)
  have e : y' = .ref y:=Option.some.inj (h2.symm.trans hb)
  subst e
  have hx : x.isRef = true:=h4.2
  rw [h1,gotT (eq_R h1 h2 hx rfl) h]
theorem own_size100 {n:Nat} (h1:n < 2 ^ 31) (h2:n.toInt32 = (100:Int32)) : n = 100:=by
  have e:=congrArg Int32.toInt h2
  rw [len_toInt h1,show (100:Int32).toInt = 100 from rfl] at e
  omega
/-- the table of the digits -/
theorem own_digits {args:Array Value} {s:State} {t:Term} {dg:Addr} (hf:Fit s) (wa:(Jvm.Cond.arrayClass .byte).before args s = true) (ev:∀ idx,t.eval args s none idx s = some (.ref dg)) (e1:(Jvm.Cond.exactly t "[B").value args s none s [] = some true) (e2:(Jvm.Cond.eq (Term.length t) (Term.int (100:Int32))).value args s none s [] = some true)
    (e3:(Jvm.Cond.all t (Jvm.Cond.eq (Term.elem t (Term.index 0)) (Term.add (Term.int (48:Int32)) (Term.rem (Term.index 0) (Term.int (10:Int32)))))).value args s none s [] = some true) : ∃ k,Arv s s.heap dg k .byte (Int32.ofNat 100) (oV own_dig 100) (.int 0):=by
  obtain ⟨cell,k,h1,h2,h3,h4,-⟩:=Exa.start (ev []) e1
  have hlen:=own_eqI e2
  obtain ⟨cl,ha⟩ : ∃ cl,s.arrayAt? dg = some cl:=by
    cases hc : s.arrayAt? dg with
    | none=>simp [Term.eval,ev,hc] at hlen
    | some cl=>exact ⟨cl,rfl⟩
  obtain ⟨g1,g2,g3,-⟩:=State.arrayAt?_spec ha
  cases h1.symm.trans g1
  obtain ⟨c',k',comp,q1,q2,q3⟩:=Cond.arrayClass_spec wa
  have q1' : s.vm.findClass "[B" = some c':=q1
  cases h2.symm.trans q1'
  have A : Arr s s.heap dg cell .byte:=⟨h1,⟨(fun q z=>by rw [z] at h4; cases h4),k',q2,comp,q3⟩,g2⟩
  have hl:=own_len_v hlen (ev []) ha
  have hsz:=own_size100 hl.1 hl.2
  have hall:=Cond.all_elim (ev []) ha e3
  have hget : ∀ j,j < 100→cell.slots[j]? = some (.int (own_dig j)):=fun j hj=>by
    have q:=hall j (by omega)
    obtain ⟨x,y,a1,a2,a3,-⟩:=cmp_v (Or.inl q)
    have hj1 : (Term.index 0).eval args s none [j] s = some (.int (.ofNat j)):=by simp [Term.eval]
    have hv : (Term.add (Term.int (48:Int32)) (Term.rem (Term.index 0) (Term.int (10:Int32)))).eval args s none [j] s = some (.int (own_dig j)):=by
      have hm : Int32.ofNat j % (10:Int32) = Int32.ofNat (j % 10):=own_mod (d:=10) (by omega) (by decide) (by decide)
      have hp : (48:Int32)+Int32.ofNat (j % 10) = own_dig j:=own_plus 48 (j % 10)
      simp [Term.eval,hm,hp]
    have e : y = .int (own_dig j):=Option.some.inj (a2.symm.trans hv)
    subst e
    have hx : x = .int (own_dig j):=by
      cases x with
      | int x=>exact congrArg Value.int (gotT (Cond.eq_ints a1 a2) q)
      | _=>simp [Kin,Value.isRef] at a3
    subst hx
    have z:=(elem_in a1 (ev _) hj1 h1).2
    rw [oC (by omega)] at z
    exact z
  refine ⟨cell.cls,cell,A,rfl,by rw [hsz,oC (by decide)],by decide,fun j hj=>?_,fun j hj=>?_⟩
  · rw [hget j (by omega),own_at own_dig (by omega)]
  · have q:=elem_fits (j:=Nat.toInt32 j) hf A (idx_in hj hl.1) (by rw [show (Nat.toInt32 j).toNatClampNeg = j from by simp only [Int32.toNatClampNeg,len_toInt (Nat.lt_trans hj hl.1)]; rfl]; exact hget j (by omega))
    rw [own_at own_dig (by omega)]
    exact q
theorem comes_1 {Post:Tables→Env→Array Value→State→Outcome→State→Prop} (hpost:∀ tb e args s v u,(limb_1_1.after args s (.returned v) u = true∧limb_1_2.after args s (.returned v) u = true∧True)→FrameEnd s (.returned v) u (Jvm.fieldLocs frame_1_writes args s++Jvm.arrayLocs frame_1_arrays args s++Jvm.staticLocs frame_1_statics s) 56 448→Post tb e args s (.returned v) u) :
    ArmFor flags0 classFile x code maxLocals ret World_1 tables_1 room_1 Calls_1 rest_1 Pre_1 Post:=by
  intro l hfl _ _ p e ha hc hk s m args below hf hA hF happ hP
  obtain ⟨hcalls,hrest,hpre⟩:=hP
  obtain ⟨-,-,-,hnamed,-,-,-,hat⟩:=(Spec.applies_iff hf).mp happ
  obtain ⟨hg,hn⟩:=and_e (Cond.before_iff.mp (show (Jvm.Cond.and given_1 narrow_1).before args s = true from hpre))
  obtain ⟨hq0,hr0⟩:=and_e hg
  obtain ⟨hq1,hr1⟩:=and_e hr0
  obtain ⟨hq2,hr2⟩:=and_e hr1
  obtain ⟨hq3,hr3⟩:=and_e hr2
  obtain ⟨w0,w1,w2,w3,rfl⟩ : ∃ w0 w1 w2 w3 : Value,args = #[w0,w1,w2,w3]:=by
    have hs : args.size = 4:=by simpa [Cond.value,given_1] using hq0
    obtain ⟨L⟩:=args
    match L,hs with
    | [w0,w1,w2,w3],_=>exact ⟨w0,w1,w2,w3,rfl⟩
  have hw:=fun d (hd:d∈tables_1)=>atoms_spec (ws:=Jvm.Cond.code x code maxLocals ret :: tables_1) hat d (List.mem_cons_of_mem _ hd)
  obtain ⟨hsets,hown0⟩:=atoms_of _ (rest_1_c_eq ▸ (show rest_1_c.before _ s = true from hrest))
  have hfit : Fit s:=fun {y c} hc i hi=>by
    obtain ⟨ha,rfl⟩:=Array.getElem?_eq_some_iff.mp hc
    have q:=List.all_eq_true.mp ((Array.all_eq_true_iff_forall_mem.mp hF) _ (Array.getElem_mem ha)) i (List.mem_range.mpr hi)
    simpa [Array.getElem?_eq_getElem hi] using q
  obtain ⟨p0,ep0⟩:=is_v hq1
  obtain rfl : w0 = (.int p0):=Option.some.inj ep0
  obtain ⟨p1,ep1⟩:=is_v hq2
  obtain rfl : w1 = (.int p1):=Option.some.inj ep1
  obtain ⟨p2,ep2⟩:=is_v hq3
  obtain rfl : w2 = (.int p2):=Option.some.inj ep2
  obtain ⟨p3,ep3⟩:=is_v hr3
  obtain rfl : w3 = (.int p3):=Option.some.inj ep3
  have n5:=not_v (Cond.before_iff.mp (hsets _ (List.mem_of_getElem? (i:=2) rfl)))
  obtain ⟨w1,e1⟩:=is_v (Cond.before_iff.mp (hsets _ (List.mem_of_getElem? (i:=1) rfl)))
  have S1 : Sta s s.heap "java/lang/String" "COMPACT_STRINGS" "Z" (.int w1):=Sta.start e1 (Or.inl (hsets _ (List.mem_of_getElem? (i:=0) rfl)))
  have c1 : ¬ (w1 = (0:Int32)):=gotF (Cond.eq_ints e1 (Term.int_eval (0))) n5
  obtain ⟨fm,e2,r2⟩:=isR_v (Cond.before_iff.mp (hsets _ (List.mem_of_getElem? (i:=8) rfl)))
  have SF : Sta s s.heap "jdk/internal/util/Preconditions" "SIOOBE_FORMATTER" "Ljava/util/function/BiFunction;" fm:=Sta.start e2 (Or.inl (hsets _ (List.mem_of_getElem? (i:=7) rfl)))
  have US : own_US s:=⟨Sta.start (own_eqI (Cond.before_iff.mp (hsets _ (List.mem_of_getElem? (i:=21) rfl)))) (Or.inl (hsets _ (List.mem_of_getElem? (i:=20) rfl))),Sta.start (own_eqI (Cond.before_iff.mp (hsets _ (List.mem_of_getElem? (i:=24) rfl)))) (Or.inl (hsets _ (List.mem_of_getElem? (i:=23) rfl))),Sta.start (own_eqI (Cond.before_iff.mp (hsets _ (List.mem_of_getElem? (i:=27) rfl)))) (Or.inl (hsets _ (List.mem_of_getElem? (i:=26) rfl)))⟩
  obtain ⟨u8,e8⟩:=exa_v (Cond.before_iff.mp (hsets _ (List.mem_of_getElem? (i:=17) rfl)))
  have SU : Sta s s.heap "sun/nio/cs/UTF_8" "INSTANCE" "Lsun/nio/cs/UTF_8;" (.ref u8):=Sta.start e8 (Or.inl (hsets _ (List.mem_of_getElem? (i:=12) rfl)))
  have SV : Sta s s.heap "java/nio/charset/StandardCharsets" "UTF_8" "Ljava/nio/charset/Charset;" (.ref u8):=Sta.start (own_eqR (Cond.before_iff.mp (hsets _ (List.mem_of_getElem? (i:=13) rfl))) e8) (Or.inl (hsets _ (List.mem_of_getElem? (i:=10) rfl)))
  obtain ⟨dg,ed⟩:=exa_v (Cond.before_iff.mp (hsets _ (List.mem_of_getElem? (i:=31) rfl)))
  have SD : Sta s s.heap "java/lang/Integer" "DigitOnes" "[B" (.ref dg):=Sta.start ed (Or.inl (hsets _ (List.mem_of_getElem? (i:=30) rfl)))
  obtain ⟨kdg,Dg⟩:=own_digits hfit (oW hw 3 rfl) (fun idx=>by have q:=ed; simp only [Term.eval] at q ⊢; exact q) (Cond.before_iff.mp (hsets _ (List.mem_of_getElem? (i:=31) rfl))) (Cond.before_iff.mp (hsets _ (List.mem_of_getElem? (i:=32) rfl))) (Cond.before_iff.mp (hsets _ (List.mem_of_getElem? (i:=33) rfl)))
  obtain ⟨el,ee⟩:=exa_v (Cond.before_iff.mp (hsets _ (List.mem_of_getElem? (i:=41) rfl)))
  have SE : Sta s s.heap "java/util/ImmutableCollections" "EMPTY_LIST" "Ljava/util/ImmutableCollections$ListN;" (.ref el):=Sta.start ee (Or.inl (hsets _ (List.mem_of_getElem? (i:=40) rfl)))
  have Ee:=Exa.start ee (Cond.before_iff.mp (hsets _ (List.mem_of_getElem? (i:=41) rfl)))
  obtain ⟨ea,ea'⟩:=arr_v (Cond.before_iff.mp (hsets _ (List.mem_of_getElem? (i:=42) rfl)))
  obtain ⟨ca,Aa⟩:=Arr.start ea' (Cond.before_iff.mp (hsets _ (List.mem_of_getElem? (i:=42) rfl)))
  have la:=own_len_v (own_eqI (Cond.before_iff.mp (hsets _ (List.mem_of_getElem? (i:=44) rfl)))) ea' (Aa.fin (Vm.Alike.refl _))
  have Ve : Arv s s.heap ea ca.cls (.object "java/lang/Object") (0:Int32) [] .null:=Arv.start hfit Aa la.1 la.2 (by decide) rfl trivial
  have Fe : Fld s s.heap el "java/util/ImmutableCollections$ListN" "elements" "[Ljava/lang/Object;" (.ref ea):=Fld.start ((fld_at ee).symm.trans ea')
  obtain ⟨n,o,h1,h2,h3,_,L,rfl,⟨rfl,N⟩,hq⟩:=own_law l s _ hw tables_1 p0 p1 p2 p3 w1 fm el ea dg u8 ca.cls kdg s.heap (Old.start s) ⟨S1,c1,US,SF,ref_cases r2,SE,Ee,Fe,Ve,SD,Dg,SU,SV⟩ p e ha hc hk s m _ below hf ((Spec.applies_iff_loose hf).mp happ).1 ⟨rfl,State.Warmed39.refl s,rfl⟩ trivial
  refine ⟨n,_,h1,h2,h3,hpost _ _ _ _ _ _ ⟨Cond.after_iff.mpr rfl,Cond.after_iff.mpr (eq_i res_at (Term.int_eval (1)) rfl),trivial⟩ ⟨hq.1,hq.2.1,(hq.2.2.sift fun y hy=>Or.inr (N y hy)).mono (by decide) (by decide)⟩⟩
theorem main_1_1 : Claimed_1_1:=comes_1 fun _ _ _ _ _ _ h hF=>⟨h.1,hF⟩
theorem main_1_2 : Claimed_1_2:=comes_1 fun _ _ _ _ _ _ h hF=>⟨h.2.1,hF⟩
end Jvm.Pilot.@@N@@
namespace Jvm.Pilot.@@N@@
open Jvm Jvm.ClassFile Sem Op Lib Jvm.Free Jvm.Stand Jvm.Pilot.@@N@@.Jvm.D
/-! MADE BY PROGRAM (witnessworld.py) out of the Statement's table words and the real class files: 48 classes; the members and pool entries that the words name. The judged class is class 1,her method 5. -/
namespace start1
open Jvm.ClassFile
def u (s:String) : CpInfo:=.utf8 (stringToUtf16 s)
/-- a pool by its gaps: so many unusable entries,then the entry; so many at the end -/
def gap : Nat→List CpInfo→List CpInfo
  | 0,r=>r
  | n+1,r=>.unusable :: gap n r
def poolList (es:List (Nat × CpInfo)) (last:Nat) : List CpInfo:=es.foldr (fun e r=>gap e.1 (e.2 :: r)) (gap last [])
def pool (es:List (Nat × CpInfo)) (last:Nat) : Array CpInfo:=⟨poolList es last⟩
def fileOf (pool:Array CpInfo) (this:Nat) (attrs:Array Attribute:=#[]) (ms:Array MethodInfo:=#[]) (fl:Nat:=33) (sup:Nat:=0) (ifs:Array Nat:=#[]) (fds:Array FieldInfo:=#[]) : ClassFile where
  minorVersion:=0
  majorVersion:=65
  constantPool:=pool
  accessFlags:=fl
  thisClass:=this
  superClass:=sup
  interfaces:=ifs
  fields:=fds
  methods:=ms
  attributes:=attrs
def plain (name:String) (sup:Option ClassId) : Class where
  name:=name
  kind:=.ordinary
  loader:=none
  accessFlags:=33
  super:=sup
  interfaces:=#[]
  cf:=none
  fields:=#[]
  methods:=#[]
  instanceTypes:=#[]
  staticTypes:=#[]
  resolved:=#[]
  callSites:=[]
  init:=.initialized
  statics:=none
  mirror:=none

def pool0 : Array CpInfo:=pool [(5,u "<init>"),(0,u "()V"),(1,.class_ 10),(1,u "java/lang/Object"),(85,u "clone"),(0,u "()Ljava/lang/Object;")] 26

def k0c0 : Code:={ maxStack:=0,maxLocals:=1,code:=object_method_1_code,exceptionTable:=#[],attributes:=#[] }
def k0m0 : Method:={ name:="<init>",desc:="()V",sig:={ parameters:=[],returnType:=none },accessFlags:=1,code:=some k0c0 }
def k0m1 : Method:={ name:="clone",desc:="()Ljava/lang/Object;",sig:={ parameters:=[],returnType:=some (.object "java/lang/Object") },accessFlags:=260,code:=none }
/-- java/lang/Object -/
def k0 : Class:={ plain "java/lang/Object" none with
  accessFlags:=33
  interfaces:=#[]
  cf:=some (fileOf pool0 8 #[] #[{ accessFlags:=1,nameIndex:=5,descriptorIndex:=6,attributes:=#[] },{ accessFlags:=260,nameIndex:=96,descriptorIndex:=97,attributes:=#[] }] 33 0 #[] #[])
  fields:=#[]
  methods:=#[k0m0,k0m1]
  instanceTypes:=#[]
  staticTypes:=#[]
  resolved:=Array.replicate 124 none
  statics:=none }

def pool1 : Array CpInfo:=pool [(2,.class_ 4),(0,.nameAndType 5 6),(0,u "java/lang/Object"),(0,u "<init>"),(0,u "()V"),(0,.integer 55296),(0,.integer 57343),(0,.methodref 10 11),(0,.class_ 12),(0,.nameAndType 13 14),(0,u "com/example/sluse/sluse/TextExpositionBytesPinLaw"),(0,u "at"),(0,u "([B[BII)Z"),(0,.integer 56320),(0,.integer 65535),(0,.methodref 10 18),(0,.nameAndType 19 20),(0,u "plain"),(0,u "(I)I"),(0,.integer 2147483647),(0,.integer 65536),(0,.methodref 10 24),(0,.nameAndType 25 26),(0,u "put"),(0,u "([BII)I"),(0,.class_ 28),(0,u "com/example/sluse/sluse/TextExposition"),(0,.methodref 27 3),(0,.methodref 27 31),(0,.nameAndType 32 33),(0,u "bytes"),(0,u "()[B"),(0,.class_ 35),(0,u "java/lang/String"),(0,.methodref 34 37),(0,.nameAndType 5 38),(0,u "([C)V"),(0,.methodref 27 40),(0,.nameAndType 41 42),(0,u "sample"),(0,u "(Ljava/lang/String;J[Ljava/lang/String;)V"),(0,.methodref 10 44),(0,.nameAndType 45 46),(0,u "same"),(0,u "([B[BI)Z"),(3,u "law"),(0,u "(IIII)Z")] 4

def k1m0 : Method:={ name:="<init>",desc:="()V",sig:={ parameters:=[],returnType:=none },accessFlags:=1,code:=none }
def k1c1 : Code:={ maxStack:=2,maxLocals:=1,code:=method_2_code,exceptionTable:=#[],attributes:=#[] }
def k1m1 : Method:={ name:="plain",desc:="(I)I",sig:={ parameters:=[.int],returnType:=some .int },accessFlags:=10,code:=some k1c1 }
def k1c2 : Code:={ maxStack:=5,maxLocals:=3,code:=method_3_code,exceptionTable:=#[],attributes:=#[] }
def k1m2 : Method:={ name:="put",desc:="([BII)I",sig:={ parameters:=[(.array .byte),.int,.int],returnType:=some .int },accessFlags:=10,code:=some k1c2 }
def k1c3 : Code:={ maxStack:=3,maxLocals:=4,code:=method_4_code,exceptionTable:=#[],attributes:=#[] }
def k1m3 : Method:={ name:="at",desc:="([B[BII)Z",sig:={ parameters:=[(.array .byte),(.array .byte),.int,.int],returnType:=some .boolean },accessFlags:=10,code:=some k1c3 }
def k1c4 : Code:={ maxStack:=4,maxLocals:=3,code:=method_5_code,exceptionTable:=#[],attributes:=#[] }
def k1m4 : Method:={ name:="same",desc:="([B[BI)Z",sig:={ parameters:=[(.array .byte),(.array .byte),.int],returnType:=some .boolean },accessFlags:=10,code:=some k1c4 }
def k1c5 : Code:={ maxStack:=6,maxLocals:=18,code:=code,exceptionTable:=#[],attributes:=#[] }
def k1m5 : Method:={ name:="law",desc:="(IIII)Z",sig:={ parameters:=[.int,.int,.int,.int],returnType:=some .boolean },accessFlags:=9,code:=some k1c5 }
/-- com/example/sluse/sluse/TextExpositionBytesPinLaw -/
def k1 : Class:={ plain "com/example/sluse/sluse/TextExpositionBytesPinLaw" (some 0) with
  accessFlags:=49
  interfaces:=#[]
  cf:=some (fileOf pool1 10 #[] #[{ accessFlags:=1,nameIndex:=5,descriptorIndex:=6,attributes:=#[] },{ accessFlags:=10,nameIndex:=19,descriptorIndex:=20,attributes:=#[] },{ accessFlags:=10,nameIndex:=25,descriptorIndex:=26,attributes:=#[] },{ accessFlags:=10,nameIndex:=13,descriptorIndex:=14,attributes:=#[] },{ accessFlags:=10,nameIndex:=45,descriptorIndex:=46,attributes:=#[] },{ accessFlags:=9,nameIndex:=50,descriptorIndex:=51,attributes:=#[] }] 49 2 #[] #[])
  fields:=#[]
  methods:=#[k1m0,k1m1,k1m2,k1m3,k1m4,k1m5]
  instanceTypes:=#[]
  staticTypes:=#[]
  resolved:=Array.replicate 56 none
  statics:=none }

def pool2 : Array CpInfo:=pool [(1,.methodref 2 3),(0,.class_ 4),(0,.nameAndType 5 6),(0,u "java/lang/Object"),(0,u "<init>"),(0,u "()V"),(0,.class_ 8),(0,u "java/lang/StringBuilder"),(0,.methodref 7 3),(0,.fieldref 11 12),(0,.class_ 13),(0,.nameAndType 14 15),(0,u "com/example/sluse/sluse/TextExposition"),(0,u "text"),(0,u "Ljava/lang/StringBuilder;"),(2,.methodref 7 19),(0,.nameAndType 20 21),(0,u "append"),(0,u "(Ljava/lang/String;)Ljava/lang/StringBuilder;"),(0,.methodref 7 23),(0,.nameAndType 20 24),(0,u "(C)Ljava/lang/StringBuilder;"),(7,.class_ 34),(1,u "com/example/sluse/sluse/TextExposition$Type"),(1,u "()Ljava/lang/String;"),(7,.class_ 46),(1,u "java/lang/String"),(2,.methodref 50 51),(0,.class_ 52),(0,.nameAndType 53 54),(0,u "java/lang/Long"),(0,u "toString"),(0,u "(J)Ljava/lang/String;"),(0,.interfaceMethodref 56 57),(0,.class_ 58),(0,.nameAndType 59 60),(0,u "java/util/List"),(0,u "of"),(0,u "([Ljava/lang/Object;)Ljava/util/List;"),(0,.methodref 11 62),(0,.nameAndType 63 64),(0,u "sample"),(0,u "(Ljava/lang/String;Ljava/lang/String;Ljava/util/List;)V"),(6,.interfaceMethodref 56 72),(0,.nameAndType 73 74),(0,u "size"),(0,u "()I"),(31,.methodref 7 107),(0,.nameAndType 53 36),(0,.fieldref 109 110),(0,.class_ 111),(0,.nameAndType 112 113),(0,u "java/nio/charset/StandardCharsets"),(0,u "UTF_8"),(0,u "Ljava/nio/charset/Charset;"),(0,.methodref 44 115),(0,.nameAndType 116 117),(0,u "getBytes"),(0,u "(Ljava/nio/charset/Charset;)[B"),(5,.interfaceMethodref 56 124),(0,.nameAndType 125 126),(0,u "isEmpty"),(0,u "()Z"),(39,u "MEDIA_TYPE"),(0,u "Ljava/lang/String;"),(3,u "INFINITY"),(4,u "(Ljava/lang/String;J[Ljava/lang/String;)V"),(3,u "bytes"),(0,u "()[B")] 29

def k2c0 : Code:={ maxStack:=3,maxLocals:=1,code:=prog_24_method_1_code,exceptionTable:=#[],attributes:=#[] }
def k2m0 : Method:={ name:="<init>",desc:="()V",sig:={ parameters:=[],returnType:=none },accessFlags:=0,code:=some k2c0 }
def k2c1 : Code:={ maxStack:=4,maxLocals:=5,code:=prog_24_method_3_code,exceptionTable:=#[],attributes:=#[] }
def k2m1 : Method:={ name:="sample",desc:="(Ljava/lang/String;J[Ljava/lang/String;)V",sig:={ parameters:=[(.object "java/lang/String"),.long,(.array (.object "java/lang/String"))],returnType:=none },accessFlags:=128,code:=some k2c1 }
def k2c2 : Code:={ maxStack:=2,maxLocals:=1,code:=prog_24_method_5_code,exceptionTable:=#[],attributes:=#[] }
def k2m2 : Method:={ name:="bytes",desc:="()[B",sig:={ parameters:=[],returnType:=some (.array .byte) },accessFlags:=0,code:=some k2c2 }
def k2c3 : Code:={ maxStack:=4,maxLocals:=5,code:=prog_24_method_6_code,exceptionTable:=#[],attributes:=#[] }
def k2m3 : Method:={ name:="sample",desc:="(Ljava/lang/String;Ljava/lang/String;Ljava/util/List;)V",sig:={ parameters:=[(.object "java/lang/String"),(.object "java/lang/String"),(.object "java/util/List")],returnType:=none },accessFlags:=2,code:=some k2c3 }
/-- com/example/sluse/sluse/TextExposition -/
def k2 : Class:={ plain "com/example/sluse/sluse/TextExposition" (some 0) with
  accessFlags:=48
  interfaces:=#[]
  cf:=some (fileOf pool2 11 #[.nestMembers #[32]] #[{ accessFlags:=0,nameIndex:=5,descriptorIndex:=6,attributes:=#[] },{ accessFlags:=128,nameIndex:=63,descriptorIndex:=176,attributes:=#[] },{ accessFlags:=0,nameIndex:=180,descriptorIndex:=181,attributes:=#[] },{ accessFlags:=2,nameIndex:=63,descriptorIndex:=64,attributes:=#[] }] 48 2 #[] #[{ accessFlags:=24,nameIndex:=166,descriptorIndex:=167,attributes:=#[] },{ accessFlags:=26,nameIndex:=171,descriptorIndex:=167,attributes:=#[] },{ accessFlags:=18,nameIndex:=14,descriptorIndex:=15,attributes:=#[] }])
  fields:=#[{ name:="MEDIA_TYPE",type:=(.object "java/lang/String"),accessFlags:=24,slot:=0,constantValue:=0 },{ name:="INFINITY",type:=(.object "java/lang/String"),accessFlags:=26,slot:=1,constantValue:=0 },{ name:="text",type:=(.object "java/lang/StringBuilder"),accessFlags:=18,slot:=0,constantValue:=0 }]
  methods:=#[k2m0,k2m1,k2m2,k2m3]
  instanceTypes:=#[(.object "java/lang/StringBuilder")]
  staticTypes:=#[(.object "java/lang/String"),(.object "java/lang/String")]
  resolved:=Array.replicate 211 none
  statics:=none }

def pool3 : Array CpInfo:=pool [(1,.class_ 2),(0,u "java/lang/Appendable"),(0,.class_ 4),(0,u "java/lang/Object")] 9

/-- java/lang/Appendable -/
def k3 : Class:={ plain "java/lang/Appendable" (some 0) with
  accessFlags:=1537
  interfaces:=#[]
  cf:=some (fileOf pool3 1 #[] #[] 1537 3 #[] #[])
  fields:=#[]
  methods:=#[]
  instanceTypes:=#[]
  staticTypes:=#[]
  resolved:=Array.replicate 14 none
  statics:=none }

def pool4 : Array CpInfo:=pool [(2,.class_ 4),(1,u "java/lang/CharSequence"),(42,.class_ 48),(0,u "java/lang/CharSequence$1CodePointIterator"),(10,.class_ 60),(0,u "java/lang/CharSequence$1CharIterator"),(5,.class_ 67),(0,u "java/lang/Object")] 63

/-- java/lang/CharSequence -/
def k4 : Class:={ plain "java/lang/CharSequence" (some 0) with
  accessFlags:=1537
  interfaces:=#[]
  cf:=some (fileOf pool4 2 #[.nestMembers #[47,59]] #[] 1537 66 #[] #[])
  fields:=#[]
  methods:=#[]
  instanceTypes:=#[]
  staticTypes:=#[]
  resolved:=Array.replicate 131 none
  statics:=none }

def pool5 : Array CpInfo:=pool [(1,.class_ 2),(0,u "java/lang/String"),(0,.methodref 4 5),(0,.class_ 6),(0,.nameAndType 7 8),(0,u "java/lang/Object"),(0,u "<init>"),(0,u "()V"),(1,.class_ 12),(1,u "java/lang/AbstractStringBuilder"),(0,u "EMPTYVALUE"),(0,u "[B"),(0,.fieldref 10 16),(0,.nameAndType 17 14),(0,u "value"),(0,.fieldref 1 19),(0,.nameAndType 20 21),(0,u "COMPACT_STRINGS"),(0,u "Z"),(0,.fieldref 10 23),(0,.nameAndType 24 25),(0,u "coder"),(0,u "B"),(0,.methodref 27 28),(0,.class_ 29),(0,.nameAndType 30 31),(0,u "java/lang/StringUTF16"),(0,u "newBytesFor"),(0,u "(I)[B"),(0,.methodref 1 33),(0,.nameAndType 34 35),(0,u "length"),(0,u "()I"),(4,.methodref 1 41),(0,.nameAndType 24 42),(0,u "()B"),(2,u "append"),(0,u "(Ljava/lang/String;)Ljava/lang/AbstractStringBuilder;"),(1,.class_ 49),(0,u "java/lang/CharSequence"),(19,u "(Ljava/lang/String;)V"),(5,u "maybeLatin1"),(3,.fieldref 10 80),(0,.nameAndType 81 82),(0,u "count"),(0,u "I"),(0,.methodref 10 84),(0,.nameAndType 85 86),(0,u "isLatin1"),(0,u "()Z"),(1,.class_ 90),(1,u "java/lang/StringLatin1"),(9,.methodref 10 101),(0,.nameAndType 102 103),(0,u "ensureCapacityInternal"),(0,u "(I)V"),(21,.methodref 88 126),(0,.nameAndType 127 128),(0,u "inflate"),(0,u "([BI[BII)V"),(7,u "([BII)V"),(54,.methodref 88 192),(0,.nameAndType 193 194),(0,u "canEncode"),(0,u "(C)Z"),(0,.methodref 10 196),(0,.nameAndType 127 8),(0,.methodref 27 198),(0,.nameAndType 199 136),(0,u "putCharSB"),(8,.methodref 10 209),(0,.nameAndType 210 211),(0,u "putStringAt"),(0,u "(ILjava/lang/String;)V"),(5,u "inflateIfNeededFor"),(2,.nameAndType 221 222),(0,u "getBytes"),(0,u "([BIB)V"),(69,u "(C)Ljava/lang/AbstractStringBuilder;"),(104,.methodref 10 398),(0,.nameAndType 217 69),(0,.methodref 1 220),(3,u "()[B"),(40,.class_ 445),(0,u "java/lang/Appendable"),(106,u "getValue")] 56

def k5m0 : Method:={ name:="<init>",desc:="()V",sig:={ parameters:=[],returnType:=none },accessFlags:=0,code:=none }
def k5c1 : Code:={ maxStack:=2,maxLocals:=2,code:=jdk_68_method_2_code,exceptionTable:=#[],attributes:=#[] }
def k5m1 : Method:={ name:="<init>",desc:="(I)V",sig:={ parameters:=[.int],returnType:=none },accessFlags:=0,code:=some k5c1 }
def k5c2 : Code:={ maxStack:=1,maxLocals:=1,code:=jdk_68_method_6_code,exceptionTable:=#[],attributes:=#[] }
def k5m2 : Method:={ name:="length",desc:="()I",sig:={ parameters:=[],returnType:=some .int },accessFlags:=1,code:=some k5c2 }
def k5c3 : Code:={ maxStack:=4,maxLocals:=3,code:=jdk_68_method_9_code,exceptionTable:=#[],attributes:=#[] }
def k5m3 : Method:={ name:="ensureCapacityInternal",desc:="(I)V",sig:={ parameters:=[.int],returnType:=none },accessFlags:=2,code:=some k5c3 }
def k5c4 : Code:={ maxStack:=5,maxLocals:=2,code:=jdk_68_method_11_code,exceptionTable:=#[],attributes:=#[] }
def k5m4 : Method:={ name:="inflate",desc:="()V",sig:={ parameters:=[],returnType:=none },accessFlags:=2,code:=some k5c4 }
def k5c5 : Code:={ maxStack:=3,maxLocals:=3,code:=jdk_68_method_22_code,exceptionTable:=#[],attributes:=#[] }
def k5m5 : Method:={ name:="append",desc:="(Ljava/lang/String;)Ljava/lang/AbstractStringBuilder;",sig:={ parameters:=[(.object "java/lang/String")],returnType:=some (.object "java/lang/AbstractStringBuilder") },accessFlags:=1,code:=some k5c5 }
def k5c6 : Code:={ maxStack:=5,maxLocals:=2,code:=jdk_68_method_31_code,exceptionTable:=#[],attributes:=#[] }
def k5m6 : Method:={ name:="append",desc:="(C)Ljava/lang/AbstractStringBuilder;",sig:={ parameters:=[.char],returnType:=some (.object "java/lang/AbstractStringBuilder") },accessFlags:=1,code:=some k5c6 }
def k5c7 : Code:={ maxStack:=1,maxLocals:=1,code:=jdk_68_method_64_code,exceptionTable:=#[],attributes:=#[] }
def k5m7 : Method:={ name:="getValue",desc:="()[B",sig:={ parameters:=[],returnType:=some (.array .byte) },accessFlags:=16,code:=some k5c7 }
def k5c8 : Code:={ maxStack:=1,maxLocals:=1,code:=jdk_68_method_68_code,exceptionTable:=#[],attributes:=#[] }
def k5m8 : Method:={ name:="isLatin1",desc:="()Z",sig:={ parameters:=[],returnType:=some .boolean },accessFlags:=16,code:=some k5c8 }
def k5c9 : Code:={ maxStack:=2,maxLocals:=2,code:=jdk_68_method_71_code,exceptionTable:=#[],attributes:=#[] }
def k5m9 : Method:={ name:="inflateIfNeededFor",desc:="(Ljava/lang/String;)V",sig:={ parameters:=[(.object "java/lang/String")],returnType:=none },accessFlags:=2,code:=some k5c9 }
def k5c10 : Code:={ maxStack:=4,maxLocals:=3,code:=jdk_68_method_73_code,exceptionTable:=#[],attributes:=#[] }
def k5m10 : Method:={ name:="putStringAt",desc:="(ILjava/lang/String;)V",sig:={ parameters:=[.int,(.object "java/lang/String")],returnType:=none },accessFlags:=2,code:=some k5c10 }
/-- java/lang/AbstractStringBuilder -/
def k5 : Class:={ plain "java/lang/AbstractStringBuilder" (some 0) with
  accessFlags:=1056
  interfaces:=#[3,4]
  cf:=some (fileOf pool5 10 #[] #[{ accessFlags:=0,nameIndex:=7,descriptorIndex:=8,attributes:=#[] },{ accessFlags:=0,nameIndex:=7,descriptorIndex:=103,attributes:=#[] },{ accessFlags:=1,nameIndex:=34,descriptorIndex:=35,attributes:=#[] },{ accessFlags:=2,nameIndex:=102,descriptorIndex:=103,attributes:=#[] },{ accessFlags:=2,nameIndex:=127,descriptorIndex:=8,attributes:=#[] },{ accessFlags:=1,nameIndex:=45,descriptorIndex:=46,attributes:=#[] },{ accessFlags:=1,nameIndex:=45,descriptorIndex:=292,attributes:=#[] },{ accessFlags:=16,nameIndex:=552,descriptorIndex:=403,attributes:=#[] },{ accessFlags:=16,nameIndex:=85,descriptorIndex:=86,attributes:=#[] },{ accessFlags:=2,nameIndex:=217,descriptorIndex:=69,attributes:=#[] },{ accessFlags:=2,nameIndex:=210,descriptorIndex:=211,attributes:=#[] }] 1056 4 #[444,48] #[{ accessFlags:=0,nameIndex:=17,descriptorIndex:=14,attributes:=#[] },{ accessFlags:=0,nameIndex:=24,descriptorIndex:=25,attributes:=#[] },{ accessFlags:=0,nameIndex:=75,descriptorIndex:=21,attributes:=#[] },{ accessFlags:=0,nameIndex:=81,descriptorIndex:=82,attributes:=#[] },{ accessFlags:=26,nameIndex:=13,descriptorIndex:=14,attributes:=#[] }])
  fields:=#[{ name:="value",type:=(.array .byte),accessFlags:=0,slot:=0,constantValue:=0 },{ name:="coder",type:=.byte,accessFlags:=0,slot:=1,constantValue:=0 },{ name:="maybeLatin1",type:=.boolean,accessFlags:=0,slot:=2,constantValue:=0 },{ name:="count",type:=.int,accessFlags:=0,slot:=3,constantValue:=0 },{ name:="EMPTYVALUE",type:=(.array .byte),accessFlags:=26,slot:=0,constantValue:=0 }]
  methods:=#[k5m0,k5m1,k5m2,k5m3,k5m4,k5m5,k5m6,k5m7,k5m8,k5m9,k5m10]
  instanceTypes:=#[(.array .byte),.byte,.boolean,.int]
  staticTypes:=#[(.array .byte)]
  resolved:=Array.replicate 609 none
  statics:=none }

def pool6 : Array CpInfo:=pool [(1,.class_ 2),(0,u "java/io/Serializable"),(0,.class_ 4),(0,u "java/lang/Object")] 2

/-- java/io/Serializable -/
def k6 : Class:={ plain "java/io/Serializable" (some 0) with
  accessFlags:=1537
  interfaces:=#[]
  cf:=some (fileOf pool6 1 #[] #[] 1537 3 #[] #[])
  fields:=#[]
  methods:=#[]
  instanceTypes:=#[]
  staticTypes:=#[]
  resolved:=Array.replicate 7 none
  statics:=none }

def pool7 : Array CpInfo:=pool [(1,.class_ 2),(0,u "java/lang/Comparable"),(0,.class_ 4),(0,u "java/lang/Object")] 7

/-- java/lang/Comparable -/
def k7 : Class:={ plain "java/lang/Comparable" (some 0) with
  accessFlags:=1537
  interfaces:=#[]
  cf:=some (fileOf pool7 1 #[] #[] 1537 3 #[] #[])
  fields:=#[]
  methods:=#[]
  instanceTypes:=#[]
  staticTypes:=#[]
  resolved:=Array.replicate 12 none
  statics:=none }

def pool8 : Array CpInfo:=pool [(1,.methodref 2 3),(0,.class_ 4),(0,.nameAndType 5 6),(0,u "java/lang/AbstractStringBuilder"),(0,u "<init>"),(0,u "(I)V"),(11,.class_ 20),(1,u "java/lang/String"),(3,.class_ 26),(1,u "java/lang/StringBuilder"),(0,u "append"),(0,u "(Ljava/lang/String;)Ljava/lang/StringBuilder;"),(0,.methodref 2 30),(0,.nameAndType 27 31),(0,u "(Ljava/lang/String;)Ljava/lang/AbstractStringBuilder;"),(18,.methodref 2 51),(0,.nameAndType 27 52),(0,u "(C)Ljava/lang/AbstractStringBuilder;"),(84,.methodref 18 138),(0,.nameAndType 5 139),(0,u "(Ljava/lang/StringBuilder;)V"),(5,u "()V"),(10,u "()I"),(129,u "(C)Ljava/lang/StringBuilder;"),(56,.methodref 2 344),(0,.nameAndType 345 156),(0,u "length"),(3,.class_ 350),(0,u "java/lang/Appendable"),(0,.class_ 352),(0,u "java/io/Serializable"),(0,.class_ 354),(0,u "java/lang/Comparable"),(0,.class_ 356),(0,u "java/lang/CharSequence"),(0,u "serialVersionUID"),(0,u "J"),(40,u "toString"),(0,u "()Ljava/lang/String;")] 21

def k8c0 : Code:={ maxStack:=2,maxLocals:=1,code:=jdk_67_method_1_code,exceptionTable:=#[],attributes:=#[] }
def k8m0 : Method:={ name:="<init>",desc:="()V",sig:={ parameters:=[],returnType:=none },accessFlags:=1,code:=some k8c0 }
def k8c1 : Code:={ maxStack:=2,maxLocals:=2,code:=jdk_67_method_7_code,exceptionTable:=#[],attributes:=#[] }
def k8m1 : Method:={ name:="append",desc:="(Ljava/lang/String;)Ljava/lang/StringBuilder;",sig:={ parameters:=[(.object "java/lang/String")],returnType:=some (.object "java/lang/StringBuilder") },accessFlags:=1,code:=some k8c1 }
def k8c2 : Code:={ maxStack:=2,maxLocals:=2,code:=jdk_67_method_14_code,exceptionTable:=#[],attributes:=#[] }
def k8m2 : Method:={ name:="append",desc:="(C)Ljava/lang/StringBuilder;",sig:={ parameters:=[.char],returnType:=some (.object "java/lang/StringBuilder") },accessFlags:=1,code:=some k8c2 }
def k8c3 : Code:={ maxStack:=3,maxLocals:=1,code:=jdk_67_method_42_code,exceptionTable:=#[],attributes:=#[] }
def k8m3 : Method:={ name:="toString",desc:="()Ljava/lang/String;",sig:={ parameters:=[],returnType:=some (.object "java/lang/String") },accessFlags:=1,code:=some k8c3 }
def k8c4 : Code:={ maxStack:=1,maxLocals:=1,code:=jdk_67_method_93_code,exceptionTable:=#[],attributes:=#[] }
def k8m4 : Method:={ name:="length",desc:="()I",sig:={ parameters:=[],returnType:=some .int },accessFlags:=4161,code:=some k8c4 }
/-- java/lang/StringBuilder -/
def k8 : Class:={ plain "java/lang/StringBuilder" (some 5) with
  accessFlags:=49
  interfaces:=#[3,6,7,4]
  cf:=some (fileOf pool8 24 #[] #[{ accessFlags:=1,nameIndex:=5,descriptorIndex:=145,attributes:=#[] },{ accessFlags:=1,nameIndex:=27,descriptorIndex:=28,attributes:=#[] },{ accessFlags:=1,nameIndex:=27,descriptorIndex:=286,attributes:=#[] },{ accessFlags:=1,nameIndex:=399,descriptorIndex:=400,attributes:=#[] },{ accessFlags:=4161,nameIndex:=345,descriptorIndex:=156,attributes:=#[] }] 49 2 #[349,351,353,355] #[{ accessFlags:=24,nameIndex:=357,descriptorIndex:=358,attributes:=#[] }])
  fields:=#[{ name:="serialVersionUID",type:=.long,accessFlags:=24,slot:=0,constantValue:=0 }]
  methods:=#[k8m0,k8m1,k8m2,k8m3,k8m4]
  instanceTypes:=#[(.array .byte),.byte,.boolean,.int]
  staticTypes:=#[.long]
  resolved:=Array.replicate 422 none
  statics:=none }

def pool9 : Array CpInfo:=pool [(1,.class_ 2),(0,u "java/lang/constant/Constable"),(0,.class_ 4),(0,u "java/lang/Object")] 6

/-- java/lang/constant/Constable -/
def k9 : Class:={ plain "java/lang/constant/Constable" (some 0) with
  accessFlags:=1537
  interfaces:=#[]
  cf:=some (fileOf pool9 1 #[] #[] 1537 3 #[] #[])
  fields:=#[]
  methods:=#[]
  instanceTypes:=#[]
  staticTypes:=#[]
  resolved:=Array.replicate 11 none
  statics:=none }

def pool10 : Array CpInfo:=pool [(1,.class_ 2),(0,u "java/lang/constant/ConstantDesc"),(0,.class_ 4),(0,u "java/lang/Object")] 32

/-- java/lang/constant/ConstantDesc -/
def k10 : Class:={ plain "java/lang/constant/ConstantDesc" (some 0) with
  accessFlags:=1537
  interfaces:=#[]
  cf:=some (fileOf pool10 1 #[] #[] 1537 3 #[] #[])
  fields:=#[]
  methods:=#[]
  instanceTypes:=#[]
  staticTypes:=#[]
  resolved:=Array.replicate 37 none
  statics:=none }

def pool11 : Array CpInfo:=pool [(1,.methodref 2 3),(0,.class_ 4),(0,.nameAndType 5 6),(0,u "java/lang/Object"),(0,u "<init>"),(0,u "()V"),(2,.fieldref 10 11),(0,.class_ 12),(0,.nameAndType 13 14),(0,u "java/lang/String"),(0,u "value"),(0,u "[B"),(0,.fieldref 10 16),(0,.nameAndType 17 18),(0,u "coder"),(0,u "B"),(2,u "hash"),(0,u "I"),(2,u "hashIsZero"),(0,u "Z"),(0,.methodref 10 28),(0,.nameAndType 5 29),(0,u "([CIILjava/lang/Void;)V"),(6,u "checkBoundsOffCount"),(0,u "(III)I"),(0,.fieldref 10 39),(0,.nameAndType 40 26),(0,u "COMPACT_STRINGS"),(1,.class_ 44),(1,u "java/lang/StringUTF16"),(0,u "compress"),(1,.methodref 42 48),(0,.nameAndType 49 50),(0,u "coderFromArrayLen"),(0,u "([BI)B"),(3,.methodref 55 56),(0,.class_ 57),(0,.nameAndType 58 59),(0,u "java/util/Arrays"),(0,u "copyOfRange"),(0,u "([BII)[B"),(0,.methodref 42 61),(0,.nameAndType 62 63),(0,u "newBytesFor"),(0,u "(I)[B"),(22,.fieldref 87 88),(0,.class_ 89),(0,.nameAndType 90 91),(0,u "sun/nio/cs/UTF_8"),(0,u "INSTANCE"),(0,u "Lsun/nio/cs/UTF_8;"),(1,.class_ 95),(1,u "java/lang/StringCoding"),(6,.methodref 55 103),(0,.nameAndType 104 105),(0,u "copyOf"),(0,u "([BI)[B"),(0,.methodref 107 108),(0,.class_ 109),(0,.nameAndType 110 111),(0,u "java/lang/StringLatin1"),(0,u "inflate"),(0,u "([BI[BII)V"),(16,.methodref 93 129),(0,.nameAndType 130 131),(0,u "hasNegatives"),(0,u "([BII)Z"),(10,u "()Z"),(34,.methodref 42 178),(0,.nameAndType 45 179),(0,u "([CII)[B"),(13,.class_ 195),(1,u "java/lang/System"),(15,u "([BB)V"),(0,.methodref 193 213),(0,.nameAndType 214 215),(0,u "arraycopy"),(0,u "(Ljava/lang/Object;ILjava/lang/Object;II)V"),(36,.methodref 10 253),(0,.nameAndType 254 255),(0,u "encodeUTF8"),(0,u "(B[BZ)[B"),(23,.methodref 280 281),(0,.class_ 14),(0,.nameAndType 282 283),(0,u "clone"),(0,u "()Ljava/lang/Object;"),(33,u "encode"),(16,u "()I"),(0,.methodref 10 336),(0,.nameAndType 17 337),(0,u "()B"),(2,u "()[B"),(19,.methodref 42 361),(0,.nameAndType 362 363),(0,u "getChar"),(0,u "([BI)C"),(0,.methodref 365 366),(0,.class_ 367),(0,.nameAndType 368 369),(0,u "java/lang/Character"),(0,u "isHighSurrogate"),(0,u "(C)Z"),(0,.methodref 365 371),(0,.nameAndType 372 369),(0,u "isLowSurrogate"),(18,u "(II)V"),(12,.methodref 365 405),(0,.nameAndType 406 369),(0,u "isSurrogate"),(66,.methodref 10 474),(0,.nameAndType 475 476),(0,u "encodeUTF8_UTF16"),(0,u "([BZ)[B"),(0,.methodref 365 478),(0,.nameAndType 479 480),(0,u "toCodePoint"),(0,u "(CC)I"),(8,.methodref 10 490),(0,.nameAndType 5 491),(0,u "(Ljava/lang/AbstractStringBuilder;Ljava/lang/Void;)V"),(1,.nameAndType 494 142),(0,u "isLatin1"),(6,u "checkIndex"),(4,.nameAndType 507 334),(0,u "length"),(24,u "getBytes"),(2,.methodref 10 536),(0,.nameAndType 317 537),(0,u "(Ljava/nio/charset/Charset;B[B)[B"),(11,.methodref 550 506),(0,.class_ 551),(0,u "java/lang/AbstractStringBuilder"),(0,.methodref 550 553),(0,.nameAndType 554 340),(0,u "getValue"),(20,.class_ 576),(0,u "java/lang/CharSequence"),(22,u "CASE_INSENSITIVE_ORDER"),(0,u "Ljava/util/Comparator;"),(220,u "([BIB)V"),(188,u "([C)V"),(36,.methodref 550 493),(0,.fieldref 550 1049),(0,.nameAndType 1050 26),(0,u "maybeLatin1"),(2,.fieldref 1054 1055),(0,.class_ 1056),(0,.nameAndType 1057 1058),(0,u "jdk/internal/util/Preconditions"),(0,u "SIOOBE_FORMATTER"),(0,u "Ljava/util/function/BiFunction;"),(0,.methodref 1054 1060),(0,.nameAndType 501 1061),(0,u "(IILjava/util/function/BiFunction;)I"),(2,u "(IIILjava/util/function/BiFunction;)I"),(0,.methodref 1054 1066),(0,.nameAndType 1067 1064),(0,u "checkFromIndexSize"),(33,u "serialPersistentFields"),(0,u "[Ljava/io/ObjectStreamField;"),(0,.class_ 1104),(0,u "java/lang/String$CaseInsensitiveComparator"),(1,.class_ 1107),(0,u "java/io/Serializable"),(0,.class_ 1109),(0,u "java/lang/Comparable"),(0,.class_ 1111),(0,u "java/lang/constant/Constable"),(0,.class_ 1113),(0,u "java/lang/constant/ConstantDesc"),(2,u "serialVersionUID"),(0,u "J"),(3,u "REPL"),(0,u "C"),(2,u "LATIN1"),(1,u "UTF16"),(105,u "(Ljava/lang/StringBuilder;)V"),(11,u "(Ljava/nio/charset/Charset;)[B")] 205

def k11m0 : Method:={ name:="<init>",desc:="()V",sig:={ parameters:=[],returnType:=none },accessFlags:=1,code:=none }
def k11c1 : Code:={ maxStack:=5,maxLocals:=2,code:=jdk_42_method_3_code,exceptionTable:=#[],attributes:=#[] }
def k11m1 : Method:={ name:="<init>",desc:="([C)V",sig:={ parameters:=[(.array .char)],returnType:=none },accessFlags:=1,code:=some k11c1 }
def k11c2 : Code:={ maxStack:=4,maxLocals:=3,code:=jdk_42_method_18_code,exceptionTable:=#[],attributes:=#[] }
def k11m2 : Method:={ name:="encode",desc:="(Ljava/nio/charset/Charset;B[B)[B",sig:={ parameters:=[(.object "java/nio/charset/Charset"),.byte,(.array .byte)],returnType:=some (.array .byte) },accessFlags:=10,code:=some k11c2 }
def k11c3 : Code:={ maxStack:=5,maxLocals:=9,code:=jdk_42_method_46_code,exceptionTable:=#[],attributes:=#[] }
def k11m3 : Method:={ name:="encodeUTF8",desc:="(B[BZ)[B",sig:={ parameters:=[.byte,(.array .byte),.boolean],returnType:=some (.array .byte) },accessFlags:=10,code:=some k11c3 }
def k11c4 : Code:={ maxStack:=5,maxLocals:=9,code:=jdk_42_method_47_code,exceptionTable:=#[],attributes:=#[] }
def k11m4 : Method:={ name:="encodeUTF8_UTF16",desc:="([BZ)[B",sig:={ parameters:=[(.array .byte),.boolean],returnType:=some (.array .byte) },accessFlags:=10,code:=some k11c4 }
def k11c5 : Code:={ maxStack:=3,maxLocals:=2,code:=jdk_42_method_53_code,exceptionTable:=#[],attributes:=#[] }
def k11m5 : Method:={ name:="<init>",desc:="(Ljava/lang/StringBuilder;)V",sig:={ parameters:=[(.object "java/lang/StringBuilder")],returnType:=none },accessFlags:=1,code:=some k11c5 }
def k11c6 : Code:={ maxStack:=2,maxLocals:=1,code:=jdk_42_method_54_code,exceptionTable:=#[],attributes:=#[] }
def k11m6 : Method:={ name:="length",desc:="()I",sig:={ parameters:=[],returnType:=some .int },accessFlags:=1,code:=some k11c6 }
def k11c7 : Code:={ maxStack:=3,maxLocals:=2,code:=jdk_42_method_64_code,exceptionTable:=#[],attributes:=#[] }
def k11m7 : Method:={ name:="getBytes",desc:="(Ljava/nio/charset/Charset;)[B",sig:={ parameters:=[(.object "java/nio/charset/Charset")],returnType:=some (.array .byte) },accessFlags:=1,code:=some k11c7 }
def k11c8 : Code:={ maxStack:=5,maxLocals:=4,code:=jdk_42_method_147_code,exceptionTable:=#[],attributes:=#[] }
def k11m8 : Method:={ name:="getBytes",desc:="([BIB)V",sig:={ parameters:=[(.array .byte),.int,.byte],returnType:=none },accessFlags:=0,code:=some k11c8 }
def k11c9 : Code:={ maxStack:=4,maxLocals:=6,code:=jdk_42_method_149_code,exceptionTable:=#[],attributes:=#[] }
def k11m9 : Method:={ name:="<init>",desc:="([CIILjava/lang/Void;)V",sig:={ parameters:=[(.array .char),.int,.int,(.object "java/lang/Void")],returnType:=none },accessFlags:=2,code:=some k11c9 }
def k11c10 : Code:={ maxStack:=5,maxLocals:=5,code:=jdk_42_method_150_code,exceptionTable:=#[],attributes:=#[] }
def k11m10 : Method:={ name:="<init>",desc:="(Ljava/lang/AbstractStringBuilder;Ljava/lang/Void;)V",sig:={ parameters:=[(.object "java/lang/AbstractStringBuilder"),(.object "java/lang/Void")],returnType:=none },accessFlags:=0,code:=some k11c10 }
def k11c11 : Code:={ maxStack:=2,maxLocals:=3,code:=jdk_42_method_151_code,exceptionTable:=#[],attributes:=#[] }
def k11m11 : Method:={ name:="<init>",desc:="([BB)V",sig:={ parameters:=[(.array .byte),.byte],returnType:=none },accessFlags:=0,code:=some k11c11 }
def k11c12 : Code:={ maxStack:=1,maxLocals:=1,code:=jdk_42_method_152_code,exceptionTable:=#[],attributes:=#[] }
def k11m12 : Method:={ name:="coder",desc:="()B",sig:={ parameters:=[],returnType:=some .byte },accessFlags:=0,code:=some k11c12 }
def k11c13 : Code:={ maxStack:=3,maxLocals:=2,code:=jdk_42_method_155_code,exceptionTable:=#[],attributes:=#[] }
def k11m13 : Method:={ name:="checkIndex",desc:="(II)V",sig:={ parameters:=[.int,.int],returnType:=none },accessFlags:=8,code:=some k11c13 }
def k11c14 : Code:={ maxStack:=4,maxLocals:=3,code:=jdk_42_method_157_code,exceptionTable:=#[],attributes:=#[] }
def k11m14 : Method:={ name:="checkBoundsOffCount",desc:="(III)I",sig:={ parameters:=[.int,.int,.int],returnType:=some .int },accessFlags:=8,code:=some k11c14 }
/-- java/lang/String -/
def k11 : Class:={ plain "java/lang/String" (some 0) with
  accessFlags:=49
  interfaces:=#[6,7,4,9,10]
  cf:=some (fileOf pool11 10 #[.nestMembers #[1103]] #[{ accessFlags:=1,nameIndex:=5,descriptorIndex:=6,attributes:=#[] },{ accessFlags:=1,nameIndex:=5,descriptorIndex:=1010,attributes:=#[] },{ accessFlags:=10,nameIndex:=317,descriptorIndex:=537,attributes:=#[] },{ accessFlags:=10,nameIndex:=254,descriptorIndex:=255,attributes:=#[] },{ accessFlags:=10,nameIndex:=475,descriptorIndex:=476,attributes:=#[] },{ accessFlags:=1,nameIndex:=5,descriptorIndex:=1233,attributes:=#[] },{ accessFlags:=1,nameIndex:=507,descriptorIndex:=334,attributes:=#[] },{ accessFlags:=1,nameIndex:=532,descriptorIndex:=1245,attributes:=#[] },{ accessFlags:=0,nameIndex:=532,descriptorIndex:=821,attributes:=#[] },{ accessFlags:=2,nameIndex:=5,descriptorIndex:=29,attributes:=#[] },{ accessFlags:=0,nameIndex:=5,descriptorIndex:=491,attributes:=#[] },{ accessFlags:=0,nameIndex:=5,descriptorIndex:=211,attributes:=#[] },{ accessFlags:=0,nameIndex:=17,descriptorIndex:=337,attributes:=#[] },{ accessFlags:=8,nameIndex:=501,descriptorIndex:=391,attributes:=#[] },{ accessFlags:=8,nameIndex:=36,descriptorIndex:=37,attributes:=#[] }] 49 2 #[1106,1108,575,1110,1112] #[{ accessFlags:=18,nameIndex:=13,descriptorIndex:=14,attributes:=#[] },{ accessFlags:=18,nameIndex:=17,descriptorIndex:=18,attributes:=#[] },{ accessFlags:=2,nameIndex:=21,descriptorIndex:=22,attributes:=#[] },{ accessFlags:=2,nameIndex:=25,descriptorIndex:=26,attributes:=#[] },{ accessFlags:=26,nameIndex:=1116,descriptorIndex:=1117,attributes:=#[] },{ accessFlags:=24,nameIndex:=40,descriptorIndex:=26,attributes:=#[] },{ accessFlags:=26,nameIndex:=1101,descriptorIndex:=1102,attributes:=#[] },{ accessFlags:=26,nameIndex:=1121,descriptorIndex:=1122,attributes:=#[] },{ accessFlags:=25,nameIndex:=599,descriptorIndex:=600,attributes:=#[] },{ accessFlags:=24,nameIndex:=1125,descriptorIndex:=18,attributes:=#[] },{ accessFlags:=24,nameIndex:=1127,descriptorIndex:=18,attributes:=#[] }])
  fields:=#[{ name:="value",type:=(.array .byte),accessFlags:=18,slot:=0,constantValue:=0 },{ name:="coder",type:=.byte,accessFlags:=18,slot:=1,constantValue:=0 },{ name:="hash",type:=.int,accessFlags:=2,slot:=2,constantValue:=0 },{ name:="hashIsZero",type:=.boolean,accessFlags:=2,slot:=3,constantValue:=0 },{ name:="serialVersionUID",type:=.long,accessFlags:=26,slot:=0,constantValue:=0 },{ name:="COMPACT_STRINGS",type:=.boolean,accessFlags:=24,slot:=1,constantValue:=0 },{ name:="serialPersistentFields",type:=(.array (.object "java/io/ObjectStreamField")),accessFlags:=26,slot:=2,constantValue:=0 },{ name:="REPL",type:=.char,accessFlags:=26,slot:=3,constantValue:=0 },{ name:="CASE_INSENSITIVE_ORDER",type:=(.object "java/util/Comparator"),accessFlags:=25,slot:=4,constantValue:=0 },{ name:="LATIN1",type:=.byte,accessFlags:=24,slot:=5,constantValue:=0 },{ name:="UTF16",type:=.byte,accessFlags:=24,slot:=6,constantValue:=0 }]
  methods:=#[k11m0,k11m1,k11m2,k11m3,k11m4,k11m5,k11m6,k11m7,k11m8,k11m9,k11m10,k11m11,k11m12,k11m13,k11m14]
  instanceTypes:=#[(.array .byte),.byte,.int,.boolean]
  staticTypes:=#[.long,.boolean,(.array (.object "java/io/ObjectStreamField")),.char,(.object "java/util/Comparator"),.byte,.byte]
  resolved:=Array.replicate 1451 none
  statics:=some 0 }

def pool12 : Array CpInfo:=pool [(2,.class_ 4),(1,u "java/lang/Object"),(0,u "<init>"),(0,u "()V"),(7,.class_ 16),(1,u "java/util/Arrays"),(57,.class_ 76),(1,u "java/util/Arrays$NaturalOrder"),(36,.class_ 115),(1,u "java/util/Arrays$LegacyMergeSort"),(1,u "Z"),(21,u "copyOfRange"),(10,.methodref 151 152),(0,.class_ 153),(0,.nameAndType 154 155),(0,u "java/lang/System"),(0,u "arraycopy"),(0,u "(Ljava/lang/Object;ILjava/lang/Object;II)V"),(146,u "copyOf"),(1,.methodref 305 306),(0,.class_ 307),(0,.nameAndType 308 309),(0,u "java/lang/Math"),(0,u "min"),(0,u "(II)I"),(29,.methodref 14 340),(0,.nameAndType 341 342),(0,u "copyOfRangeByte"),(0,u "([BII)[B"),(0,.methodref 14 344),(0,.nameAndType 345 346),(0,u "checkLength"),(0,u "(II)V"),(28,.class_ 376),(0,u "java/util/Arrays$ArrayList"),(68,u "$assertionsDisabled"),(269,u "MIN_ARRAY_SORT_GRAN"),(0,u "I"),(2,u "INSERTIONSORT_THRESHOLD"),(149,u "([BI)[B"),(105,.class_ 976),(0,u "java/util/Arrays$ArrayItr")] 52

def k12m0 : Method:={ name:="<init>",desc:="()V",sig:={ parameters:=[],returnType:=none },accessFlags:=2,code:=none }
def k12c1 : Code:={ maxStack:=6,maxLocals:=3,code:=jdk_65_method_121_code,exceptionTable:=#[],attributes:=#[] }
def k12m1 : Method:={ name:="copyOf",desc:="([BI)[B",sig:={ parameters:=[(.array .byte),.int],returnType:=some (.array .byte) },accessFlags:=9,code:=some k12c1 }
def k12c2 : Code:={ maxStack:=4,maxLocals:=2,code:=jdk_65_method_131_code,exceptionTable:=#[],attributes:=#[] }
def k12m2 : Method:={ name:="checkLength",desc:="(II)V",sig:={ parameters:=[.int,.int],returnType:=none },accessFlags:=10,code:=some k12c2 }
def k12c3 : Code:={ maxStack:=3,maxLocals:=3,code:=jdk_65_method_132_code,exceptionTable:=#[],attributes:=#[] }
def k12m3 : Method:={ name:="copyOfRange",desc:="([BII)[B",sig:={ parameters:=[(.array .byte),.int,.int],returnType:=some (.array .byte) },accessFlags:=9,code:=some k12c3 }
def k12c4 : Code:={ maxStack:=6,maxLocals:=5,code:=jdk_65_method_133_code,exceptionTable:=#[],attributes:=#[] }
def k12m4 : Method:={ name:="copyOfRangeByte",desc:="([BII)[B",sig:={ parameters:=[(.array .byte),.int,.int],returnType:=some (.array .byte) },accessFlags:=10,code:=some k12c4 }
/-- java/util/Arrays -/
def k12 : Class:={ plain "java/util/Arrays" (some 0) with
  accessFlags:=49
  interfaces:=#[]
  cf:=some (fileOf pool12 14 #[.nestMembers #[975,375,113,74]] #[{ accessFlags:=2,nameIndex:=5,descriptorIndex:=6,attributes:=#[] },{ accessFlags:=9,nameIndex:=302,descriptorIndex:=869,attributes:=#[] },{ accessFlags:=10,nameIndex:=345,descriptorIndex:=346,attributes:=#[] },{ accessFlags:=9,nameIndex:=139,descriptorIndex:=342,attributes:=#[] },{ accessFlags:=10,nameIndex:=341,descriptorIndex:=342,attributes:=#[] }] 49 2 #[] #[{ accessFlags:=26,nameIndex:=715,descriptorIndex:=716,attributes:=#[] },{ accessFlags:=26,nameIndex:=719,descriptorIndex:=716,attributes:=#[] },{ accessFlags:=4120,nameIndex:=445,descriptorIndex:=117,attributes:=#[] }])
  fields:=#[{ name:="MIN_ARRAY_SORT_GRAN",type:=.int,accessFlags:=26,slot:=0,constantValue:=0 },{ name:="INSERTIONSORT_THRESHOLD",type:=.int,accessFlags:=26,slot:=1,constantValue:=0 },{ name:="$assertionsDisabled",type:=.boolean,accessFlags:=4120,slot:=2,constantValue:=0 }]
  methods:=#[k12m0,k12m1,k12m2,k12m3,k12m4]
  instanceTypes:=#[]
  staticTypes:=#[.int,.int,.boolean]
  resolved:=Array.replicate 1029 none
  statics:=none }

def pool13 : Array CpInfo:=pool [(1,.class_ 2),(0,u "java/lang/Math"),(1,.class_ 6),(1,u "java/lang/Object"),(0,u "<init>"),(0,u "()V"),(89,.class_ 100),(1,u "java/lang/Math$RandomNumberGeneratorHolder"),(71,u "negativeZeroFloatBits"),(0,u "J"),(2,u "negativeZeroDoubleBits"),(24,u "min"),(43,u "$assertionsDisabled"),(0,u "Z"),(88,u "(II)I"),(2,u "twoToTheDoubleScaleDown"),(0,u "D"),(4,u "twoToTheDoubleScaleUp"),(9,u "E"),(3,u "PI"),(2,u "TAU"),(2,u "DEGREES_TO_RADIANS"),(0,u "RADIANS_TO_DEGREES")] 94

def k13m0 : Method:={ name:="<init>",desc:="()V",sig:={ parameters:=[],returnType:=none },accessFlags:=2,code:=none }
def k13c1 : Code:={ maxStack:=2,maxLocals:=2,code:=jdk_29_method_69_code,exceptionTable:=#[],attributes:=#[] }
def k13m1 : Method:={ name:="min",desc:="(II)I",sig:={ parameters:=[.int,.int],returnType:=some .int },accessFlags:=9,code:=some k13c1 }
/-- java/lang/Math -/
def k13 : Class:={ plain "java/lang/Math" (some 0) with
  accessFlags:=49
  interfaces:=#[]
  cf:=some (fileOf pool13 1 #[.nestMembers #[98]] #[{ accessFlags:=2,nameIndex:=7,descriptorIndex:=8,attributes:=#[] },{ accessFlags:=9,nameIndex:=201,descriptorIndex:=335,attributes:=#[] }] 49 4 #[] #[{ accessFlags:=25,nameIndex:=354,descriptorIndex:=339,attributes:=#[] },{ accessFlags:=25,nameIndex:=358,descriptorIndex:=339,attributes:=#[] },{ accessFlags:=25,nameIndex:=361,descriptorIndex:=339,attributes:=#[] },{ accessFlags:=26,nameIndex:=364,descriptorIndex:=339,attributes:=#[] },{ accessFlags:=26,nameIndex:=365,descriptorIndex:=339,attributes:=#[] },{ accessFlags:=26,nameIndex:=172,descriptorIndex:=173,attributes:=#[] },{ accessFlags:=26,nameIndex:=176,descriptorIndex:=173,attributes:=#[] },{ accessFlags:=8,nameIndex:=344,descriptorIndex:=339,attributes:=#[] },{ accessFlags:=8,nameIndex:=338,descriptorIndex:=339,attributes:=#[] },{ accessFlags:=4120,nameIndex:=245,descriptorIndex:=246,attributes:=#[] }])
  fields:=#[{ name:="E",type:=.double,accessFlags:=25,slot:=0,constantValue:=0 },{ name:="PI",type:=.double,accessFlags:=25,slot:=1,constantValue:=0 },{ name:="TAU",type:=.double,accessFlags:=25,slot:=2,constantValue:=0 },{ name:="DEGREES_TO_RADIANS",type:=.double,accessFlags:=26,slot:=3,constantValue:=0 },{ name:="RADIANS_TO_DEGREES",type:=.double,accessFlags:=26,slot:=4,constantValue:=0 },{ name:="negativeZeroFloatBits",type:=.long,accessFlags:=26,slot:=5,constantValue:=0 },{ name:="negativeZeroDoubleBits",type:=.long,accessFlags:=26,slot:=6,constantValue:=0 },{ name:="twoToTheDoubleScaleUp",type:=.double,accessFlags:=8,slot:=7,constantValue:=0 },{ name:="twoToTheDoubleScaleDown",type:=.double,accessFlags:=8,slot:=8,constantValue:=0 },{ name:="$assertionsDisabled",type:=.boolean,accessFlags:=4120,slot:=9,constantValue:=0 }]
  methods:=#[k13m0,k13m1]
  instanceTypes:=#[]
  staticTypes:=#[.double,.double,.double,.double,.double,.long,.long,.double,.double,.boolean]
  resolved:=Array.replicate 460 none
  statics:=none }

def pool14 : Array CpInfo:=pool [(2,.class_ 4),(1,u "java/lang/Object"),(0,u "<init>"),(0,u "()V"),(1,.class_ 10),(1,u "java/lang/System"),(0,u "allowSecurityManager"),(0,u "I"),(16,u "cons"),(0,u "Ljava/io/Console;"),(77,.class_ 110),(1,u "java/lang/System$CallersHolder"),(43,u "initialErrStream"),(0,u "Ljava/io/PrintStream;"),(19,u "security"),(0,u "Ljava/lang/SecurityManager;"),(31,.class_ 209),(0,u "java/lang/System$1"),(7,u "props"),(0,u "Ljava/util/Properties;"),(2,u "lineSeparator"),(0,u "Ljava/lang/String;"),(96,.class_ 321),(1,u "java/lang/System$LoggerFinder"),(5,.class_ 328),(0,u "java/lang/System$Logger"),(67,u "err"),(2,u "out"),(91,u "notSupportedJnuEncoding"),(15,u "in"),(17,u "initialIn"),(0,u "Ljava/io/InputStream;"),(35,u "bootLayer"),(0,u "Ljava/lang/ModuleLayer;"),(99,.class_ 664),(0,u "java/lang/System$2"),(9,u "NEVER"),(2,u "MAYBE"),(49,u "arraycopy"),(0,u "(Ljava/lang/Object;ILjava/lang/Object;II)V"),(72,.class_ 802),(0,u "java/lang/System$Logger$Level")] 31

def k14m0 : Method:={ name:="<init>",desc:="()V",sig:={ parameters:=[],returnType:=none },accessFlags:=2,code:=none }
def k14m1 : Method:={ name:="arraycopy",desc:="(Ljava/lang/Object;ILjava/lang/Object;II)V",sig:={ parameters:=[(.object "java/lang/Object"),.int,(.object "java/lang/Object"),.int,.int],returnType:=none },accessFlags:=265,code:=none }
/-- java/lang/System -/
def k14 : Class:={ plain "java/lang/System" (some 0) with
  accessFlags:=49
  interfaces:=#[]
  cf:=some (fileOf pool14 8 #[.nestMembers #[319,327,801,108,663,208]] #[{ accessFlags:=2,nameIndex:=5,descriptorIndex:=6,attributes:=#[] },{ accessFlags:=265,nameIndex:=727,descriptorIndex:=728,attributes:=#[] }] 49 2 #[] #[{ accessFlags:=25,nameIndex:=507,descriptorIndex:=526,attributes:=#[] },{ accessFlags:=25,nameIndex:=399,descriptorIndex:=155,attributes:=#[] },{ accessFlags:=25,nameIndex:=396,descriptorIndex:=155,attributes:=#[] },{ accessFlags:=10,nameIndex:=525,descriptorIndex:=526,attributes:=#[] },{ accessFlags:=26,nameIndex:=674,descriptorIndex:=12,attributes:=#[] },{ accessFlags:=26,nameIndex:=677,descriptorIndex:=12,attributes:=#[] },{ accessFlags:=10,nameIndex:=11,descriptorIndex:=12,attributes:=#[] },{ accessFlags:=74,nameIndex:=175,descriptorIndex:=176,attributes:=#[] },{ accessFlags:=10,nameIndex:=491,descriptorIndex:=222,attributes:=#[] },{ accessFlags:=74,nameIndex:=29,descriptorIndex:=30,attributes:=#[] },{ accessFlags:=74,nameIndex:=154,descriptorIndex:=155,attributes:=#[] },{ accessFlags:=10,nameIndex:=217,descriptorIndex:=218,attributes:=#[] },{ accessFlags:=10,nameIndex:=221,descriptorIndex:=222,attributes:=#[] },{ accessFlags:=8,nameIndex:=562,descriptorIndex:=563,attributes:=#[] }])
  fields:=#[{ name:="in",type:=(.object "java/io/InputStream"),accessFlags:=25,slot:=0,constantValue:=0 },{ name:="out",type:=(.object "java/io/PrintStream"),accessFlags:=25,slot:=1,constantValue:=0 },{ name:="err",type:=(.object "java/io/PrintStream"),accessFlags:=25,slot:=2,constantValue:=0 },{ name:="initialIn",type:=(.object "java/io/InputStream"),accessFlags:=10,slot:=3,constantValue:=0 },{ name:="NEVER",type:=.int,accessFlags:=26,slot:=4,constantValue:=0 },{ name:="MAYBE",type:=.int,accessFlags:=26,slot:=5,constantValue:=0 },{ name:="allowSecurityManager",type:=.int,accessFlags:=10,slot:=6,constantValue:=0 },{ name:="security",type:=(.object "java/lang/SecurityManager"),accessFlags:=74,slot:=7,constantValue:=0 },{ name:="notSupportedJnuEncoding",type:=(.object "java/lang/String"),accessFlags:=10,slot:=8,constantValue:=0 },{ name:="cons",type:=(.object "java/io/Console"),accessFlags:=74,slot:=9,constantValue:=0 },{ name:="initialErrStream",type:=(.object "java/io/PrintStream"),accessFlags:=74,slot:=10,constantValue:=0 },{ name:="props",type:=(.object "java/util/Properties"),accessFlags:=10,slot:=11,constantValue:=0 },{ name:="lineSeparator",type:=(.object "java/lang/String"),accessFlags:=10,slot:=12,constantValue:=0 },{ name:="bootLayer",type:=(.object "java/lang/ModuleLayer"),accessFlags:=8,slot:=13,constantValue:=0 }]
  methods:=#[k14m0,k14m1]
  instanceTypes:=#[]
  staticTypes:=#[(.object "java/io/InputStream"),(.object "java/io/PrintStream"),(.object "java/io/PrintStream"),(.object "java/io/InputStream"),.int,.int,.int,(.object "java/lang/SecurityManager"),(.object "java/lang/String"),(.object "java/io/Console"),(.object "java/io/PrintStream"),(.object "java/util/Properties"),(.object "java/lang/String"),(.object "java/lang/ModuleLayer")]
  resolved:=Array.replicate 834 none
  statics:=none }

def pool15 : Array CpInfo:=pool [(2,.class_ 4),(1,u "java/lang/Object"),(0,u "<init>"),(0,u "()V"),(14,.class_ 23),(1,u "java/nio/charset/StandardCharsets"),(0,u "US_ASCII"),(0,u "Ljava/nio/charset/Charset;"),(7,u "ISO_8859_1"),(7,u "UTF_8"),(5,u "UTF_16BE"),(5,u "UTF_16LE"),(5,u "UTF_16")] 8

def k15m0 : Method:={ name:="<init>",desc:="()V",sig:={ parameters:=[],returnType:=none },accessFlags:=2,code:=none }
/-- java/nio/charset/StandardCharsets -/
def k15 : Class:={ plain "java/nio/charset/StandardCharsets" (some 0) with
  accessFlags:=49
  interfaces:=#[]
  cf:=some (fileOf pool15 21 #[] #[{ accessFlags:=2,nameIndex:=5,descriptorIndex:=6,attributes:=#[] }] 49 2 #[] #[{ accessFlags:=25,nameIndex:=24,descriptorIndex:=25,attributes:=#[] },{ accessFlags:=25,nameIndex:=33,descriptorIndex:=25,attributes:=#[] },{ accessFlags:=25,nameIndex:=41,descriptorIndex:=25,attributes:=#[] },{ accessFlags:=25,nameIndex:=47,descriptorIndex:=25,attributes:=#[] },{ accessFlags:=25,nameIndex:=53,descriptorIndex:=25,attributes:=#[] },{ accessFlags:=25,nameIndex:=59,descriptorIndex:=25,attributes:=#[] }])
  fields:=#[{ name:="US_ASCII",type:=(.object "java/nio/charset/Charset"),accessFlags:=25,slot:=0,constantValue:=0 },{ name:="ISO_8859_1",type:=(.object "java/nio/charset/Charset"),accessFlags:=25,slot:=1,constantValue:=0 },{ name:="UTF_8",type:=(.object "java/nio/charset/Charset"),accessFlags:=25,slot:=2,constantValue:=0 },{ name:="UTF_16BE",type:=(.object "java/nio/charset/Charset"),accessFlags:=25,slot:=3,constantValue:=0 },{ name:="UTF_16LE",type:=(.object "java/nio/charset/Charset"),accessFlags:=25,slot:=4,constantValue:=0 },{ name:="UTF_16",type:=(.object "java/nio/charset/Charset"),accessFlags:=25,slot:=5,constantValue:=0 }]
  methods:=#[k15m0]
  instanceTypes:=#[]
  staticTypes:=#[(.object "java/nio/charset/Charset"),(.object "java/nio/charset/Charset"),(.object "java/nio/charset/Charset"),(.object "java/nio/charset/Charset"),(.object "java/nio/charset/Charset"),(.object "java/nio/charset/Charset")]
  resolved:=Array.replicate 68 none
  statics:=some 1 }

def pool16 : Array CpInfo:=pool [(18,.class_ 20),(1,u "java/nio/charset/Charset"),(0,u "cache1"),(0,u "[Ljava/lang/Object;"),(2,u "cache2"),(0,.class_ 27),(0,u "java/lang/Object"),(0,.class_ 29),(0,u "java/nio/charset/Charset$1"),(4,.class_ 36),(1,u "java/nio/charset/Charset$ThreadTrackHolder"),(21,.class_ 59),(0,u "java/nio/charset/Charset$2"),(11,.class_ 73),(1,u "java/nio/charset/Charset$ExtendedProviderHolder"),(22,u "standardProvider"),(0,u "Ljava/nio/charset/spi/CharsetProvider;"),(29,u "name"),(7,.class_ 136),(0,u "java/nio/charset/Charset$3"),(5,u "defaultCharset"),(0,u "Ljava/nio/charset/Charset;"),(14,u "zeroAliases"),(0,u "[Ljava/lang/String;"),(29,u "Ljava/lang/String;"),(2,u "aliases"),(2,u "aliasSet"),(0,u "Ljava/util/Set;"),(82,.class_ 280),(0,u "java/lang/Comparable"),(84,.class_ 366),(0,u "java/nio/charset/Charset$ExtendedProviderHolder$1")] 3

/-- java/nio/charset/Charset -/
def k16 : Class:={ plain "java/nio/charset/Charset" (some 0) with
  accessFlags:=1057
  interfaces:=#[7]
  cf:=some (fileOf pool16 18 #[.nestMembers #[71,365,34,135,58,28]] #[] 1057 26 #[279] #[{ accessFlags:=26,nameIndex:=96,descriptorIndex:=97,attributes:=#[] },{ accessFlags:=26,nameIndex:=158,descriptorIndex:=159,attributes:=#[] },{ accessFlags:=74,nameIndex:=21,descriptorIndex:=22,attributes:=#[] },{ accessFlags:=74,nameIndex:=25,descriptorIndex:=22,attributes:=#[] },{ accessFlags:=10,nameIndex:=142,descriptorIndex:=143,attributes:=#[] },{ accessFlags:=18,nameIndex:=127,descriptorIndex:=189,attributes:=#[] },{ accessFlags:=18,nameIndex:=192,descriptorIndex:=159,attributes:=#[] },{ accessFlags:=2,nameIndex:=195,descriptorIndex:=196,attributes:=#[] }])
  fields:=#[{ name:="standardProvider",type:=(.object "java/nio/charset/spi/CharsetProvider"),accessFlags:=26,slot:=0,constantValue:=0 },{ name:="zeroAliases",type:=(.array (.object "java/lang/String")),accessFlags:=26,slot:=1,constantValue:=0 },{ name:="cache1",type:=(.array (.object "java/lang/Object")),accessFlags:=74,slot:=2,constantValue:=0 },{ name:="cache2",type:=(.array (.object "java/lang/Object")),accessFlags:=74,slot:=3,constantValue:=0 },{ name:="defaultCharset",type:=(.object "java/nio/charset/Charset"),accessFlags:=10,slot:=4,constantValue:=0 },{ name:="name",type:=(.object "java/lang/String"),accessFlags:=18,slot:=0,constantValue:=0 },{ name:="aliases",type:=(.array (.object "java/lang/String")),accessFlags:=18,slot:=1,constantValue:=0 },{ name:="aliasSet",type:=(.object "java/util/Set"),accessFlags:=2,slot:=2,constantValue:=0 }]
  methods:=#[]
  instanceTypes:=#[(.object "java/lang/String"),(.array (.object "java/lang/String")),(.object "java/util/Set")]
  staticTypes:=#[(.object "java/nio/charset/spi/CharsetProvider"),(.array (.object "java/lang/String")),(.array (.object "java/lang/Object")),(.array (.object "java/lang/Object")),(.object "java/nio/charset/Charset")]
  resolved:=Array.replicate 370 none
  statics:=none }

def pool17 : Array CpInfo:=pool [(1,.class_ 2),(0,u "sun/nio/cs/HistoricallyNamedCharset"),(0,.class_ 4),(0,u "java/lang/Object")] 4

/-- sun/nio/cs/HistoricallyNamedCharset -/
def k17 : Class:={ plain "sun/nio/cs/HistoricallyNamedCharset" (some 0) with
  accessFlags:=1537
  interfaces:=#[]
  cf:=some (fileOf pool17 1 #[] #[] 1537 3 #[] #[])
  fields:=#[]
  methods:=#[]
  instanceTypes:=#[]
  staticTypes:=#[]
  resolved:=Array.replicate 9 none
  statics:=none }

def pool18 : Array CpInfo:=pool [(2,.class_ 4),(1,u "java/nio/charset/Charset"),(130,.class_ 136),(0,u "sun/nio/cs/Unicode"),(0,.class_ 138),(0,u "sun/nio/cs/HistoricallyNamedCharset")] 15

/-- sun/nio/cs/Unicode -/
def k18 : Class:={ plain "sun/nio/cs/Unicode" (some 16) with
  accessFlags:=1056
  interfaces:=#[17]
  cf:=some (fileOf pool18 135 #[] #[] 1056 2 #[137] #[])
  fields:=#[]
  methods:=#[]
  instanceTypes:=#[(.object "java/lang/String"),(.array (.object "java/lang/String")),(.object "java/util/Set")]
  staticTypes:=#[]
  resolved:=Array.replicate 154 none
  statics:=none }

def pool19 : Array CpInfo:=pool [(10,.class_ 12),(1,u "sun/nio/cs/Unicode"),(0,u "<init>"),(3,.class_ 18),(0,u "sun/nio/cs/UTF_8$Decoder"),(3,.class_ 23),(0,u "sun/nio/cs/UTF_8$Encoder"),(15,.class_ 40),(0,u "sun/nio/cs/UTF_8"),(2,u "()V"),(2,u "INSTANCE"),(0,u "Lsun/nio/cs/UTF_8;"),(8,u "JLA"),(0,u "Ljdk/internal/access/JavaLangAccess;")] 26

def k19m0 : Method:={ name:="<init>",desc:="()V",sig:={ parameters:=[],returnType:=none },accessFlags:=1,code:=none }
/-- sun/nio/cs/UTF_8 -/
def k19 : Class:={ plain "sun/nio/cs/UTF_8" (some 18) with
  accessFlags:=49
  interfaces:=#[]
  cf:=some (fileOf pool19 39 #[.nestMembers #[22,17]] #[{ accessFlags:=1,nameIndex:=13,descriptorIndex:=43,attributes:=#[] }] 49 10 #[] #[{ accessFlags:=25,nameIndex:=46,descriptorIndex:=47,attributes:=#[] },{ accessFlags:=26,nameIndex:=56,descriptorIndex:=57,attributes:=#[] }])
  fields:=#[{ name:="INSTANCE",type:=(.object "sun/nio/cs/UTF_8"),accessFlags:=25,slot:=0,constantValue:=0 },{ name:="JLA",type:=(.object "jdk/internal/access/JavaLangAccess"),accessFlags:=26,slot:=1,constantValue:=0 }]
  methods:=#[k19m0]
  instanceTypes:=#[(.object "java/lang/String"),(.array (.object "java/lang/String")),(.object "java/util/Set")]
  staticTypes:=#[(.object "sun/nio/cs/UTF_8"),(.object "jdk/internal/access/JavaLangAccess")]
  resolved:=Array.replicate 84 none
  statics:=some 2 }

def pool20 : Array CpInfo:=pool [(2,.class_ 4),(1,u "java/lang/Object"),(0,u "<init>"),(0,u "()V"),(0,.methodref 8 9),(0,.class_ 10),(0,.nameAndType 11 12),(0,u "java/lang/StringCoding"),(0,u "countPositives"),(0,u "([BII)I"),(11,u "hasNegatives"),(0,u "([BII)Z")] 23

def k20m0 : Method:={ name:="<init>",desc:="()V",sig:={ parameters:=[],returnType:=none },accessFlags:=2,code:=none }
def k20c1 : Code:={ maxStack:=3,maxLocals:=3,code:=jdk_123_method_2_code,exceptionTable:=#[],attributes:=#[] }
def k20m1 : Method:={ name:="hasNegatives",desc:="([BII)Z",sig:={ parameters:=[(.array .byte),.int,.int],returnType:=some .boolean },accessFlags:=9,code:=some k20c1 }
def k20c2 : Code:={ maxStack:=2,maxLocals:=5,code:=jdk_123_method_3_code,exceptionTable:=#[],attributes:=#[] }
def k20m2 : Method:={ name:="countPositives",desc:="([BII)I",sig:={ parameters:=[(.array .byte),.int,.int],returnType:=some .int },accessFlags:=9,code:=some k20c2 }
/-- java/lang/StringCoding -/
def k20 : Class:={ plain "java/lang/StringCoding" (some 0) with
  accessFlags:=32
  interfaces:=#[]
  cf:=some (fileOf pool20 8 #[] #[{ accessFlags:=2,nameIndex:=5,descriptorIndex:=6,attributes:=#[] },{ accessFlags:=9,nameIndex:=24,descriptorIndex:=25,attributes:=#[] },{ accessFlags:=9,nameIndex:=11,descriptorIndex:=12,attributes:=#[] }] 32 2 #[] #[])
  fields:=#[]
  methods:=#[k20m0,k20m1,k20m2]
  instanceTypes:=#[]
  staticTypes:=#[]
  resolved:=Array.replicate 49 none
  statics:=none }

def pool21 : Array CpInfo:=pool [(1,.class_ 2),(0,u "java/lang/Cloneable"),(0,.class_ 4),(0,u "java/lang/Object")] 2

/-- java/lang/Cloneable -/
def k21 : Class:={ plain "java/lang/Cloneable" (some 0) with
  accessFlags:=1537
  interfaces:=#[]
  cf:=some (fileOf pool21 1 #[] #[] 1537 3 #[] #[])
  fields:=#[]
  methods:=#[]
  instanceTypes:=#[]
  staticTypes:=#[]
  resolved:=Array.replicate 7 none
  statics:=none }

def pool22 : Array CpInfo:=pool [(3,.class_ 4),(0,u "java/lang/String"),(1,.class_ 8),(1,u "java/lang/Object"),(0,u "<init>"),(0,u "()V"),(0,.methodref 12 13),(0,.class_ 14),(0,.nameAndType 15 16),(0,u "java/lang/StringUTF16"),(0,u "newBytesLength"),(0,u "(I)I"),(3,.integer 1073741823),(23,.fieldref 12 45),(0,.nameAndType 46 47),(0,u "$assertionsDisabled"),(0,u "Z"),(0,.methodref 12 49),(0,.nameAndType 50 51),(0,u "length"),(0,u "([B)I"),(7,.fieldref 12 60),(0,.nameAndType 61 62),(0,u "HI_BYTE_SHIFT"),(0,u "I"),(0,.fieldref 12 64),(0,.nameAndType 65 62),(0,u "LO_BYTE_SHIFT"),(1,.methodref 12 68),(0,.nameAndType 69 70),(0,u "checkIndex"),(0,u "(I[B)V"),(0,.methodref 12 72),(0,.nameAndType 73 74),(0,u "getChar"),(0,u "([BI)C"),(24,u "(II[B)V"),(7,.methodref 12 108),(0,.nameAndType 109 110),(0,u "newBytesFor"),(0,u "(I)[B"),(0,.methodref 12 112),(0,.nameAndType 113 114),(0,u "putChar"),(0,u "([BII)V"),(0,.methodref 12 116),(0,.nameAndType 117 118),(0,u "compress"),(0,u "([CI[BII)I"),(0,.methodref 12 120),(0,.nameAndType 121 122),(0,u "toBytes"),(0,u "([CII)[B"),(17,u "inflate"),(0,u "([BI[BII)V"),(31,.methodref 12 174),(0,.nameAndType 175 99),(0,u "checkBoundsOffCount"),(85,u "coderFromArrayLen"),(0,u "([BI)B"),(18,u "(III)I"),(87,.class_ 371),(1,u "java/lang/StringUTF16$LinesSpliterator"),(42,.methodref 3 415),(0,.nameAndType 69 416),(0,u "(II)V"),(2,.methodref 3 420),(0,.nameAndType 175 281),(9,u "MAX_LENGTH"),(155,u "putCharSB"),(40,.class_ 628),(0,u "java/lang/StringUTF16$CodePointsSpliterator"),(0,.class_ 630),(0,u "java/lang/StringUTF16$CharsSpliterator")] 4

def k22m0 : Method:={ name:="<init>",desc:="()V",sig:={ parameters:=[],returnType:=none },accessFlags:=0,code:=none }
def k22c1 : Code:={ maxStack:=1,maxLocals:=1,code:=jdk_52_method_2_code,exceptionTable:=#[],attributes:=#[] }
def k22m1 : Method:={ name:="newBytesFor",desc:="(I)[B",sig:={ parameters:=[.int],returnType:=some (.array .byte) },accessFlags:=9,code:=some k22c1 }
def k22c2 : Code:={ maxStack:=4,maxLocals:=1,code:=jdk_52_method_3_code,exceptionTable:=#[],attributes:=#[] }
def k22m2 : Method:={ name:="newBytesLength",desc:="(I)I",sig:={ parameters:=[.int],returnType:=some .int },accessFlags:=9,code:=some k22c2 }
def k22c3 : Code:={ maxStack:=4,maxLocals:=3,code:=jdk_52_method_4_code,exceptionTable:=#[],attributes:=#[] }
def k22m3 : Method:={ name:="putChar",desc:="([BII)V",sig:={ parameters:=[(.array .byte),.int,.int],returnType:=none },accessFlags:=8,code:=some k22c3 }
def k22c4 : Code:={ maxStack:=3,maxLocals:=2,code:=jdk_52_method_5_code,exceptionTable:=#[],attributes:=#[] }
def k22m4 : Method:={ name:="getChar",desc:="([BI)C",sig:={ parameters:=[(.array .byte),.int],returnType:=some .char },accessFlags:=8,code:=some k22c4 }
def k22c5 : Code:={ maxStack:=2,maxLocals:=1,code:=jdk_52_method_6_code,exceptionTable:=#[],attributes:=#[] }
def k22m5 : Method:={ name:="length",desc:="([B)I",sig:={ parameters:=[(.array .byte)],returnType:=some .int },accessFlags:=9,code:=some k22c5 }
def k22c6 : Code:={ maxStack:=4,maxLocals:=5,code:=jdk_52_method_14_code,exceptionTable:=#[],attributes:=#[] }
def k22m6 : Method:={ name:="toBytes",desc:="([CII)[B",sig:={ parameters:=[(.array .char),.int,.int],returnType:=some (.array .byte) },accessFlags:=9,code:=some k22c6 }
def k22c7 : Code:={ maxStack:=2,maxLocals:=2,code:=jdk_52_method_15_code,exceptionTable:=#[],attributes:=#[] }
def k22m7 : Method:={ name:="coderFromArrayLen",desc:="([BI)B",sig:={ parameters:=[(.array .byte),.int],returnType:=some .byte },accessFlags:=8,code:=some k22c7 }
def k22c8 : Code:={ maxStack:=5,maxLocals:=6,code:=jdk_52_method_16_code,exceptionTable:=#[],attributes:=#[] }
def k22m8 : Method:={ name:="compress",desc:="([CII)[B",sig:={ parameters:=[(.array .char),.int,.int],returnType:=some (.array .byte) },accessFlags:=9,code:=some k22c8 }
def k22c9 : Code:={ maxStack:=3,maxLocals:=7,code:=jdk_52_method_21_code,exceptionTable:=#[],attributes:=#[] }
def k22m9 : Method:={ name:="compress",desc:="([CI[BII)I",sig:={ parameters:=[(.array .char),.int,(.array .byte),.int,.int],returnType:=some .int },accessFlags:=9,code:=some k22c9 }
def k22c10 : Code:={ maxStack:=3,maxLocals:=3,code:=jdk_52_method_71_code,exceptionTable:=#[],attributes:=#[] }
def k22m10 : Method:={ name:="putCharSB",desc:="([BII)V",sig:={ parameters:=[(.array .byte),.int,.int],returnType:=none },accessFlags:=9,code:=some k22c10 }
def k22c11 : Code:={ maxStack:=4,maxLocals:=6,code:=jdk_52_method_86_code,exceptionTable:=#[],attributes:=#[] }
def k22m11 : Method:={ name:="inflate",desc:="([BI[BII)V",sig:={ parameters:=[(.array .byte),.int,(.array .byte),.int,.int],returnType:=none },accessFlags:=9,code:=some k22c11 }
def k22c12 : Code:={ maxStack:=2,maxLocals:=2,code:=jdk_52_method_91_code,exceptionTable:=#[],attributes:=#[] }
def k22m12 : Method:={ name:="checkIndex",desc:="(I[B)V",sig:={ parameters:=[.int,(.array .byte)],returnType:=none },accessFlags:=9,code:=some k22c12 }
def k22c13 : Code:={ maxStack:=3,maxLocals:=3,code:=jdk_52_method_94_code,exceptionTable:=#[],attributes:=#[] }
def k22m13 : Method:={ name:="checkBoundsOffCount",desc:="(II[B)V",sig:={ parameters:=[.int,.int,(.array .byte)],returnType:=none },accessFlags:=9,code:=some k22c13 }
/-- java/lang/StringUTF16 -/
def k22 : Class:={ plain "java/lang/StringUTF16" (some 0) with
  accessFlags:=48
  interfaces:=#[]
  cf:=some (fileOf pool22 12 #[.nestMembers #[627,629,369]] #[{ accessFlags:=0,nameIndex:=9,descriptorIndex:=10,attributes:=#[] },{ accessFlags:=9,nameIndex:=109,descriptorIndex:=110,attributes:=#[] },{ accessFlags:=9,nameIndex:=15,descriptorIndex:=16,attributes:=#[] },{ accessFlags:=8,nameIndex:=113,descriptorIndex:=114,attributes:=#[] },{ accessFlags:=8,nameIndex:=73,descriptorIndex:=74,attributes:=#[] },{ accessFlags:=9,nameIndex:=50,descriptorIndex:=51,attributes:=#[] },{ accessFlags:=9,nameIndex:=121,descriptorIndex:=122,attributes:=#[] },{ accessFlags:=8,nameIndex:=261,descriptorIndex:=262,attributes:=#[] },{ accessFlags:=9,nameIndex:=117,descriptorIndex:=122,attributes:=#[] },{ accessFlags:=9,nameIndex:=117,descriptorIndex:=118,attributes:=#[] },{ accessFlags:=9,nameIndex:=586,descriptorIndex:=114,attributes:=#[] },{ accessFlags:=9,nameIndex:=140,descriptorIndex:=141,attributes:=#[] },{ accessFlags:=9,nameIndex:=69,descriptorIndex:=70,attributes:=#[] },{ accessFlags:=9,nameIndex:=175,descriptorIndex:=99,attributes:=#[] }] 48 6 #[] #[{ accessFlags:=26,nameIndex:=61,descriptorIndex:=62,attributes:=#[] },{ accessFlags:=26,nameIndex:=65,descriptorIndex:=62,attributes:=#[] },{ accessFlags:=24,nameIndex:=430,descriptorIndex:=62,attributes:=#[] },{ accessFlags:=4120,nameIndex:=46,descriptorIndex:=47,attributes:=#[] }])
  fields:=#[{ name:="HI_BYTE_SHIFT",type:=.int,accessFlags:=26,slot:=0,constantValue:=0 },{ name:="LO_BYTE_SHIFT",type:=.int,accessFlags:=26,slot:=1,constantValue:=0 },{ name:="MAX_LENGTH",type:=.int,accessFlags:=24,slot:=2,constantValue:=0 },{ name:="$assertionsDisabled",type:=.boolean,accessFlags:=4120,slot:=3,constantValue:=0 }]
  methods:=#[k22m0,k22m1,k22m2,k22m3,k22m4,k22m5,k22m6,k22m7,k22m8,k22m9,k22m10,k22m11,k22m12,k22m13]
  instanceTypes:=#[]
  staticTypes:=#[.int,.int,.int,.boolean]
  resolved:=Array.replicate 635 none
  statics:=some 3 }

def pool23 : Array CpInfo:=pool [(2,.class_ 4),(1,u "java/lang/Object"),(0,u "<init>"),(0,u "()V"),(1,.class_ 10),(1,u "java/lang/Number"),(2,.class_ 14),(0,u "java/io/Serializable"),(0,u "serialVersionUID"),(0,u "J")] 20

def k23m0 : Method:={ name:="<init>",desc:="()V",sig:={ parameters:=[],returnType:=none },accessFlags:=1,code:=none }
/-- java/lang/Number -/
def k23 : Class:={ plain "java/lang/Number" (some 0) with
  accessFlags:=1057
  interfaces:=#[6]
  cf:=some (fileOf pool23 8 #[] #[{ accessFlags:=1,nameIndex:=5,descriptorIndex:=6,attributes:=#[] }] 1057 2 #[13] #[{ accessFlags:=26,nameIndex:=15,descriptorIndex:=16,attributes:=#[] }])
  fields:=#[{ name:="serialVersionUID",type:=.long,accessFlags:=26,slot:=0,constantValue:=0 }]
  methods:=#[k23m0]
  instanceTypes:=#[]
  staticTypes:=#[.long]
  resolved:=Array.replicate 37 none
  statics:=none }

def pool24 : Array CpInfo:=pool [(1,.class_ 2),(0,u "java/lang/Long"),(2,.class_ 6),(0,u "java/lang/String"),(4,u "toString"),(0,u "(J)Ljava/lang/String;"),(0,.fieldref 5 14),(0,.nameAndType 15 16),(0,u "COMPACT_STRINGS"),(0,u "Z"),(1,.class_ 20),(1,u "java/lang/Integer"),(38,u "<init>"),(41,u "(J)I"),(10,.methodref 5 113),(0,.nameAndType 59 114),(0,u "([BB)V"),(3,.methodref 1 119),(0,.nameAndType 120 101),(0,u "stringSize"),(0,.methodref 1 122),(0,.nameAndType 123 124),(0,u "getChars"),(0,u "(JI[B)I"),(4,.long 18446744071562067968),(3,.fieldref 18 134),(0,.nameAndType 135 136),(0,u "DigitOnes"),(0,u "[B"),(3,.long 18446744073709551606),(94,.class_ 237),(1,u "java/lang/Long$LongCache"),(33,.class_ 272),(0,u "java/lang/Number"),(2,u "value"),(0,u "J"),(84,u "TYPE"),(0,u "Ljava/lang/Class;"),(0,.class_ 364),(0,u "java/lang/Comparable"),(0,.class_ 366),(0,u "java/lang/constant/Constable"),(0,.class_ 368),(0,u "java/lang/constant/ConstantDesc"),(0,u "MIN_VALUE"),(1,u "MAX_VALUE"),(4,u "SIZE"),(0,u "I"),(1,u "BYTES"),(1,u "serialVersionUID")] 142

def k24c0 : Code:={ maxStack:=4,maxLocals:=4,code:=jdk_35_method_12_code,exceptionTable:=#[],attributes:=#[] }
def k24m0 : Method:={ name:="toString",desc:="(J)Ljava/lang/String;",sig:={ parameters:=[.long],returnType:=some (.object "java/lang/String") },accessFlags:=9,code:=some k24c0 }
def k24c1 : Code:={ maxStack:=4,maxLocals:=11,code:=jdk_35_method_14_code,exceptionTable:=#[],attributes:=#[] }
def k24m1 : Method:={ name:="getChars",desc:="(JI[B)I",sig:={ parameters:=[.long,.int,(.array .byte)],returnType:=some .int },accessFlags:=8,code:=some k24c1 }
def k24c2 : Code:={ maxStack:=4,maxLocals:=6,code:=jdk_35_method_15_code,exceptionTable:=#[],attributes:=#[] }
def k24m2 : Method:={ name:="stringSize",desc:="(J)I",sig:={ parameters:=[.long],returnType:=some .int },accessFlags:=8,code:=some k24c2 }
/-- java/lang/Long -/
def k24 : Class:={ plain "java/lang/Long" (some 23) with
  accessFlags:=49
  interfaces:=#[7,9,10]
  cf:=some (fileOf pool24 1 #[.nestMembers #[235]] #[{ accessFlags:=9,nameIndex:=11,descriptorIndex:=12,attributes:=#[] },{ accessFlags:=8,nameIndex:=123,descriptorIndex:=124,attributes:=#[] },{ accessFlags:=8,nameIndex:=120,descriptorIndex:=101,attributes:=#[] }] 49 271 #[363,365,367] #[{ accessFlags:=25,nameIndex:=369,descriptorIndex:=276,attributes:=#[] },{ accessFlags:=25,nameIndex:=371,descriptorIndex:=276,attributes:=#[] },{ accessFlags:=25,nameIndex:=361,descriptorIndex:=362,attributes:=#[] },{ accessFlags:=18,nameIndex:=275,descriptorIndex:=276,attributes:=#[] },{ accessFlags:=25,nameIndex:=376,descriptorIndex:=377,attributes:=#[] },{ accessFlags:=25,nameIndex:=379,descriptorIndex:=377,attributes:=#[] },{ accessFlags:=26,nameIndex:=381,descriptorIndex:=276,attributes:=#[] }])
  fields:=#[{ name:="MIN_VALUE",type:=.long,accessFlags:=25,slot:=0,constantValue:=0 },{ name:="MAX_VALUE",type:=.long,accessFlags:=25,slot:=1,constantValue:=0 },{ name:="TYPE",type:=(.object "java/lang/Class"),accessFlags:=25,slot:=2,constantValue:=0 },{ name:="value",type:=.long,accessFlags:=18,slot:=0,constantValue:=0 },{ name:="SIZE",type:=.int,accessFlags:=25,slot:=3,constantValue:=0 },{ name:="BYTES",type:=.int,accessFlags:=25,slot:=4,constantValue:=0 },{ name:="serialVersionUID",type:=.long,accessFlags:=26,slot:=5,constantValue:=0 }]
  methods:=#[k24m0,k24m1,k24m2]
  instanceTypes:=#[.long]
  staticTypes:=#[.long,.long,(.object "java/lang/Class"),.int,.int,.long]
  resolved:=Array.replicate 524 none
  statics:=none }

def pool25 : Array CpInfo:=pool [(1,.class_ 2),(0,u "java/lang/Integer"),(16,u "digits"),(0,u "[C"),(64,u "DigitOnes"),(0,u "[B"),(2,u "DigitTens"),(99,.class_ 190),(0,u "java/lang/Integer$IntegerCache"),(3,u "I"),(8,.class_ 204),(0,u "java/lang/Number"),(2,u "value"),(94,u "TYPE"),(0,u "Ljava/lang/Class;"),(0,.class_ 305),(0,u "java/lang/Comparable"),(0,.class_ 307),(0,u "java/lang/constant/Constable"),(0,.class_ 309),(0,u "java/lang/constant/ConstantDesc"),(0,u "MIN_VALUE"),(1,u "MAX_VALUE"),(3,u "SIZE"),(1,u "BYTES"),(1,u "serialVersionUID"),(0,u "J")] 131

/-- java/lang/Integer -/
def k25 : Class:={ plain "java/lang/Integer" (some 23) with
  accessFlags:=49
  interfaces:=#[7,9,10]
  cf:=some (fileOf pool25 1 #[.nestMembers #[189]] #[] 49 203 #[304,306,308] #[{ accessFlags:=25,nameIndex:=310,descriptorIndex:=194,attributes:=#[] },{ accessFlags:=25,nameIndex:=312,descriptorIndex:=194,attributes:=#[] },{ accessFlags:=25,nameIndex:=302,descriptorIndex:=303,attributes:=#[] },{ accessFlags:=24,nameIndex:=19,descriptorIndex:=20,attributes:=#[] },{ accessFlags:=24,nameIndex:=89,descriptorIndex:=86,attributes:=#[] },{ accessFlags:=24,nameIndex:=85,descriptorIndex:=86,attributes:=#[] },{ accessFlags:=18,nameIndex:=207,descriptorIndex:=194,attributes:=#[] },{ accessFlags:=25,nameIndex:=316,descriptorIndex:=194,attributes:=#[] },{ accessFlags:=25,nameIndex:=318,descriptorIndex:=194,attributes:=#[] },{ accessFlags:=26,nameIndex:=320,descriptorIndex:=321,attributes:=#[] }])
  fields:=#[{ name:="MIN_VALUE",type:=.int,accessFlags:=25,slot:=0,constantValue:=0 },{ name:="MAX_VALUE",type:=.int,accessFlags:=25,slot:=1,constantValue:=0 },{ name:="TYPE",type:=(.object "java/lang/Class"),accessFlags:=25,slot:=2,constantValue:=0 },{ name:="digits",type:=(.array .char),accessFlags:=24,slot:=3,constantValue:=0 },{ name:="DigitTens",type:=(.array .byte),accessFlags:=24,slot:=4,constantValue:=0 },{ name:="DigitOnes",type:=(.array .byte),accessFlags:=24,slot:=5,constantValue:=0 },{ name:="value",type:=.int,accessFlags:=18,slot:=0,constantValue:=0 },{ name:="SIZE",type:=.int,accessFlags:=25,slot:=6,constantValue:=0 },{ name:="BYTES",type:=.int,accessFlags:=25,slot:=7,constantValue:=0 },{ name:="serialVersionUID",type:=.long,accessFlags:=26,slot:=8,constantValue:=0 }]
  methods:=#[]
  instanceTypes:=#[.int]
  staticTypes:=#[.int,.int,(.object "java/lang/Class"),(.array .char),(.array .byte),(.array .byte),.int,.int,.long]
  resolved:=Array.replicate 453 none
  statics:=some 4 }

def pool26 : Array CpInfo:=pool [(8,.class_ 10),(1,u "java/lang/Iterable"),(24,.class_ 36),(0,u "java/lang/Object")] 25

/-- java/lang/Iterable -/
def k26 : Class:={ plain "java/lang/Iterable" (some 0) with
  accessFlags:=1537
  interfaces:=#[]
  cf:=some (fileOf pool26 8 #[] #[] 1537 35 #[] #[])
  fields:=#[]
  methods:=#[]
  instanceTypes:=#[]
  staticTypes:=#[]
  resolved:=Array.replicate 62 none
  statics:=none }

def pool27 : Array CpInfo:=pool [(10,.class_ 12),(1,u "java/util/Collection"),(47,.class_ 61),(0,u "java/lang/Object"),(0,.class_ 63),(0,u "java/lang/Iterable")] 51

/-- java/util/Collection -/
def k27 : Class:={ plain "java/util/Collection" (some 0) with
  accessFlags:=1537
  interfaces:=#[26]
  cf:=some (fileOf pool27 10 #[] #[] 1537 60 #[62] #[])
  fields:=#[]
  methods:=#[]
  instanceTypes:=#[]
  staticTypes:=#[]
  resolved:=Array.replicate 115 none
  statics:=none }

def pool28 : Array CpInfo:=pool [(8,.class_ 10),(1,u "java/util/SequencedCollection"),(15,.class_ 27),(0,u "java/lang/Object"),(0,.class_ 29),(0,u "java/util/Collection")] 27

/-- java/util/SequencedCollection -/
def k28 : Class:={ plain "java/util/SequencedCollection" (some 0) with
  accessFlags:=1537
  interfaces:=#[27]
  cf:=some (fileOf pool28 8 #[] #[] 1537 26 #[28] #[])
  fields:=#[]
  methods:=#[]
  instanceTypes:=#[]
  staticTypes:=#[]
  resolved:=Array.replicate 57 none
  statics:=none }

def pool29 : Array CpInfo:=pool [(8,.class_ 10),(1,u "java/util/List"),(7,u "()Z"),(48,u "isEmpty"),(11,u "size"),(0,u "()I"),(7,u "of"),(1,.fieldref 91 92),(0,.class_ 93),(0,.nameAndType 94 95),(0,u "java/util/ImmutableCollections"),(0,u "EMPTY_LIST"),(0,u "Ljava/util/ImmutableCollections$ListN;"),(7,.class_ 104),(0,u "java/lang/Object"),(3,u "([Ljava/lang/Object;)Ljava/util/List;"),(11,.class_ 121),(0,u "java/util/SequencedCollection")] 129

def k29m0 : Method:={ name:="size",desc:="()I",sig:={ parameters:=[],returnType:=some .int },accessFlags:=1025,code:=none }
def k29m1 : Method:={ name:="isEmpty",desc:="()Z",sig:={ parameters:=[],returnType:=some .boolean },accessFlags:=1025,code:=none }
def k29c2 : Code:={ maxStack:=5,maxLocals:=2,code:=jdk_40_method_47_code,exceptionTable:=#[],attributes:=#[] }
def k29m2 : Method:={ name:="of",desc:="([Ljava/lang/Object;)Ljava/util/List;",sig:={ parameters:=[(.array (.object "java/lang/Object"))],returnType:=some (.object "java/util/List") },accessFlags:=137,code:=some k29c2 }
/-- java/util/List -/
def k29 : Class:={ plain "java/util/List" (some 0) with
  accessFlags:=1537
  interfaces:=#[28]
  cf:=some (fileOf pool29 8 #[] #[{ accessFlags:=1025,nameIndex:=79,descriptorIndex:=80,attributes:=#[] },{ accessFlags:=1025,nameIndex:=67,descriptorIndex:=18,attributes:=#[] },{ accessFlags:=137,nameIndex:=88,descriptorIndex:=108,attributes:=#[] }] 1537 103 #[120] #[])
  fields:=#[]
  methods:=#[k29m0,k29m1,k29m2]
  instanceTypes:=#[]
  staticTypes:=#[]
  resolved:=Array.replicate 251 none
  statics:=none }

def pool30 : Array CpInfo:=pool [(2,.class_ 4),(1,u "java/lang/Object"),(0,u "<init>"),(0,u "()V"),(3,.class_ 11),(0,u "java/util/ImmutableCollections$List12"),(0,.class_ 13),(0,u "java/util/ImmutableCollections$ListN"),(3,u "Z"),(29,.class_ 49),(1,u "java/util/ImmutableCollections"),(0,u "$assertionsDisabled"),(5,u "[Ljava/lang/Object;"),(5,u "EMPTY_LIST"),(0,u "Ljava/util/ImmutableCollections$ListN;"),(8,u "EMPTY_LIST_NULLS"),(22,u "SALT32L"),(0,u "J"),(2,u "REVERSE"),(6,u "archivedObjects"),(2,u "EMPTY"),(0,u "Ljava/lang/Object;"),(0,.class_ 112),(0,u "java/util/ImmutableCollections$SetN"),(5,u "EMPTY_SET"),(0,u "Ljava/util/ImmutableCollections$SetN;"),(0,.class_ 121),(0,u "java/util/ImmutableCollections$MapN"),(3,u "EMPTY_MAP"),(0,u "Ljava/util/ImmutableCollections$MapN;"),(4,u "EXPAND_FACTOR"),(0,u "I"),(36,.class_ 170),(0,u "java/util/ImmutableCollections$MapN$MapNIterator"),(0,.class_ 172),(0,u "java/util/ImmutableCollections$MapN$1"),(0,.class_ 174),(0,u "java/util/ImmutableCollections$Map1"),(0,.class_ 176),(0,u "java/util/ImmutableCollections$AbstractImmutableMap"),(0,.class_ 178),(0,u "java/util/ImmutableCollections$SetN$SetNIterator"),(0,.class_ 180),(0,u "java/util/ImmutableCollections$Set12"),(0,.class_ 182),(0,u "java/util/ImmutableCollections$Set12$1"),(0,.class_ 184),(0,u "java/util/ImmutableCollections$AbstractImmutableSet"),(0,.class_ 186),(0,u "java/util/ImmutableCollections$SubList"),(0,.class_ 188),(0,u "java/util/ImmutableCollections$ListItr"),(0,.class_ 190),(0,u "java/util/ImmutableCollections$AbstractImmutableList"),(0,.class_ 192),(0,u "java/util/ImmutableCollections$AbstractImmutableCollection"),(0,.class_ 194),(0,u "java/util/ImmutableCollections$Access"),(0,.class_ 196),(0,u "java/util/ImmutableCollections$Access$1")] 16

def k30m0 : Method:={ name:="<init>",desc:="()V",sig:={ parameters:=[],returnType:=none },accessFlags:=2,code:=none }
/-- java/util/ImmutableCollections -/
def k30 : Class:={ plain "java/util/ImmutableCollections" (some 0) with
  accessFlags:=32
  interfaces:=#[]
  cf:=some (fileOf pool30 47 #[.nestMembers #[120,169,171,173,175,111,177,179,181,183,12,10,185,187,189,191,193,195]] #[{ accessFlags:=2,nameIndex:=5,descriptorIndex:=6,attributes:=#[] }] 32 2 #[] #[{ accessFlags:=26,nameIndex:=95,descriptorIndex:=96,attributes:=#[] },{ accessFlags:=26,nameIndex:=99,descriptorIndex:=17,attributes:=#[] },{ accessFlags:=10,nameIndex:=106,descriptorIndex:=56,attributes:=#[] },{ accessFlags:=26,nameIndex:=109,descriptorIndex:=110,attributes:=#[] },{ accessFlags:=24,nameIndex:=62,descriptorIndex:=63,attributes:=#[] },{ accessFlags:=24,nameIndex:=72,descriptorIndex:=63,attributes:=#[] },{ accessFlags:=24,nameIndex:=118,descriptorIndex:=119,attributes:=#[] },{ accessFlags:=24,nameIndex:=125,descriptorIndex:=126,attributes:=#[] },{ accessFlags:=24,nameIndex:=131,descriptorIndex:=132,attributes:=#[] },{ accessFlags:=4120,nameIndex:=50,descriptorIndex:=17,attributes:=#[] }])
  fields:=#[{ name:="SALT32L",type:=.long,accessFlags:=26,slot:=0,constantValue:=0 },{ name:="REVERSE",type:=.boolean,accessFlags:=26,slot:=1,constantValue:=0 },{ name:="archivedObjects",type:=(.array (.object "java/lang/Object")),accessFlags:=10,slot:=2,constantValue:=0 },{ name:="EMPTY",type:=(.object "java/lang/Object"),accessFlags:=26,slot:=3,constantValue:=0 },{ name:="EMPTY_LIST",type:=(.object "java/util/ImmutableCollections$ListN"),accessFlags:=24,slot:=4,constantValue:=0 },{ name:="EMPTY_LIST_NULLS",type:=(.object "java/util/ImmutableCollections$ListN"),accessFlags:=24,slot:=5,constantValue:=0 },{ name:="EMPTY_SET",type:=(.object "java/util/ImmutableCollections$SetN"),accessFlags:=24,slot:=6,constantValue:=0 },{ name:="EMPTY_MAP",type:=(.object "java/util/ImmutableCollections$MapN"),accessFlags:=24,slot:=7,constantValue:=0 },{ name:="EXPAND_FACTOR",type:=.int,accessFlags:=24,slot:=8,constantValue:=0 },{ name:="$assertionsDisabled",type:=.boolean,accessFlags:=4120,slot:=9,constantValue:=0 }]
  methods:=#[k30m0]
  instanceTypes:=#[]
  staticTypes:=#[.long,.boolean,(.array (.object "java/lang/Object")),(.object "java/lang/Object"),(.object "java/util/ImmutableCollections$ListN"),(.object "java/util/ImmutableCollections$ListN"),(.object "java/util/ImmutableCollections$SetN"),(.object "java/util/ImmutableCollections$MapN"),.int,.boolean]
  resolved:=Array.replicate 213 none
  statics:=some 5 }

def pool31 : Array CpInfo:=pool [(4,.class_ 6),(1,u "java/lang/Object"),(0,u "<init>"),(0,u "()V"),(5,.class_ 16),(1,u "java/lang/StringLatin1"),(0,u "inflate"),(2,.class_ 22),(1,u "java/lang/StringUTF16"),(3,.nameAndType 17 27),(0,u "([BI[BII)V"),(62,u "canEncode"),(14,u "(C)Z"),(15,u "$assertionsDisabled"),(0,u "Z"),(98,.class_ 223),(1,u "java/lang/StringLatin1$LinesSpliterator"),(16,.methodref 20 26),(149,.class_ 391),(0,u "java/lang/StringLatin1$CharsSpliterator")] 3

def k31m0 : Method:={ name:="<init>",desc:="()V",sig:={ parameters:=[],returnType:=none },accessFlags:=0,code:=none }
def k31c1 : Code:={ maxStack:=2,maxLocals:=1,code:=jdk_43_method_3_code,exceptionTable:=#[],attributes:=#[] }
def k31m1 : Method:={ name:="canEncode",desc:="(C)Z",sig:={ parameters:=[.char],returnType:=some .boolean },accessFlags:=9,code:=some k31c1 }
def k31c2 : Code:={ maxStack:=5,maxLocals:=5,code:=jdk_43_method_50_code,exceptionTable:=#[],attributes:=#[] }
def k31m2 : Method:={ name:="inflate",desc:="([BI[BII)V",sig:={ parameters:=[(.array .byte),.int,(.array .byte),.int,.int],returnType:=none },accessFlags:=9,code:=some k31c2 }
/-- java/lang/StringLatin1 -/
def k31 : Class:={ plain "java/lang/StringLatin1" (some 0) with
  accessFlags:=48
  interfaces:=#[]
  cf:=some (fileOf pool31 14 #[.nestMembers #[390,221]] #[{ accessFlags:=0,nameIndex:=7,descriptorIndex:=8,attributes:=#[] },{ accessFlags:=9,nameIndex:=90,descriptorIndex:=105,attributes:=#[] },{ accessFlags:=9,nameIndex:=17,descriptorIndex:=27,attributes:=#[] }] 48 4 #[] #[{ accessFlags:=4120,nameIndex:=121,descriptorIndex:=122,attributes:=#[] }])
  fields:=#[{ name:="$assertionsDisabled",type:=.boolean,accessFlags:=4120,slot:=0,constantValue:=0 }]
  methods:=#[k31m0,k31m1,k31m2]
  instanceTypes:=#[]
  staticTypes:=#[.boolean]
  resolved:=Array.replicate 395 none
  statics:=none }

def pool32 : Array CpInfo:=pool [(2,.class_ 4),(1,u "java/lang/Object"),(0,u "<init>"),(0,u "()V"),(17,.class_ 26),(1,u "jdk/internal/util/Preconditions"),(6,u "checkIndex"),(15,u "checkFromIndexSize"),(5,.class_ 56),(0,u "jdk/internal/util/Preconditions$4"),(57,.class_ 115),(0,u "jdk/internal/util/Preconditions$1"),(7,u "SIOOBE_FORMATTER"),(0,u "Ljava/util/function/BiFunction;"),(0,.class_ 126),(0,u "jdk/internal/util/Preconditions$2"),(3,u "AIOOBE_FORMATTER"),(0,.class_ 132),(0,u "jdk/internal/util/Preconditions$3"),(3,u "IOOBE_FORMATTER"),(41,u "(IILjava/util/function/BiFunction;)I"),(4,u "(IIILjava/util/function/BiFunction;)I")] 10

def k32m0 : Method:={ name:="<init>",desc:="()V",sig:={ parameters:=[],returnType:=none },accessFlags:=1,code:=none }
def k32c1 : Code:={ maxStack:=3,maxLocals:=3,code:=jdk_41_method_11_code,exceptionTable:=#[],attributes:=#[] }
def k32m1 : Method:={ name:="checkIndex",desc:="(IILjava/util/function/BiFunction;)I",sig:={ parameters:=[.int,.int,(.object "java/util/function/BiFunction")],returnType:=some .int },accessFlags:=9,code:=some k32c1 }
def k32c2 : Code:={ maxStack:=4,maxLocals:=4,code:=jdk_41_method_13_code,exceptionTable:=#[],attributes:=#[] }
def k32m2 : Method:={ name:="checkFromIndexSize",desc:="(IIILjava/util/function/BiFunction;)I",sig:={ parameters:=[.int,.int,.int,(.object "java/util/function/BiFunction")],returnType:=some .int },accessFlags:=9,code:=some k32c2 }
/-- jdk/internal/util/Preconditions -/
def k32 : Class:={ plain "jdk/internal/util/Preconditions" (some 0) with
  accessFlags:=33
  interfaces:=#[]
  cf:=some (fileOf pool32 24 #[.nestMembers #[55,131,125,114]] #[{ accessFlags:=1,nameIndex:=5,descriptorIndex:=6,attributes:=#[] },{ accessFlags:=9,nameIndex:=33,descriptorIndex:=178,attributes:=#[] },{ accessFlags:=9,nameIndex:=49,descriptorIndex:=183,attributes:=#[] }] 33 2 #[] #[{ accessFlags:=25,nameIndex:=123,descriptorIndex:=124,attributes:=#[] },{ accessFlags:=25,nameIndex:=130,descriptorIndex:=124,attributes:=#[] },{ accessFlags:=25,nameIndex:=136,descriptorIndex:=124,attributes:=#[] }])
  fields:=#[{ name:="SIOOBE_FORMATTER",type:=(.object "java/util/function/BiFunction"),accessFlags:=25,slot:=0,constantValue:=0 },{ name:="AIOOBE_FORMATTER",type:=(.object "java/util/function/BiFunction"),accessFlags:=25,slot:=1,constantValue:=0 },{ name:="IOOBE_FORMATTER",type:=(.object "java/util/function/BiFunction"),accessFlags:=25,slot:=2,constantValue:=0 }]
  methods:=#[k32m0,k32m1,k32m2]
  instanceTypes:=#[]
  staticTypes:=#[(.object "java/util/function/BiFunction"),(.object "java/util/function/BiFunction"),(.object "java/util/function/BiFunction")]
  resolved:=Array.replicate 194 none
  statics:=some 6 }

def pool33 : Array CpInfo:=pool [(2,.class_ 4),(1,u "java/lang/Object"),(0,u "<init>"),(0,u "()V"),(1,.class_ 10),(1,u "java/util/AbstractCollection"),(66,.class_ 78),(0,u "java/util/Collection")] 81

def k33m0 : Method:={ name:="<init>",desc:="()V",sig:={ parameters:=[],returnType:=none },accessFlags:=4,code:=none }
/-- java/util/AbstractCollection -/
def k33 : Class:={ plain "java/util/AbstractCollection" (some 0) with
  accessFlags:=1057
  interfaces:=#[27]
  cf:=some (fileOf pool33 8 #[] #[{ accessFlags:=4,nameIndex:=5,descriptorIndex:=6,attributes:=#[] }] 1057 2 #[77] #[])
  fields:=#[]
  methods:=#[k33m0]
  instanceTypes:=#[]
  staticTypes:=#[]
  resolved:=Array.replicate 160 none
  statics:=none }

def pool34 : Array CpInfo:=pool [(2,.class_ 4),(1,u "java/util/AbstractCollection"),(0,u "<init>"),(0,u "()V"),(1,.class_ 10),(1,u "java/util/ImmutableCollections"),(2,.class_ 14),(0,u "java/util/ImmutableCollections$AbstractImmutableCollection")] 41

def k34m0 : Method:={ name:="<init>",desc:="()V",sig:={ parameters:=[],returnType:=none },accessFlags:=0,code:=none }
/-- java/util/ImmutableCollections$AbstractImmutableCollection -/
def k34 : Class:={ plain "java/util/ImmutableCollections$AbstractImmutableCollection" (some 33) with
  accessFlags:=1056
  interfaces:=#[]
  cf:=some (fileOf pool34 13 #[.nestHost 8] #[{ accessFlags:=0,nameIndex:=5,descriptorIndex:=6,attributes:=#[] }] 1056 2 #[] #[])
  fields:=#[]
  methods:=#[k34m0]
  instanceTypes:=#[]
  staticTypes:=#[]
  resolved:=Array.replicate 56 none
  statics:=none }

def pool35 : Array CpInfo:=pool [(1,.class_ 2),(0,u "java/util/RandomAccess"),(0,.class_ 4),(0,u "java/lang/Object")] 2

/-- java/util/RandomAccess -/
def k35 : Class:={ plain "java/util/RandomAccess" (some 0) with
  accessFlags:=1537
  interfaces:=#[]
  cf:=some (fileOf pool35 1 #[] #[] 1537 3 #[] #[])
  fields:=#[]
  methods:=#[]
  instanceTypes:=#[]
  staticTypes:=#[]
  resolved:=Array.replicate 7 none
  statics:=none }

def pool36 : Array CpInfo:=pool [(2,.class_ 4),(1,u "java/util/ImmutableCollections$AbstractImmutableCollection"),(0,u "<init>"),(0,u "()V"),(1,.class_ 10),(1,u "java/util/ImmutableCollections"),(3,.class_ 16),(1,u "java/util/ImmutableCollections$AbstractImmutableList"),(60,.class_ 78),(0,u "java/util/List"),(45,.class_ 125),(0,u "java/util/RandomAccess")] 70

def k36m0 : Method:={ name:="<init>",desc:="()V",sig:={ parameters:=[],returnType:=none },accessFlags:=0,code:=none }
/-- java/util/ImmutableCollections$AbstractImmutableList -/
def k36 : Class:={ plain "java/util/ImmutableCollections$AbstractImmutableList" (some 34) with
  accessFlags:=1056
  interfaces:=#[29,35]
  cf:=some (fileOf pool36 14 #[.nestHost 8] #[{ accessFlags:=0,nameIndex:=5,descriptorIndex:=6,attributes:=#[] }] 1056 2 #[77,124] #[])
  fields:=#[]
  methods:=#[k36m0]
  instanceTypes:=#[]
  staticTypes:=#[]
  resolved:=Array.replicate 196 none
  statics:=none }

def pool37 : Array CpInfo:=pool [(2,.class_ 4),(1,u "java/util/ImmutableCollections$AbstractImmutableList"),(2,.fieldref 8 9),(0,.class_ 10),(0,.nameAndType 11 12),(0,u "java/util/ImmutableCollections$ListN"),(0,u "elements"),(0,u "[Ljava/lang/Object;"),(2,u "allowNulls"),(0,u "Z"),(42,.class_ 60),(0,u "java/io/Serializable"),(13,u "isEmpty"),(0,u "()Z"),(1,u "size"),(0,u "()I"),(35,.class_ 115),(0,u "java/util/ImmutableCollections")] 3

def k37c0 : Code:={ maxStack:=1,maxLocals:=1,code:=jdk_45_method_2_code,exceptionTable:=#[],attributes:=#[] }
def k37m0 : Method:={ name:="isEmpty",desc:="()Z",sig:={ parameters:=[],returnType:=some .boolean },accessFlags:=1,code:=some k37c0 }
def k37c1 : Code:={ maxStack:=1,maxLocals:=1,code:=jdk_45_method_3_code,exceptionTable:=#[],attributes:=#[] }
def k37m1 : Method:={ name:="size",desc:="()I",sig:={ parameters:=[],returnType:=some .int },accessFlags:=1,code:=some k37c1 }
/-- java/util/ImmutableCollections$ListN -/
def k37 : Class:={ plain "java/util/ImmutableCollections$ListN" (some 36) with
  accessFlags:=48
  interfaces:=#[6]
  cf:=some (fileOf pool37 8 #[.nestHost 114] #[{ accessFlags:=1,nameIndex:=74,descriptorIndex:=75,attributes:=#[] },{ accessFlags:=1,nameIndex:=77,descriptorIndex:=78,attributes:=#[] }] 48 2 #[59] #[{ accessFlags:=18,nameIndex:=11,descriptorIndex:=12,attributes:=#[] },{ accessFlags:=18,nameIndex:=15,descriptorIndex:=16,attributes:=#[] }])
  fields:=#[{ name:="elements",type:=(.array (.object "java/lang/Object")),accessFlags:=18,slot:=0,constantValue:=0 },{ name:="allowNulls",type:=.boolean,accessFlags:=18,slot:=1,constantValue:=0 }]
  methods:=#[k37m0,k37m1]
  instanceTypes:=#[(.array (.object "java/lang/Object")),.boolean]
  staticTypes:=#[]
  resolved:=Array.replicate 119 none
  statics:=none }

def pool38 : Array CpInfo:=pool [(1,.class_ 2),(0,u "java/lang/Character"),(18,u "value"),(0,u "C"),(19,.class_ 44),(1,u "java/lang/Object"),(3,.class_ 50),(1,u "java/lang/Character$CharacterCache"),(24,.integer 55296),(0,.integer 56320),(0,.integer 57344),(2,u "isHighSurrogate"),(0,u "(C)Z"),(2,u "isLowSurrogate"),(0,.integer 4238353408),(12,u "toCodePoint"),(0,u "(CC)I"),(184,u "$assertionsDisabled"),(0,u "Z"),(21,.class_ 309),(1,u "java/lang/Character$UnicodeBlock"),(73,u "TYPE"),(0,u "Ljava/lang/Class;"),(0,.class_ 386),(0,u "java/io/Serializable"),(0,.class_ 388),(0,u "java/lang/Comparable"),(0,.class_ 390),(0,u "java/lang/constant/Constable"),(0,u "MIN_RADIX"),(0,u "I"),(2,u "MAX_RADIX"),(1,u "MIN_VALUE"),(1,u "MAX_VALUE"),(3,u "UNASSIGNED"),(0,u "B"),(0,u "UPPERCASE_LETTER"),(1,u "LOWERCASE_LETTER"),(0,u "TITLECASE_LETTER"),(1,u "MODIFIER_LETTER"),(1,u "OTHER_LETTER"),(1,u "NON_SPACING_MARK"),(1,u "ENCLOSING_MARK"),(1,u "COMBINING_SPACING_MARK"),(1,u "DECIMAL_DIGIT_NUMBER"),(1,u "LETTER_NUMBER"),(1,u "OTHER_NUMBER"),(1,u "SPACE_SEPARATOR"),(1,u "LINE_SEPARATOR"),(1,u "PARAGRAPH_SEPARATOR"),(1,u "CONTROL"),(1,u "FORMAT"),(1,u "PRIVATE_USE"),(1,u "SURROGATE"),(1,u "DASH_PUNCTUATION"),(1,u "START_PUNCTUATION"),(1,u "END_PUNCTUATION"),(1,u "CONNECTOR_PUNCTUATION"),(1,u "OTHER_PUNCTUATION"),(1,u "MATH_SYMBOL"),(1,u "CURRENCY_SYMBOL"),(1,u "MODIFIER_SYMBOL"),(1,u "OTHER_SYMBOL"),(1,u "INITIAL_QUOTE_PUNCTUATION"),(1,u "FINAL_QUOTE_PUNCTUATION"),(1,u "ERROR"),(1,u "DIRECTIONALITY_UNDEFINED"),(0,u "DIRECTIONALITY_LEFT_TO_RIGHT"),(0,u "DIRECTIONALITY_RIGHT_TO_LEFT"),(0,u "DIRECTIONALITY_RIGHT_TO_LEFT_ARABIC"),(0,u "DIRECTIONALITY_EUROPEAN_NUMBER"),(0,u "DIRECTIONALITY_EUROPEAN_NUMBER_SEPARATOR"),(0,u "DIRECTIONALITY_EUROPEAN_NUMBER_TERMINATOR"),(0,u "DIRECTIONALITY_ARABIC_NUMBER"),(0,u "DIRECTIONALITY_COMMON_NUMBER_SEPARATOR"),(0,u "DIRECTIONALITY_NONSPACING_MARK"),(0,u "DIRECTIONALITY_BOUNDARY_NEUTRAL"),(0,u "DIRECTIONALITY_PARAGRAPH_SEPARATOR"),(0,u "DIRECTIONALITY_SEGMENT_SEPARATOR"),(0,u "DIRECTIONALITY_WHITESPACE"),(0,u "DIRECTIONALITY_OTHER_NEUTRALS"),(0,u "DIRECTIONALITY_LEFT_TO_RIGHT_EMBEDDING"),(0,u "DIRECTIONALITY_LEFT_TO_RIGHT_OVERRIDE"),(0,u "DIRECTIONALITY_RIGHT_TO_LEFT_EMBEDDING"),(0,u "DIRECTIONALITY_RIGHT_TO_LEFT_OVERRIDE"),(1,u "DIRECTIONALITY_POP_DIRECTIONAL_FORMAT"),(0,u "DIRECTIONALITY_LEFT_TO_RIGHT_ISOLATE"),(0,u "DIRECTIONALITY_RIGHT_TO_LEFT_ISOLATE"),(0,u "DIRECTIONALITY_FIRST_STRONG_ISOLATE"),(0,u "DIRECTIONALITY_POP_DIRECTIONAL_ISOLATE"),(0,u "MIN_HIGH_SURROGATE"),(0,u "MAX_HIGH_SURROGATE"),(1,u "MIN_LOW_SURROGATE"),(0,u "MAX_LOW_SURROGATE"),(1,u "MIN_SURROGATE"),(0,u "MAX_SURROGATE"),(0,u "MIN_SUPPLEMENTARY_CODE_POINT"),(0,u "MIN_CODE_POINT"),(0,u "MAX_CODE_POINT"),(1,u "serialVersionUID"),(0,u "J"),(2,u "SIZE"),(0,u "BYTES"),(24,u "isSurrogate"),(63,.class_ 596),(0,u "java/lang/Character$UnicodeScript"),(0,.class_ 598),(0,u "java/lang/Character$Subset")] 5

def k38c0 : Code:={ maxStack:=2,maxLocals:=1,code:=jdk_89_method_14_code,exceptionTable:=#[],attributes:=#[] }
def k38m0 : Method:={ name:="isHighSurrogate",desc:="(C)Z",sig:={ parameters:=[.char],returnType:=some .boolean },accessFlags:=9,code:=some k38c0 }
def k38c1 : Code:={ maxStack:=2,maxLocals:=1,code:=jdk_89_method_15_code,exceptionTable:=#[],attributes:=#[] }
def k38m1 : Method:={ name:="isLowSurrogate",desc:="(C)Z",sig:={ parameters:=[.char],returnType:=some .boolean },accessFlags:=9,code:=some k38c1 }
def k38c2 : Code:={ maxStack:=2,maxLocals:=1,code:=jdk_89_method_16_code,exceptionTable:=#[],attributes:=#[] }
def k38m2 : Method:={ name:="isSurrogate",desc:="(C)Z",sig:={ parameters:=[.char],returnType:=some .boolean },accessFlags:=9,code:=some k38c2 }
def k38c3 : Code:={ maxStack:=2,maxLocals:=2,code:=jdk_89_method_19_code,exceptionTable:=#[],attributes:=#[] }
def k38m3 : Method:={ name:="toCodePoint",desc:="(CC)I",sig:={ parameters:=[.char,.char],returnType:=some .int },accessFlags:=9,code:=some k38c3 }
/-- java/lang/Character -/
def k38 : Class:={ plain "java/lang/Character" (some 0) with
  accessFlags:=49
  interfaces:=#[6,7,9]
  cf:=some (fileOf pool38 1 #[.nestMembers #[48,595,307,597]] #[{ accessFlags:=9,nameIndex:=80,descriptorIndex:=81,attributes:=#[] },{ accessFlags:=9,nameIndex:=84,descriptorIndex:=81,attributes:=#[] },{ accessFlags:=9,nameIndex:=531,descriptorIndex:=81,attributes:=#[] },{ accessFlags:=9,nameIndex:=98,descriptorIndex:=99,attributes:=#[] }] 49 42 #[385,387,389] #[{ accessFlags:=25,nameIndex:=391,descriptorIndex:=392,attributes:=#[] },{ accessFlags:=25,nameIndex:=395,descriptorIndex:=392,attributes:=#[] },{ accessFlags:=25,nameIndex:=397,descriptorIndex:=22,attributes:=#[] },{ accessFlags:=25,nameIndex:=399,descriptorIndex:=22,attributes:=#[] },{ accessFlags:=25,nameIndex:=383,descriptorIndex:=384,attributes:=#[] },{ accessFlags:=25,nameIndex:=403,descriptorIndex:=404,attributes:=#[] },{ accessFlags:=25,nameIndex:=405,descriptorIndex:=404,attributes:=#[] },{ accessFlags:=25,nameIndex:=407,descriptorIndex:=404,attributes:=#[] },{ accessFlags:=25,nameIndex:=408,descriptorIndex:=404,attributes:=#[] },{ accessFlags:=25,nameIndex:=410,descriptorIndex:=404,attributes:=#[] },{ accessFlags:=25,nameIndex:=412,descriptorIndex:=404,attributes:=#[] },{ accessFlags:=25,nameIndex:=414,descriptorIndex:=404,attributes:=#[] },{ accessFlags:=25,nameIndex:=416,descriptorIndex:=404,attributes:=#[] },{ accessFlags:=25,nameIndex:=418,descriptorIndex:=404,attributes:=#[] },{ accessFlags:=25,nameIndex:=420,descriptorIndex:=404,attributes:=#[] },{ accessFlags:=25,nameIndex:=422,descriptorIndex:=404,attributes:=#[] },{ accessFlags:=25,nameIndex:=424,descriptorIndex:=404,attributes:=#[] },{ accessFlags:=25,nameIndex:=426,descriptorIndex:=404,attributes:=#[] },{ accessFlags:=25,nameIndex:=428,descriptorIndex:=404,attributes:=#[] },{ accessFlags:=25,nameIndex:=430,descriptorIndex:=404,attributes:=#[] },{ accessFlags:=25,nameIndex:=432,descriptorIndex:=404,attributes:=#[] },{ accessFlags:=25,nameIndex:=434,descriptorIndex:=404,attributes:=#[] },{ accessFlags:=25,nameIndex:=436,descriptorIndex:=404,attributes:=#[] },{ accessFlags:=25,nameIndex:=438,descriptorIndex:=404,attributes:=#[] },{ accessFlags:=25,nameIndex:=440,descriptorIndex:=404,attributes:=#[] },{ accessFlags:=25,nameIndex:=442,descriptorIndex:=404,attributes:=#[] },{ accessFlags:=25,nameIndex:=444,descriptorIndex:=404,attributes:=#[] },{ accessFlags:=25,nameIndex:=446,descriptorIndex:=404,attributes:=#[] },{ accessFlags:=25,nameIndex:=448,descriptorIndex:=404,attributes:=#[] },{ accessFlags:=25,nameIndex:=450,descriptorIndex:=404,attributes:=#[] },{ accessFlags:=25,nameIndex:=452,descriptorIndex:=404,attributes:=#[] },{ accessFlags:=25,nameIndex:=454,descriptorIndex:=404,attributes:=#[] },{ accessFlags:=25,nameIndex:=456,descriptorIndex:=404,attributes:=#[] },{ accessFlags:=25,nameIndex:=458,descriptorIndex:=404,attributes:=#[] },{ accessFlags:=25,nameIndex:=460,descriptorIndex:=404,attributes:=#[] },{ accessFlags:=24,nameIndex:=462,descriptorIndex:=392,attributes:=#[] },{ accessFlags:=25,nameIndex:=464,descriptorIndex:=404,attributes:=#[] },{ accessFlags:=25,nameIndex:=465,descriptorIndex:=404,attributes:=#[] },{ accessFlags:=25,nameIndex:=466,descriptorIndex:=404,attributes:=#[] },{ accessFlags:=25,nameIndex:=467,descriptorIndex:=404,attributes:=#[] },{ accessFlags:=25,nameIndex:=468,descriptorIndex:=404,attributes:=#[] },{ accessFlags:=25,nameIndex:=469,descriptorIndex:=404,attributes:=#[] },{ accessFlags:=25,nameIndex:=470,descriptorIndex:=404,attributes:=#[] },{ accessFlags:=25,nameIndex:=471,descriptorIndex:=404,attributes:=#[] },{ accessFlags:=25,nameIndex:=472,descriptorIndex:=404,attributes:=#[] },{ accessFlags:=25,nameIndex:=473,descriptorIndex:=404,attributes:=#[] },{ accessFlags:=25,nameIndex:=474,descriptorIndex:=404,attributes:=#[] },{ accessFlags:=25,nameIndex:=475,descriptorIndex:=404,attributes:=#[] },{ accessFlags:=25,nameIndex:=476,descriptorIndex:=404,attributes:=#[] },{ accessFlags:=25,nameIndex:=477,descriptorIndex:=404,attributes:=#[] },{ accessFlags:=25,nameIndex:=478,descriptorIndex:=404,attributes:=#[] },{ accessFlags:=25,nameIndex:=479,descriptorIndex:=404,attributes:=#[] },{ accessFlags:=25,nameIndex:=480,descriptorIndex:=404,attributes:=#[] },{ accessFlags:=25,nameIndex:=481,descriptorIndex:=404,attributes:=#[] },{ accessFlags:=25,nameIndex:=482,descriptorIndex:=404,attributes:=#[] },{ accessFlags:=25,nameIndex:=484,descriptorIndex:=404,attributes:=#[] },{ accessFlags:=25,nameIndex:=485,descriptorIndex:=404,attributes:=#[] },{ accessFlags:=25,nameIndex:=486,descriptorIndex:=404,attributes:=#[] },{ accessFlags:=25,nameIndex:=487,descriptorIndex:=404,attributes:=#[] },{ accessFlags:=25,nameIndex:=488,descriptorIndex:=404,attributes:=#[] },{ accessFlags:=25,nameIndex:=489,descriptorIndex:=22,attributes:=#[] },{ accessFlags:=25,nameIndex:=490,descriptorIndex:=22,attributes:=#[] },{ accessFlags:=25,nameIndex:=492,descriptorIndex:=22,attributes:=#[] },{ accessFlags:=25,nameIndex:=493,descriptorIndex:=22,attributes:=#[] },{ accessFlags:=25,nameIndex:=495,descriptorIndex:=22,attributes:=#[] },{ accessFlags:=25,nameIndex:=496,descriptorIndex:=22,attributes:=#[] },{ accessFlags:=25,nameIndex:=497,descriptorIndex:=392,attributes:=#[] },{ accessFlags:=25,nameIndex:=498,descriptorIndex:=392,attributes:=#[] },{ accessFlags:=25,nameIndex:=499,descriptorIndex:=392,attributes:=#[] },{ accessFlags:=18,nameIndex:=21,descriptorIndex:=22,attributes:=#[] },{ accessFlags:=26,nameIndex:=501,descriptorIndex:=502,attributes:=#[] },{ accessFlags:=25,nameIndex:=505,descriptorIndex:=392,attributes:=#[] },{ accessFlags:=25,nameIndex:=506,descriptorIndex:=392,attributes:=#[] },{ accessFlags:=4120,nameIndex:=284,descriptorIndex:=285,attributes:=#[] }])
  fields:=#[{ name:="MIN_RADIX",type:=.int,accessFlags:=25,slot:=0,constantValue:=0 },{ name:="MAX_RADIX",type:=.int,accessFlags:=25,slot:=1,constantValue:=0 },{ name:="MIN_VALUE",type:=.char,accessFlags:=25,slot:=2,constantValue:=0 },{ name:="MAX_VALUE",type:=.char,accessFlags:=25,slot:=3,constantValue:=0 },{ name:="TYPE",type:=(.object "java/lang/Class"),accessFlags:=25,slot:=4,constantValue:=0 },{ name:="UNASSIGNED",type:=.byte,accessFlags:=25,slot:=5,constantValue:=0 },{ name:="UPPERCASE_LETTER",type:=.byte,accessFlags:=25,slot:=6,constantValue:=0 },{ name:="LOWERCASE_LETTER",type:=.byte,accessFlags:=25,slot:=7,constantValue:=0 },{ name:="TITLECASE_LETTER",type:=.byte,accessFlags:=25,slot:=8,constantValue:=0 },{ name:="MODIFIER_LETTER",type:=.byte,accessFlags:=25,slot:=9,constantValue:=0 },{ name:="OTHER_LETTER",type:=.byte,accessFlags:=25,slot:=10,constantValue:=0 },{ name:="NON_SPACING_MARK",type:=.byte,accessFlags:=25,slot:=11,constantValue:=0 },{ name:="ENCLOSING_MARK",type:=.byte,accessFlags:=25,slot:=12,constantValue:=0 },{ name:="COMBINING_SPACING_MARK",type:=.byte,accessFlags:=25,slot:=13,constantValue:=0 },{ name:="DECIMAL_DIGIT_NUMBER",type:=.byte,accessFlags:=25,slot:=14,constantValue:=0 },{ name:="LETTER_NUMBER",type:=.byte,accessFlags:=25,slot:=15,constantValue:=0 },{ name:="OTHER_NUMBER",type:=.byte,accessFlags:=25,slot:=16,constantValue:=0 },{ name:="SPACE_SEPARATOR",type:=.byte,accessFlags:=25,slot:=17,constantValue:=0 },{ name:="LINE_SEPARATOR",type:=.byte,accessFlags:=25,slot:=18,constantValue:=0 },{ name:="PARAGRAPH_SEPARATOR",type:=.byte,accessFlags:=25,slot:=19,constantValue:=0 },{ name:="CONTROL",type:=.byte,accessFlags:=25,slot:=20,constantValue:=0 },{ name:="FORMAT",type:=.byte,accessFlags:=25,slot:=21,constantValue:=0 },{ name:="PRIVATE_USE",type:=.byte,accessFlags:=25,slot:=22,constantValue:=0 },{ name:="SURROGATE",type:=.byte,accessFlags:=25,slot:=23,constantValue:=0 },{ name:="DASH_PUNCTUATION",type:=.byte,accessFlags:=25,slot:=24,constantValue:=0 },{ name:="START_PUNCTUATION",type:=.byte,accessFlags:=25,slot:=25,constantValue:=0 },{ name:="END_PUNCTUATION",type:=.byte,accessFlags:=25,slot:=26,constantValue:=0 },{ name:="CONNECTOR_PUNCTUATION",type:=.byte,accessFlags:=25,slot:=27,constantValue:=0 },{ name:="OTHER_PUNCTUATION",type:=.byte,accessFlags:=25,slot:=28,constantValue:=0 },{ name:="MATH_SYMBOL",type:=.byte,accessFlags:=25,slot:=29,constantValue:=0 },{ name:="CURRENCY_SYMBOL",type:=.byte,accessFlags:=25,slot:=30,constantValue:=0 },{ name:="MODIFIER_SYMBOL",type:=.byte,accessFlags:=25,slot:=31,constantValue:=0 },{ name:="OTHER_SYMBOL",type:=.byte,accessFlags:=25,slot:=32,constantValue:=0 },{ name:="INITIAL_QUOTE_PUNCTUATION",type:=.byte,accessFlags:=25,slot:=33,constantValue:=0 },{ name:="FINAL_QUOTE_PUNCTUATION",type:=.byte,accessFlags:=25,slot:=34,constantValue:=0 },{ name:="ERROR",type:=.int,accessFlags:=24,slot:=35,constantValue:=0 },{ name:="DIRECTIONALITY_UNDEFINED",type:=.byte,accessFlags:=25,slot:=36,constantValue:=0 },{ name:="DIRECTIONALITY_LEFT_TO_RIGHT",type:=.byte,accessFlags:=25,slot:=37,constantValue:=0 },{ name:="DIRECTIONALITY_RIGHT_TO_LEFT",type:=.byte,accessFlags:=25,slot:=38,constantValue:=0 },{ name:="DIRECTIONALITY_RIGHT_TO_LEFT_ARABIC",type:=.byte,accessFlags:=25,slot:=39,constantValue:=0 },{ name:="DIRECTIONALITY_EUROPEAN_NUMBER",type:=.byte,accessFlags:=25,slot:=40,constantValue:=0 },{ name:="DIRECTIONALITY_EUROPEAN_NUMBER_SEPARATOR",type:=.byte,accessFlags:=25,slot:=41,constantValue:=0 },{ name:="DIRECTIONALITY_EUROPEAN_NUMBER_TERMINATOR",type:=.byte,accessFlags:=25,slot:=42,constantValue:=0 },{ name:="DIRECTIONALITY_ARABIC_NUMBER",type:=.byte,accessFlags:=25,slot:=43,constantValue:=0 },{ name:="DIRECTIONALITY_COMMON_NUMBER_SEPARATOR",type:=.byte,accessFlags:=25,slot:=44,constantValue:=0 },{ name:="DIRECTIONALITY_NONSPACING_MARK",type:=.byte,accessFlags:=25,slot:=45,constantValue:=0 },{ name:="DIRECTIONALITY_BOUNDARY_NEUTRAL",type:=.byte,accessFlags:=25,slot:=46,constantValue:=0 },{ name:="DIRECTIONALITY_PARAGRAPH_SEPARATOR",type:=.byte,accessFlags:=25,slot:=47,constantValue:=0 },{ name:="DIRECTIONALITY_SEGMENT_SEPARATOR",type:=.byte,accessFlags:=25,slot:=48,constantValue:=0 },{ name:="DIRECTIONALITY_WHITESPACE",type:=.byte,accessFlags:=25,slot:=49,constantValue:=0 },{ name:="DIRECTIONALITY_OTHER_NEUTRALS",type:=.byte,accessFlags:=25,slot:=50,constantValue:=0 },{ name:="DIRECTIONALITY_LEFT_TO_RIGHT_EMBEDDING",type:=.byte,accessFlags:=25,slot:=51,constantValue:=0 },{ name:="DIRECTIONALITY_LEFT_TO_RIGHT_OVERRIDE",type:=.byte,accessFlags:=25,slot:=52,constantValue:=0 },{ name:="DIRECTIONALITY_RIGHT_TO_LEFT_EMBEDDING",type:=.byte,accessFlags:=25,slot:=53,constantValue:=0 },{ name:="DIRECTIONALITY_RIGHT_TO_LEFT_OVERRIDE",type:=.byte,accessFlags:=25,slot:=54,constantValue:=0 },{ name:="DIRECTIONALITY_POP_DIRECTIONAL_FORMAT",type:=.byte,accessFlags:=25,slot:=55,constantValue:=0 },{ name:="DIRECTIONALITY_LEFT_TO_RIGHT_ISOLATE",type:=.byte,accessFlags:=25,slot:=56,constantValue:=0 },{ name:="DIRECTIONALITY_RIGHT_TO_LEFT_ISOLATE",type:=.byte,accessFlags:=25,slot:=57,constantValue:=0 },{ name:="DIRECTIONALITY_FIRST_STRONG_ISOLATE",type:=.byte,accessFlags:=25,slot:=58,constantValue:=0 },{ name:="DIRECTIONALITY_POP_DIRECTIONAL_ISOLATE",type:=.byte,accessFlags:=25,slot:=59,constantValue:=0 },{ name:="MIN_HIGH_SURROGATE",type:=.char,accessFlags:=25,slot:=60,constantValue:=0 },{ name:="MAX_HIGH_SURROGATE",type:=.char,accessFlags:=25,slot:=61,constantValue:=0 },{ name:="MIN_LOW_SURROGATE",type:=.char,accessFlags:=25,slot:=62,constantValue:=0 },{ name:="MAX_LOW_SURROGATE",type:=.char,accessFlags:=25,slot:=63,constantValue:=0 },{ name:="MIN_SURROGATE",type:=.char,accessFlags:=25,slot:=64,constantValue:=0 },{ name:="MAX_SURROGATE",type:=.char,accessFlags:=25,slot:=65,constantValue:=0 },{ name:="MIN_SUPPLEMENTARY_CODE_POINT",type:=.int,accessFlags:=25,slot:=66,constantValue:=0 },{ name:="MIN_CODE_POINT",type:=.int,accessFlags:=25,slot:=67,constantValue:=0 },{ name:="MAX_CODE_POINT",type:=.int,accessFlags:=25,slot:=68,constantValue:=0 },{ name:="value",type:=.char,accessFlags:=18,slot:=0,constantValue:=0 },{ name:="serialVersionUID",type:=.long,accessFlags:=26,slot:=69,constantValue:=0 },{ name:="SIZE",type:=.int,accessFlags:=25,slot:=70,constantValue:=0 },{ name:="BYTES",type:=.int,accessFlags:=25,slot:=71,constantValue:=0 },{ name:="$assertionsDisabled",type:=.boolean,accessFlags:=4120,slot:=72,constantValue:=0 }]
  methods:=#[k38m0,k38m1,k38m2,k38m3]
  instanceTypes:=#[.char]
  staticTypes:=#[.int,.int,.char,.char,(.object "java/lang/Class"),.byte,.byte,.byte,.byte,.byte,.byte,.byte,.byte,.byte,.byte,.byte,.byte,.byte,.byte,.byte,.byte,.byte,.byte,.byte,.byte,.byte,.byte,.byte,.byte,.byte,.byte,.byte,.byte,.byte,.byte,.int,.byte,.byte,.byte,.byte,.byte,.byte,.byte,.byte,.byte,.byte,.byte,.byte,.byte,.byte,.byte,.byte,.byte,.byte,.byte,.byte,.byte,.byte,.byte,.byte,.char,.char,.char,.char,.char,.char,.int,.int,.int,.long,.int,.int,.boolean]
  resolved:=Array.replicate 604 none
  statics:=none }

def pool39 : Array CpInfo:=pool [(9,u "<init>"),(6,.class_ 18),(1,u "java/lang/Object"),(0,u "()V"),(1,.class_ 23),(1,u "jdk/internal/util/ArraysSupport"),(0,u "LOG2_ARRAY_LONG_INDEX_SCALE"),(0,u "I"),(2,u "U"),(0,u "Ljdk/internal/misc/Unsafe;"),(8,u "BIG_ENDIAN"),(0,u "Z"),(8,u "LOG2_BYTE_BIT_SIZE"),(4,u "LOG2_ARRAY_INT_INDEX_SCALE"),(54,u "JLA"),(0,u "Ljdk/internal/access/JavaLangAccess;"),(11,u "LOG2_ARRAY_BOOLEAN_INDEX_SCALE"),(9,u "LOG2_ARRAY_BYTE_INDEX_SCALE"),(5,u "LOG2_ARRAY_CHAR_INDEX_SCALE"),(5,u "LOG2_ARRAY_SHORT_INDEX_SCALE"),(18,u "LOG2_ARRAY_FLOAT_INDEX_SCALE"),(24,u "LOG2_ARRAY_DOUBLE_INDEX_SCALE"),(89,u "T_BOOLEAN"),(2,u "T_CHAR"),(1,u "T_FLOAT"),(1,u "T_DOUBLE"),(1,u "T_BYTE"),(1,u "T_SHORT"),(1,u "T_INT"),(1,u "T_LONG"),(1,u "SOFT_MAX_ARRAY_LENGTH")] 83

def k39m0 : Method:={ name:="<init>",desc:="()V",sig:={ parameters:=[],returnType:=none },accessFlags:=2,code:=none }
/-- jdk/internal/util/ArraysSupport -/
def k39 : Class:={ plain "jdk/internal/util/ArraysSupport" (some 0) with
  accessFlags:=33
  interfaces:=#[]
  cf:=some (fileOf pool39 21 #[] #[{ accessFlags:=2,nameIndex:=9,descriptorIndex:=19,attributes:=#[] }] 33 16 #[] #[{ accessFlags:=24,nameIndex:=28,descriptorIndex:=29,attributes:=#[] },{ accessFlags:=26,nameIndex:=38,descriptorIndex:=39,attributes:=#[] },{ accessFlags:=25,nameIndex:=121,descriptorIndex:=25,attributes:=#[] },{ accessFlags:=25,nameIndex:=131,descriptorIndex:=25,attributes:=#[] },{ accessFlags:=25,nameIndex:=137,descriptorIndex:=25,attributes:=#[] },{ accessFlags:=25,nameIndex:=143,descriptorIndex:=25,attributes:=#[] },{ accessFlags:=25,nameIndex:=53,descriptorIndex:=25,attributes:=#[] },{ accessFlags:=25,nameIndex:=24,descriptorIndex:=25,attributes:=#[] },{ accessFlags:=25,nameIndex:=162,descriptorIndex:=25,attributes:=#[] },{ accessFlags:=25,nameIndex:=187,descriptorIndex:=25,attributes:=#[] },{ accessFlags:=26,nameIndex:=48,descriptorIndex:=25,attributes:=#[] },{ accessFlags:=25,nameIndex:=277,descriptorIndex:=25,attributes:=#[] },{ accessFlags:=25,nameIndex:=280,descriptorIndex:=25,attributes:=#[] },{ accessFlags:=25,nameIndex:=282,descriptorIndex:=25,attributes:=#[] },{ accessFlags:=25,nameIndex:=284,descriptorIndex:=25,attributes:=#[] },{ accessFlags:=25,nameIndex:=286,descriptorIndex:=25,attributes:=#[] },{ accessFlags:=25,nameIndex:=288,descriptorIndex:=25,attributes:=#[] },{ accessFlags:=25,nameIndex:=290,descriptorIndex:=25,attributes:=#[] },{ accessFlags:=25,nameIndex:=292,descriptorIndex:=25,attributes:=#[] },{ accessFlags:=26,nameIndex:=108,descriptorIndex:=109,attributes:=#[] },{ accessFlags:=25,nameIndex:=294,descriptorIndex:=25,attributes:=#[] }])
  fields:=#[{ name:="U",type:=(.object "jdk/internal/misc/Unsafe"),accessFlags:=24,slot:=0,constantValue:=0 },{ name:="BIG_ENDIAN",type:=.boolean,accessFlags:=26,slot:=1,constantValue:=0 },{ name:="LOG2_ARRAY_BOOLEAN_INDEX_SCALE",type:=.int,accessFlags:=25,slot:=2,constantValue:=0 },{ name:="LOG2_ARRAY_BYTE_INDEX_SCALE",type:=.int,accessFlags:=25,slot:=3,constantValue:=0 },{ name:="LOG2_ARRAY_CHAR_INDEX_SCALE",type:=.int,accessFlags:=25,slot:=4,constantValue:=0 },{ name:="LOG2_ARRAY_SHORT_INDEX_SCALE",type:=.int,accessFlags:=25,slot:=5,constantValue:=0 },{ name:="LOG2_ARRAY_INT_INDEX_SCALE",type:=.int,accessFlags:=25,slot:=6,constantValue:=0 },{ name:="LOG2_ARRAY_LONG_INDEX_SCALE",type:=.int,accessFlags:=25,slot:=7,constantValue:=0 },{ name:="LOG2_ARRAY_FLOAT_INDEX_SCALE",type:=.int,accessFlags:=25,slot:=8,constantValue:=0 },{ name:="LOG2_ARRAY_DOUBLE_INDEX_SCALE",type:=.int,accessFlags:=25,slot:=9,constantValue:=0 },{ name:="LOG2_BYTE_BIT_SIZE",type:=.int,accessFlags:=26,slot:=10,constantValue:=0 },{ name:="T_BOOLEAN",type:=.int,accessFlags:=25,slot:=11,constantValue:=0 },{ name:="T_CHAR",type:=.int,accessFlags:=25,slot:=12,constantValue:=0 },{ name:="T_FLOAT",type:=.int,accessFlags:=25,slot:=13,constantValue:=0 },{ name:="T_DOUBLE",type:=.int,accessFlags:=25,slot:=14,constantValue:=0 },{ name:="T_BYTE",type:=.int,accessFlags:=25,slot:=15,constantValue:=0 },{ name:="T_SHORT",type:=.int,accessFlags:=25,slot:=16,constantValue:=0 },{ name:="T_INT",type:=.int,accessFlags:=25,slot:=17,constantValue:=0 },{ name:="T_LONG",type:=.int,accessFlags:=25,slot:=18,constantValue:=0 },{ name:="JLA",type:=(.object "jdk/internal/access/JavaLangAccess"),accessFlags:=26,slot:=19,constantValue:=0 },{ name:="SOFT_MAX_ARRAY_LENGTH",type:=.int,accessFlags:=25,slot:=20,constantValue:=0 }]
  methods:=#[k39m0]
  instanceTypes:=#[]
  staticTypes:=#[(.object "jdk/internal/misc/Unsafe"),.boolean,.int,.int,.int,.int,.int,.int,.int,.int,.int,.int,.int,.int,.int,.int,.int,.int,.int,(.object "jdk/internal/access/JavaLangAccess"),.int]
  resolved:=Array.replicate 378 none
  statics:=none }

/-- the primitive byte -/
def k40 : Class:={ plain "byte" none with kind:=.primitive 'B',accessFlags:=0x411 }
/-- [B -/
def k41 : Class:={ plain "[B" (some 0) with kind:=.array 40 .byte,interfaces:=#[21,6],accessFlags:=1041 }

/-- the primitive char -/
def k42 : Class:={ plain "char" none with kind:=.primitive 'C',accessFlags:=0x411 }
/-- [C -/
def k43 : Class:={ plain "[C" (some 0) with kind:=.array 42 .char,interfaces:=#[21,6],accessFlags:=1041 }

/-- the primitive int -/
def k44 : Class:={ plain "int" none with kind:=.primitive 'I',accessFlags:=0x411 }
/-- [I -/
def k45 : Class:={ plain "[I" (some 0) with kind:=.array 44 .int,interfaces:=#[21,6],accessFlags:=1041 }

/-- [Ljava/lang/Object; -/
def k46 : Class:={ plain "[Ljava/lang/Object;" (some 0) with kind:=.array 0 (.object "java/lang/Object"),interfaces:=#[21,6],accessFlags:=1041 }

/-- [Ljava/lang/String; -/
def k47 : Class:={ plain "[Ljava/lang/String;" (some 0) with kind:=.array 11 (.object "java/lang/String"),interfaces:=#[21,6],accessFlags:=1041 }

def heap : Heap:=#[{ cls:=11,slots:=#[.long 0,.int 1,.null,.int 0,.null,.int 0,.int 0],vm:=.statics 11 },
  { cls:=15,slots:=#[.null,.null,.ref 11,.null,.null,.null],vm:=.statics 15 },
  { cls:=19,slots:=#[.ref 11,.null],vm:=.statics 19 },
  { cls:=22,slots:=#[.int 0,.int 8,.int 0,.int 1],vm:=.statics 22 },
  { cls:=25,slots:=#[.int 0,.int 0,.null,.null,.ref 9,.ref 8,.int 0,.int 0,.long 0],vm:=.statics 25 },
  { cls:=30,slots:=#[.long 0,.int 0,.null,.null,.ref 10,.null,.null,.null,.int 0,.int 0],vm:=.statics 30 },
  { cls:=32,slots:=#[.null,.null,.null],vm:=.statics 32 },
  { cls:=46,slots:=#[],vm:=.none },
  { cls:=41,slots:=#[.int 48,.int 49,.int 50,.int 51,.int 52,.int 53,.int 54,.int 55,.int 56,.int 57,.int 48,.int 49,.int 50,.int 51,.int 52,.int 53,.int 54,.int 55,.int 56,.int 57,.int 48,.int 49,.int 50,.int 51,.int 52,.int 53,.int 54,.int 55,.int 56,.int 57,.int 48,.int 49,.int 50,.int 51,.int 52,.int 53,.int 54,.int 55,.int 56,.int 57,.int 48,.int 49,.int 50,.int 51,.int 52,.int 53,.int 54,.int 55,.int 56,.int 57,.int 48,.int 49,.int 50,.int 51,.int 52,.int 53,.int 54,.int 55,.int 56,.int 57,.int 48,.int 49,.int 50,.int 51,.int 52,.int 53,.int 54,.int 55,.int 56,.int 57,.int 48,.int 49,.int 50,.int 51,.int 52,.int 53,.int 54,.int 55,.int 56,.int 57,.int 48,.int 49,.int 50,.int 51,.int 52,.int 53,.int 54,.int 55,.int 56,.int 57,.int 48,.int 49,.int 50,.int 51,.int 52,.int 53,.int 54,.int 55,.int 56,.int 57],vm:=.none },
  { cls:=41,slots:=#[.int 48,.int 48,.int 48,.int 48,.int 48,.int 48,.int 48,.int 48,.int 48,.int 48,.int 49,.int 49,.int 49,.int 49,.int 49,.int 49,.int 49,.int 49,.int 49,.int 49,.int 50,.int 50,.int 50,.int 50,.int 50,.int 50,.int 50,.int 50,.int 50,.int 50,.int 51,.int 51,.int 51,.int 51,.int 51,.int 51,.int 51,.int 51,.int 51,.int 51,.int 52,.int 52,.int 52,.int 52,.int 52,.int 52,.int 52,.int 52,.int 52,.int 52,.int 53,.int 53,.int 53,.int 53,.int 53,.int 53,.int 53,.int 53,.int 53,.int 53,.int 54,.int 54,.int 54,.int 54,.int 54,.int 54,.int 54,.int 54,.int 54,.int 54,.int 55,.int 55,.int 55,.int 55,.int 55,.int 55,.int 55,.int 55,.int 55,.int 55,.int 56,.int 56,.int 56,.int 56,.int 56,.int 56,.int 56,.int 56,.int 56,.int 56,.int 57,.int 57,.int 57,.int 57,.int 57,.int 57,.int 57,.int 57,.int 57,.int 57],vm:=.none },
  { cls:=37,slots:=#[.ref 7,.int 0],vm:=.none },
  { cls:=19,slots:=#[.null,.null,.null],vm:=.none }]
def classes : Array Class:=#[k0,k1,k2,k3,k4,k5,k6,k7,k8,k9,k10,k11,k12,k13,k14,k15,k16,k17,k18,k19,k20,k21,k22,k23,k24,k25,k26,k27,k28,k29,k30,k31,k32,k33,k34,k35,k36,k37,k38,k39,k40,k41,k42,k43,k44,k45,k46,k47]
def interned : List (Array UInt16 × Addr):=[]
def slotsUsed : Nat:=246
def theMethod : MethodId:=⟨1,5⟩
def args0 : Array Value:=#[.int 5,.int 5,.int 5,.int 5]
def aboutOver (below:List Frame) : State where
  vm:={ classes:=classes,interned:=interned.toArray }
  heap:=heap
  slotsUsed:=slotsUsed
  threads:=#[{ frames:=.invoking theMethod args0 :: below }]
def below0 : List Frame:=[.native { method:=⟨0,0⟩,args:=#[] }]
def about1 : State:=aboutOver below0
def p0 : Program:=.bare "" "" ""
def e0 : Env:=launch0.env 0 0 0
theorem w_frames : about1.frames = Frame.invoking theMethod args0 :: below0:=rfl
set_option maxRecDepth 65536 in
theorem w_args : argsFit about1.vm theMethod args0 = true:=by decide +kernel
set_option maxRecDepth 65536 in
theorem w_heap : heapFits about1 = true:=by decide +kernel
set_option maxRecDepth 65536 in
theorem w_runnable : about1.curStatus? = some .runnable:=by decide +kernel
set_option maxRecDepth 65536 in
theorem w_alone : about1.alone = true:=by decide +kernel
set_option maxRecDepth 65536 in
theorem w_named : about1.methodNamed? x = some theMethod:=by decide +kernel
set_option maxRecDepth 65536 in
theorem w_hears : about1.hears theMethod below0 = true:=by decide +kernel
set_option maxRecDepth 65536 in
theorem w_ripe : about1.ripe theMethod args0 below0 = true:=by decide +kernel
theorem w_running : about1.status = .running:=rfl
set_option maxRecDepth 65536 in
theorem w_room : about1.hasRoom e0.platform room_1 = true :=
  launch0.hasRoom_least _ room_1 (by decide +kernel) (by decide +kernel) (by decide +kernel) (by decide +kernel) (by decide +kernel) (by decide +kernel)
theorem allAtoms_all (ts:List Jvm.Cond) (a:Array Jvm.Value) (st:Jvm.State) : (allAtoms ts).before a st = ts.all (fun c=>c.before a st):=by
  induction ts with
  | nil=>rfl
  | cons c t ih =>
    show (Jvm.Cond.and c (allAtoms t)).before a st = _
    rw [Jvm.Cond.before_and,ih,List.all_cons]
def words1 : List Jvm.Cond:=Jvm.Cond.code x code maxLocals ret :: tables_1
/-- a 'code' word,met by the world's own term for the bytes: nothing is compared byte by byte -/
theorem code_word {y:MethodName} {bytes:ByteArray} {mx:Nat} {rt:Option FieldType} {a:Array Value} {s:State} {m:MethodId} {meth:Method} {c:Code} (h1:s.methodNamed? y = some m) (h2:s.vm.method? m = some meth) (h3:meth.code = some c) (h4:c.code = bytes)
    (h5:(c.maxLocals == mx && c.exceptionTable.isEmpty && decide (c.maxStack≤mostOperands) && decide (meth.sig.returnType = rt) && !meth.locks && decide (parseMethodDescriptor y.desc = some meth.sig)) = true) : (Jvm.Cond.code y bytes mx rt).before a s = true:=by
  simp only [Bool.and_eq_true,beq_iff_eq,Bool.not_eq_true',decide_eq_true_eq] at h5
  obtain ⟨⟨⟨⟨⟨g1,g2⟩,g3⟩,g4⟩,g5⟩,g6⟩:=h5
  simp [Cond.before,Cond.holds,Cond.value,h1,h2,h3,h4,g1,g2,g3,g4,g5,g6]
def isCode : Jvm.Cond→Bool
  | .code _ _ _ _=>true
  | _=>false
theorem all_split {L:List Jvm.Cond} {P:Jvm.Cond→Bool} (h1:L.all (fun c=>isCode c || P c) = true) (h2:∀ c∈L.filter isCode,P c = true) : L.all P = true:=by
  refine List.all_eq_true.mpr fun c hc=>?_
  have h:=List.all_eq_true.mp h1 c hc
  rcases Bool.eq_false_or_eq_true (isCode c) with hi | hi
  · exact h2 c (List.mem_filter.mpr ⟨hc,hi⟩)
  · simpa [hi] using h
set_option maxRecDepth 65536 in
theorem w_c0 : (Jvm.Cond.code x code maxLocals ret).before args0 about1 = true:=code_word (m:=⟨1,5⟩) (meth:=k1m5) (c:=k1c5) (by decide +kernel) rfl rfl rfl (by decide +kernel)
set_option maxRecDepth 65536 in
theorem w_c1 : (Jvm.Cond.code ({ cls:="com/example/sluse/sluse/TextExposition",name:="<init>",desc:="()V" } : Jvm.MethodName) prog_24_method_1_code (1:Nat) (Option.none : Option Jvm.ClassFile.FieldType)).before args0 about1 = true:=code_word (m:=⟨2,0⟩) (meth:=k2m0) (c:=k2c0) (by decide +kernel) rfl rfl rfl (by decide +kernel)
set_option maxRecDepth 65536 in
theorem w_c2 : (Jvm.Cond.code ({ cls:="java/lang/Object",name:="<init>",desc:="()V" } : Jvm.MethodName) object_method_1_code (1:Nat) (Option.none : Option Jvm.ClassFile.FieldType)).before args0 about1 = true:=code_word (m:=⟨0,0⟩) (meth:=k0m0) (c:=k0c0) (by decide +kernel) rfl rfl rfl (by decide +kernel)
set_option maxRecDepth 65536 in
theorem w_c3 : (Jvm.Cond.code ({ cls:="java/lang/StringBuilder",name:="<init>",desc:="()V" } : Jvm.MethodName) jdk_67_method_1_code (1:Nat) (Option.none : Option Jvm.ClassFile.FieldType)).before args0 about1 = true:=code_word (m:=⟨8,0⟩) (meth:=k8m0) (c:=k8c0) (by decide +kernel) rfl rfl rfl (by decide +kernel)
set_option maxRecDepth 65536 in
theorem w_c4 : (Jvm.Cond.code ({ cls:="java/lang/AbstractStringBuilder",name:="<init>",desc:="(I)V" } : Jvm.MethodName) jdk_68_method_2_code (2:Nat) (Option.none : Option Jvm.ClassFile.FieldType)).before args0 about1 = true:=code_word (m:=⟨5,1⟩) (meth:=k5m1) (c:=k5c1) (by decide +kernel) rfl rfl rfl (by decide +kernel)
set_option maxRecDepth 65536 in
theorem w_c5 : (Jvm.Cond.code ({ cls:="com/example/sluse/sluse/TextExposition",name:="bytes",desc:="()[B" } : Jvm.MethodName) prog_24_method_5_code (1:Nat) (Option.some (Jvm.ClassFile.FieldType.array Jvm.ClassFile.FieldType.byte))).before args0 about1 = true:=code_word (m:=⟨2,2⟩) (meth:=k2m2) (c:=k2c2) (by decide +kernel) rfl rfl rfl (by decide +kernel)
set_option maxRecDepth 65536 in
theorem w_c6 : (Jvm.Cond.code ({ cls:="java/lang/StringBuilder",name:="toString",desc:="()Ljava/lang/String;" } : Jvm.MethodName) jdk_67_method_42_code (1:Nat) (Option.some (Jvm.ClassFile.FieldType.object "java/lang/String"))).before args0 about1 = true:=code_word (m:=⟨8,3⟩) (meth:=k8m3) (c:=k8c3) (by decide +kernel) rfl rfl rfl (by decide +kernel)
set_option maxRecDepth 65536 in
theorem w_c7 : (Jvm.Cond.code ({ cls:="java/lang/String",name:="<init>",desc:="(Ljava/lang/StringBuilder;)V" } : Jvm.MethodName) jdk_42_method_53_code (2:Nat) (Option.none : Option Jvm.ClassFile.FieldType)).before args0 about1 = true:=code_word (m:=⟨11,5⟩) (meth:=k11m5) (c:=k11c5) (by decide +kernel) rfl rfl rfl (by decide +kernel)
set_option maxRecDepth 65536 in
theorem w_c8 : (Jvm.Cond.code ({ cls:="java/lang/String",name:="<init>",desc:="(Ljava/lang/AbstractStringBuilder;Ljava/lang/Void;)V" } : Jvm.MethodName) jdk_42_method_150_code (5:Nat) (Option.none : Option Jvm.ClassFile.FieldType)).before args0 about1 = true:=code_word (m:=⟨11,10⟩) (meth:=k11m10) (c:=k11c10) (by decide +kernel) rfl rfl rfl (by decide +kernel)
set_option maxRecDepth 65536 in
theorem w_c9 : (Jvm.Cond.code ({ cls:="java/lang/AbstractStringBuilder",name:="getValue",desc:="()[B" } : Jvm.MethodName) jdk_68_method_64_code (1:Nat) (Option.some (Jvm.ClassFile.FieldType.array Jvm.ClassFile.FieldType.byte))).before args0 about1 = true:=code_word (m:=⟨5,7⟩) (meth:=k5m7) (c:=k5c7) (by decide +kernel) rfl rfl rfl (by decide +kernel)
set_option maxRecDepth 65536 in
theorem w_c10 : (Jvm.Cond.code ({ cls:="java/lang/StringBuilder",name:="length",desc:="()I" } : Jvm.MethodName) jdk_67_method_93_code (1:Nat) (Option.some Jvm.ClassFile.FieldType.int)).before args0 about1 = true:=code_word (m:=⟨8,4⟩) (meth:=k8m4) (c:=k8c4) (by decide +kernel) rfl rfl rfl (by decide +kernel)
set_option maxRecDepth 65536 in
theorem w_c11 : (Jvm.Cond.code ({ cls:="java/lang/AbstractStringBuilder",name:="length",desc:="()I" } : Jvm.MethodName) jdk_68_method_6_code (1:Nat) (Option.some Jvm.ClassFile.FieldType.int)).before args0 about1 = true:=code_word (m:=⟨5,2⟩) (meth:=k5m2) (c:=k5c2) (by decide +kernel) rfl rfl rfl (by decide +kernel)
set_option maxRecDepth 65536 in
theorem w_c12 : (Jvm.Cond.code ({ cls:="java/lang/AbstractStringBuilder",name:="isLatin1",desc:="()Z" } : Jvm.MethodName) jdk_68_method_68_code (1:Nat) (Option.some Jvm.ClassFile.FieldType.boolean)).before args0 about1 = true:=code_word (m:=⟨5,8⟩) (meth:=k5m8) (c:=k5c8) (by decide +kernel) rfl rfl rfl (by decide +kernel)
set_option maxRecDepth 65536 in
theorem w_c13 : (Jvm.Cond.code ({ cls:="java/util/Arrays",name:="copyOfRange",desc:="([BII)[B" } : Jvm.MethodName) jdk_65_method_132_code (3:Nat) (Option.some (Jvm.ClassFile.FieldType.array Jvm.ClassFile.FieldType.byte))).before args0 about1 = true:=code_word (m:=⟨12,3⟩) (meth:=k12m3) (c:=k12c3) (by decide +kernel) rfl rfl rfl (by decide +kernel)
set_option maxRecDepth 65536 in
theorem w_c14 : (Jvm.Cond.code ({ cls:="java/util/Arrays",name:="copyOfRangeByte",desc:="([BII)[B" } : Jvm.MethodName) jdk_65_method_133_code (5:Nat) (Option.some (Jvm.ClassFile.FieldType.array Jvm.ClassFile.FieldType.byte))).before args0 about1 = true:=code_word (m:=⟨12,4⟩) (meth:=k12m4) (c:=k12c4) (by decide +kernel) rfl rfl rfl (by decide +kernel)
set_option maxRecDepth 65536 in
theorem w_c15 : (Jvm.Cond.code ({ cls:="java/util/Arrays",name:="checkLength",desc:="(II)V" } : Jvm.MethodName) jdk_65_method_131_code (2:Nat) (Option.none : Option Jvm.ClassFile.FieldType)).before args0 about1 = true:=code_word (m:=⟨12,2⟩) (meth:=k12m2) (c:=k12c2) (by decide +kernel) rfl rfl rfl (by decide +kernel)
set_option maxRecDepth 65536 in
theorem w_c16 : (Jvm.Cond.code ({ cls:="java/lang/Math",name:="min",desc:="(II)I" } : Jvm.MethodName) jdk_29_method_69_code (2:Nat) (Option.some Jvm.ClassFile.FieldType.int)).before args0 about1 = true:=code_word (m:=⟨13,1⟩) (meth:=k13m1) (c:=k13c1) (by decide +kernel) rfl rfl rfl (by decide +kernel)
set_option maxRecDepth 65536 in
theorem w_c17 : (Jvm.Cond.code ({ cls:="java/lang/String",name:="getBytes",desc:="(Ljava/nio/charset/Charset;)[B" } : Jvm.MethodName) jdk_42_method_64_code (2:Nat) (Option.some (Jvm.ClassFile.FieldType.array Jvm.ClassFile.FieldType.byte))).before args0 about1 = true:=code_word (m:=⟨11,7⟩) (meth:=k11m7) (c:=k11c7) (by decide +kernel) rfl rfl rfl (by decide +kernel)
set_option maxRecDepth 65536 in
theorem w_c18 : (Jvm.Cond.code ({ cls:="java/lang/String",name:="coder",desc:="()B" } : Jvm.MethodName) jdk_42_method_152_code (1:Nat) (Option.some Jvm.ClassFile.FieldType.byte)).before args0 about1 = true:=code_word (m:=⟨11,12⟩) (meth:=k11m12) (c:=k11c12) (by decide +kernel) rfl rfl rfl (by decide +kernel)
set_option maxRecDepth 65536 in
theorem w_c19 : (Jvm.Cond.code ({ cls:="java/lang/String",name:="encode",desc:="(Ljava/nio/charset/Charset;B[B)[B" } : Jvm.MethodName) jdk_42_method_18_code (3:Nat) (Option.some (Jvm.ClassFile.FieldType.array Jvm.ClassFile.FieldType.byte))).before args0 about1 = true:=code_word (m:=⟨11,2⟩) (meth:=k11m2) (c:=k11c2) (by decide +kernel) rfl rfl rfl (by decide +kernel)
set_option maxRecDepth 65536 in
theorem w_c20 : (Jvm.Cond.code ({ cls:="java/lang/String",name:="encodeUTF8",desc:="(B[BZ)[B" } : Jvm.MethodName) jdk_42_method_46_code (9:Nat) (Option.some (Jvm.ClassFile.FieldType.array Jvm.ClassFile.FieldType.byte))).before args0 about1 = true:=code_word (m:=⟨11,3⟩) (meth:=k11m3) (c:=k11c3) (by decide +kernel) rfl rfl rfl (by decide +kernel)
set_option maxRecDepth 65536 in
theorem w_c21 : (Jvm.Cond.code ({ cls:="java/lang/StringCoding",name:="hasNegatives",desc:="([BII)Z" } : Jvm.MethodName) jdk_123_method_2_code (3:Nat) (Option.some Jvm.ClassFile.FieldType.boolean)).before args0 about1 = true:=code_word (m:=⟨20,1⟩) (meth:=k20m1) (c:=k20c1) (by decide +kernel) rfl rfl rfl (by decide +kernel)
set_option maxRecDepth 65536 in
theorem w_c22 : (Jvm.Cond.code ({ cls:="java/lang/StringCoding",name:="countPositives",desc:="([BII)I" } : Jvm.MethodName) jdk_123_method_3_code (5:Nat) (Option.some Jvm.ClassFile.FieldType.int)).before args0 about1 = true:=code_word (m:=⟨20,2⟩) (meth:=k20m2) (c:=k20c2) (by decide +kernel) rfl rfl rfl (by decide +kernel)
set_option maxRecDepth 65536 in
theorem w_c23 : (Jvm.Cond.code ({ cls:="java/lang/String",name:="<init>",desc:="([C)V" } : Jvm.MethodName) jdk_42_method_3_code (2:Nat) (Option.none : Option Jvm.ClassFile.FieldType)).before args0 about1 = true:=code_word (m:=⟨11,1⟩) (meth:=k11m1) (c:=k11c1) (by decide +kernel) rfl rfl rfl (by decide +kernel)
set_option maxRecDepth 65536 in
theorem w_c24 : (Jvm.Cond.code ({ cls:="java/lang/String",name:="<init>",desc:="([CIILjava/lang/Void;)V" } : Jvm.MethodName) jdk_42_method_149_code (6:Nat) (Option.none : Option Jvm.ClassFile.FieldType)).before args0 about1 = true:=code_word (m:=⟨11,9⟩) (meth:=k11m9) (c:=k11c9) (by decide +kernel) rfl rfl rfl (by decide +kernel)
set_option maxRecDepth 65536 in
theorem w_c25 : (Jvm.Cond.code ({ cls:="java/lang/StringUTF16",name:="compress",desc:="([CII)[B" } : Jvm.MethodName) jdk_52_method_16_code (6:Nat) (Option.some (Jvm.ClassFile.FieldType.array Jvm.ClassFile.FieldType.byte))).before args0 about1 = true:=code_word (m:=⟨22,8⟩) (meth:=k22m8) (c:=k22c8) (by decide +kernel) rfl rfl rfl (by decide +kernel)
set_option maxRecDepth 65536 in
theorem w_c26 : (Jvm.Cond.code ({ cls:="java/lang/StringUTF16",name:="compress",desc:="([CI[BII)I" } : Jvm.MethodName) jdk_52_method_21_code (7:Nat) (Option.some Jvm.ClassFile.FieldType.int)).before args0 about1 = true:=code_word (m:=⟨22,9⟩) (meth:=k22m9) (c:=k22c9) (by decide +kernel) rfl rfl rfl (by decide +kernel)
set_option maxRecDepth 65536 in
theorem w_c27 : (Jvm.Cond.code ({ cls:="java/lang/StringUTF16",name:="toBytes",desc:="([CII)[B" } : Jvm.MethodName) jdk_52_method_14_code (5:Nat) (Option.some (Jvm.ClassFile.FieldType.array Jvm.ClassFile.FieldType.byte))).before args0 about1 = true:=code_word (m:=⟨22,6⟩) (meth:=k22m6) (c:=k22c6) (by decide +kernel) rfl rfl rfl (by decide +kernel)
set_option maxRecDepth 65536 in
theorem w_c28 : (Jvm.Cond.code ({ cls:="java/lang/StringUTF16",name:="newBytesFor",desc:="(I)[B" } : Jvm.MethodName) jdk_52_method_2_code (1:Nat) (Option.some (Jvm.ClassFile.FieldType.array Jvm.ClassFile.FieldType.byte))).before args0 about1 = true:=code_word (m:=⟨22,1⟩) (meth:=k22m1) (c:=k22c1) (by decide +kernel) rfl rfl rfl (by decide +kernel)
set_option maxRecDepth 65536 in
theorem w_c29 : (Jvm.Cond.code ({ cls:="java/lang/StringUTF16",name:="newBytesLength",desc:="(I)I" } : Jvm.MethodName) jdk_52_method_3_code (1:Nat) (Option.some Jvm.ClassFile.FieldType.int)).before args0 about1 = true:=code_word (m:=⟨22,2⟩) (meth:=k22m2) (c:=k22c2) (by decide +kernel) rfl rfl rfl (by decide +kernel)
set_option maxRecDepth 65536 in
theorem w_c30 : (Jvm.Cond.code ({ cls:="java/lang/StringUTF16",name:="putChar",desc:="([BII)V" } : Jvm.MethodName) jdk_52_method_4_code (3:Nat) (Option.none : Option Jvm.ClassFile.FieldType)).before args0 about1 = true:=code_word (m:=⟨22,3⟩) (meth:=k22m3) (c:=k22c3) (by decide +kernel) rfl rfl rfl (by decide +kernel)
set_option maxRecDepth 65536 in
theorem w_c31 : (Jvm.Cond.code ({ cls:="java/lang/StringUTF16",name:="getChar",desc:="([BI)C" } : Jvm.MethodName) jdk_52_method_5_code (2:Nat) (Option.some Jvm.ClassFile.FieldType.char)).before args0 about1 = true:=code_word (m:=⟨22,4⟩) (meth:=k22m4) (c:=k22c4) (by decide +kernel) rfl rfl rfl (by decide +kernel)
set_option maxRecDepth 65536 in
theorem w_c32 : (Jvm.Cond.code ({ cls:="java/lang/StringUTF16",name:="coderFromArrayLen",desc:="([BI)B" } : Jvm.MethodName) jdk_52_method_15_code (2:Nat) (Option.some Jvm.ClassFile.FieldType.byte)).before args0 about1 = true:=code_word (m:=⟨22,7⟩) (meth:=k22m7) (c:=k22c7) (by decide +kernel) rfl rfl rfl (by decide +kernel)
set_option maxRecDepth 65536 in
theorem w_c33 : (Jvm.Cond.code ({ cls:="com/example/sluse/sluse/TextExposition",name:="sample",desc:="(Ljava/lang/String;J[Ljava/lang/String;)V" } : Jvm.MethodName) prog_24_method_3_code (5:Nat) (Option.none : Option Jvm.ClassFile.FieldType)).before args0 about1 = true:=code_word (m:=⟨2,1⟩) (meth:=k2m1) (c:=k2c1) (by decide +kernel) rfl rfl rfl (by decide +kernel)
set_option maxRecDepth 65536 in
theorem w_c34 : (Jvm.Cond.code ({ cls:="java/lang/Long",name:="toString",desc:="(J)Ljava/lang/String;" } : Jvm.MethodName) jdk_35_method_12_code (4:Nat) (Option.some (Jvm.ClassFile.FieldType.object "java/lang/String"))).before args0 about1 = true:=code_word (m:=⟨24,0⟩) (meth:=k24m0) (c:=k24c0) (by decide +kernel) rfl rfl rfl (by decide +kernel)
set_option maxRecDepth 65536 in
theorem w_c35 : (Jvm.Cond.code ({ cls:="java/lang/Long",name:="stringSize",desc:="(J)I" } : Jvm.MethodName) jdk_35_method_15_code (6:Nat) (Option.some Jvm.ClassFile.FieldType.int)).before args0 about1 = true:=code_word (m:=⟨24,2⟩) (meth:=k24m2) (c:=k24c2) (by decide +kernel) rfl rfl rfl (by decide +kernel)
set_option maxRecDepth 65536 in
theorem w_c36 : (Jvm.Cond.code ({ cls:="java/lang/Long",name:="getChars",desc:="(JI[B)I" } : Jvm.MethodName) jdk_35_method_14_code (11:Nat) (Option.some Jvm.ClassFile.FieldType.int)).before args0 about1 = true:=code_word (m:=⟨24,1⟩) (meth:=k24m1) (c:=k24c1) (by decide +kernel) rfl rfl rfl (by decide +kernel)
set_option maxRecDepth 65536 in
theorem w_c37 : (Jvm.Cond.code ({ cls:="java/lang/String",name:="<init>",desc:="([BB)V" } : Jvm.MethodName) jdk_42_method_151_code (3:Nat) (Option.none : Option Jvm.ClassFile.FieldType)).before args0 about1 = true:=code_word (m:=⟨11,11⟩) (meth:=k11m11) (c:=k11c11) (by decide +kernel) rfl rfl rfl (by decide +kernel)
set_option maxRecDepth 65536 in
theorem w_c38 : (Jvm.Cond.code ({ cls:="java/util/List",name:="of",desc:="([Ljava/lang/Object;)Ljava/util/List;" } : Jvm.MethodName) jdk_40_method_47_code (2:Nat) (Option.some (Jvm.ClassFile.FieldType.object "java/util/List"))).before args0 about1 = true:=code_word (m:=⟨29,2⟩) (meth:=k29m2) (c:=k29c2) (by decide +kernel) rfl rfl rfl (by decide +kernel)
set_option maxRecDepth 65536 in
theorem w_c39 : (Jvm.Cond.code ({ cls:="com/example/sluse/sluse/TextExposition",name:="sample",desc:="(Ljava/lang/String;Ljava/lang/String;Ljava/util/List;)V" } : Jvm.MethodName) prog_24_method_6_code (5:Nat) (Option.none : Option Jvm.ClassFile.FieldType)).before args0 about1 = true:=code_word (m:=⟨2,3⟩) (meth:=k2m3) (c:=k2c3) (by decide +kernel) rfl rfl rfl (by decide +kernel)
set_option maxRecDepth 65536 in
theorem w_c40 : (Jvm.Cond.code ({ cls:="java/lang/StringBuilder",name:="append",desc:="(Ljava/lang/String;)Ljava/lang/StringBuilder;" } : Jvm.MethodName) jdk_67_method_7_code (2:Nat) (Option.some (Jvm.ClassFile.FieldType.object "java/lang/StringBuilder"))).before args0 about1 = true:=code_word (m:=⟨8,1⟩) (meth:=k8m1) (c:=k8c1) (by decide +kernel) rfl rfl rfl (by decide +kernel)
set_option maxRecDepth 65536 in
theorem w_c41 : (Jvm.Cond.code ({ cls:="java/lang/AbstractStringBuilder",name:="append",desc:="(Ljava/lang/String;)Ljava/lang/AbstractStringBuilder;" } : Jvm.MethodName) jdk_68_method_22_code (3:Nat) (Option.some (Jvm.ClassFile.FieldType.object "java/lang/AbstractStringBuilder"))).before args0 about1 = true:=code_word (m:=⟨5,5⟩) (meth:=k5m5) (c:=k5c5) (by decide +kernel) rfl rfl rfl (by decide +kernel)
set_option maxRecDepth 65536 in
theorem w_c42 : (Jvm.Cond.code ({ cls:="java/lang/String",name:="length",desc:="()I" } : Jvm.MethodName) jdk_42_method_54_code (1:Nat) (Option.some Jvm.ClassFile.FieldType.int)).before args0 about1 = true:=code_word (m:=⟨11,6⟩) (meth:=k11m6) (c:=k11c6) (by decide +kernel) rfl rfl rfl (by decide +kernel)
set_option maxRecDepth 65536 in
theorem w_c43 : (Jvm.Cond.code ({ cls:="java/lang/AbstractStringBuilder",name:="ensureCapacityInternal",desc:="(I)V" } : Jvm.MethodName) jdk_68_method_9_code (3:Nat) (Option.none : Option Jvm.ClassFile.FieldType)).before args0 about1 = true:=code_word (m:=⟨5,3⟩) (meth:=k5m3) (c:=k5c3) (by decide +kernel) rfl rfl rfl (by decide +kernel)
set_option maxRecDepth 65536 in
theorem w_c44 : (Jvm.Cond.code ({ cls:="java/lang/AbstractStringBuilder",name:="putStringAt",desc:="(ILjava/lang/String;)V" } : Jvm.MethodName) jdk_68_method_73_code (3:Nat) (Option.none : Option Jvm.ClassFile.FieldType)).before args0 about1 = true:=code_word (m:=⟨5,10⟩) (meth:=k5m10) (c:=k5c10) (by decide +kernel) rfl rfl rfl (by decide +kernel)
set_option maxRecDepth 65536 in
theorem w_c45 : (Jvm.Cond.code ({ cls:="java/lang/AbstractStringBuilder",name:="inflateIfNeededFor",desc:="(Ljava/lang/String;)V" } : Jvm.MethodName) jdk_68_method_71_code (2:Nat) (Option.none : Option Jvm.ClassFile.FieldType)).before args0 about1 = true:=code_word (m:=⟨5,9⟩) (meth:=k5m9) (c:=k5c9) (by decide +kernel) rfl rfl rfl (by decide +kernel)
set_option maxRecDepth 65536 in
theorem w_c46 : (Jvm.Cond.code ({ cls:="java/lang/AbstractStringBuilder",name:="inflate",desc:="()V" } : Jvm.MethodName) jdk_68_method_11_code (2:Nat) (Option.none : Option Jvm.ClassFile.FieldType)).before args0 about1 = true:=code_word (m:=⟨5,4⟩) (meth:=k5m4) (c:=k5c4) (by decide +kernel) rfl rfl rfl (by decide +kernel)
set_option maxRecDepth 65536 in
theorem w_c47 : (Jvm.Cond.code ({ cls:="java/lang/StringLatin1",name:="inflate",desc:="([BI[BII)V" } : Jvm.MethodName) jdk_43_method_50_code (5:Nat) (Option.none : Option Jvm.ClassFile.FieldType)).before args0 about1 = true:=code_word (m:=⟨31,2⟩) (meth:=k31m2) (c:=k31c2) (by decide +kernel) rfl rfl rfl (by decide +kernel)
set_option maxRecDepth 65536 in
theorem w_c48 : (Jvm.Cond.code ({ cls:="java/lang/StringUTF16",name:="inflate",desc:="([BI[BII)V" } : Jvm.MethodName) jdk_52_method_86_code (6:Nat) (Option.none : Option Jvm.ClassFile.FieldType)).before args0 about1 = true:=code_word (m:=⟨22,11⟩) (meth:=k22m11) (c:=k22c11) (by decide +kernel) rfl rfl rfl (by decide +kernel)
set_option maxRecDepth 65536 in
theorem w_c49 : (Jvm.Cond.code ({ cls:="java/lang/StringUTF16",name:="checkBoundsOffCount",desc:="(II[B)V" } : Jvm.MethodName) jdk_52_method_94_code (3:Nat) (Option.none : Option Jvm.ClassFile.FieldType)).before args0 about1 = true:=code_word (m:=⟨22,13⟩) (meth:=k22m13) (c:=k22c13) (by decide +kernel) rfl rfl rfl (by decide +kernel)
set_option maxRecDepth 65536 in
theorem w_c50 : (Jvm.Cond.code ({ cls:="java/lang/StringUTF16",name:="length",desc:="([B)I" } : Jvm.MethodName) jdk_52_method_6_code (1:Nat) (Option.some Jvm.ClassFile.FieldType.int)).before args0 about1 = true:=code_word (m:=⟨22,5⟩) (meth:=k22m5) (c:=k22c5) (by decide +kernel) rfl rfl rfl (by decide +kernel)
set_option maxRecDepth 65536 in
theorem w_c51 : (Jvm.Cond.code ({ cls:="java/lang/String",name:="checkBoundsOffCount",desc:="(III)I" } : Jvm.MethodName) jdk_42_method_157_code (3:Nat) (Option.some Jvm.ClassFile.FieldType.int)).before args0 about1 = true:=code_word (m:=⟨11,14⟩) (meth:=k11m14) (c:=k11c14) (by decide +kernel) rfl rfl rfl (by decide +kernel)
set_option maxRecDepth 65536 in
theorem w_c52 : (Jvm.Cond.code ({ cls:="jdk/internal/util/Preconditions",name:="checkFromIndexSize",desc:="(IIILjava/util/function/BiFunction;)I" } : Jvm.MethodName) jdk_41_method_13_code (4:Nat) (Option.some Jvm.ClassFile.FieldType.int)).before args0 about1 = true:=code_word (m:=⟨32,2⟩) (meth:=k32m2) (c:=k32c2) (by decide +kernel) rfl rfl rfl (by decide +kernel)
set_option maxRecDepth 65536 in
theorem w_c53 : (Jvm.Cond.code ({ cls:="java/lang/String",name:="getBytes",desc:="([BIB)V" } : Jvm.MethodName) jdk_42_method_147_code (4:Nat) (Option.none : Option Jvm.ClassFile.FieldType)).before args0 about1 = true:=code_word (m:=⟨11,8⟩) (meth:=k11m8) (c:=k11c8) (by decide +kernel) rfl rfl rfl (by decide +kernel)
set_option maxRecDepth 65536 in
theorem w_c54 : (Jvm.Cond.code ({ cls:="java/util/ImmutableCollections$ListN",name:="size",desc:="()I" } : Jvm.MethodName) jdk_45_method_3_code (1:Nat) (Option.some Jvm.ClassFile.FieldType.int)).before args0 about1 = true:=code_word (m:=⟨37,1⟩) (meth:=k37m1) (c:=k37c1) (by decide +kernel) rfl rfl rfl (by decide +kernel)
set_option maxRecDepth 65536 in
theorem w_c55 : (Jvm.Cond.code ({ cls:="java/util/ImmutableCollections$ListN",name:="isEmpty",desc:="()Z" } : Jvm.MethodName) jdk_45_method_2_code (1:Nat) (Option.some Jvm.ClassFile.FieldType.boolean)).before args0 about1 = true:=code_word (m:=⟨37,0⟩) (meth:=k37m0) (c:=k37c0) (by decide +kernel) rfl rfl rfl (by decide +kernel)
set_option maxRecDepth 65536 in
theorem w_c56 : (Jvm.Cond.code ({ cls:="java/lang/StringBuilder",name:="append",desc:="(C)Ljava/lang/StringBuilder;" } : Jvm.MethodName) jdk_67_method_14_code (2:Nat) (Option.some (Jvm.ClassFile.FieldType.object "java/lang/StringBuilder"))).before args0 about1 = true:=code_word (m:=⟨8,2⟩) (meth:=k8m2) (c:=k8c2) (by decide +kernel) rfl rfl rfl (by decide +kernel)
set_option maxRecDepth 65536 in
theorem w_c57 : (Jvm.Cond.code ({ cls:="java/lang/AbstractStringBuilder",name:="append",desc:="(C)Ljava/lang/AbstractStringBuilder;" } : Jvm.MethodName) jdk_68_method_31_code (2:Nat) (Option.some (Jvm.ClassFile.FieldType.object "java/lang/AbstractStringBuilder"))).before args0 about1 = true:=code_word (m:=⟨5,6⟩) (meth:=k5m6) (c:=k5c6) (by decide +kernel) rfl rfl rfl (by decide +kernel)
set_option maxRecDepth 65536 in
theorem w_c58 : (Jvm.Cond.code ({ cls:="java/lang/StringUTF16",name:="putCharSB",desc:="([BII)V" } : Jvm.MethodName) jdk_52_method_71_code (3:Nat) (Option.none : Option Jvm.ClassFile.FieldType)).before args0 about1 = true:=code_word (m:=⟨22,10⟩) (meth:=k22m10) (c:=k22c10) (by decide +kernel) rfl rfl rfl (by decide +kernel)
set_option maxRecDepth 65536 in
theorem w_c59 : (Jvm.Cond.code ({ cls:="java/lang/StringUTF16",name:="checkIndex",desc:="(I[B)V" } : Jvm.MethodName) jdk_52_method_91_code (2:Nat) (Option.none : Option Jvm.ClassFile.FieldType)).before args0 about1 = true:=code_word (m:=⟨22,12⟩) (meth:=k22m12) (c:=k22c12) (by decide +kernel) rfl rfl rfl (by decide +kernel)
set_option maxRecDepth 65536 in
theorem w_c60 : (Jvm.Cond.code ({ cls:="java/lang/String",name:="checkIndex",desc:="(II)V" } : Jvm.MethodName) jdk_42_method_155_code (2:Nat) (Option.none : Option Jvm.ClassFile.FieldType)).before args0 about1 = true:=code_word (m:=⟨11,13⟩) (meth:=k11m13) (c:=k11c13) (by decide +kernel) rfl rfl rfl (by decide +kernel)
set_option maxRecDepth 65536 in
theorem w_c61 : (Jvm.Cond.code ({ cls:="jdk/internal/util/Preconditions",name:="checkIndex",desc:="(IILjava/util/function/BiFunction;)I" } : Jvm.MethodName) jdk_41_method_11_code (3:Nat) (Option.some Jvm.ClassFile.FieldType.int)).before args0 about1 = true:=code_word (m:=⟨32,1⟩) (meth:=k32m1) (c:=k32c1) (by decide +kernel) rfl rfl rfl (by decide +kernel)
set_option maxRecDepth 65536 in
theorem w_c62 : (Jvm.Cond.code ({ cls:="java/lang/String",name:="encodeUTF8_UTF16",desc:="([BZ)[B" } : Jvm.MethodName) jdk_42_method_47_code (9:Nat) (Option.some (Jvm.ClassFile.FieldType.array Jvm.ClassFile.FieldType.byte))).before args0 about1 = true:=code_word (m:=⟨11,4⟩) (meth:=k11m4) (c:=k11c4) (by decide +kernel) rfl rfl rfl (by decide +kernel)
set_option maxRecDepth 65536 in
theorem w_c63 : (Jvm.Cond.code ({ cls:="java/lang/Character",name:="isSurrogate",desc:="(C)Z" } : Jvm.MethodName) jdk_89_method_16_code (1:Nat) (Option.some Jvm.ClassFile.FieldType.boolean)).before args0 about1 = true:=code_word (m:=⟨38,2⟩) (meth:=k38m2) (c:=k38c2) (by decide +kernel) rfl rfl rfl (by decide +kernel)
set_option maxRecDepth 65536 in
theorem w_c64 : (Jvm.Cond.code ({ cls:="java/lang/Character",name:="isHighSurrogate",desc:="(C)Z" } : Jvm.MethodName) jdk_89_method_14_code (1:Nat) (Option.some Jvm.ClassFile.FieldType.boolean)).before args0 about1 = true:=code_word (m:=⟨38,0⟩) (meth:=k38m0) (c:=k38c0) (by decide +kernel) rfl rfl rfl (by decide +kernel)
set_option maxRecDepth 65536 in
theorem w_c65 : (Jvm.Cond.code ({ cls:="java/lang/Character",name:="isLowSurrogate",desc:="(C)Z" } : Jvm.MethodName) jdk_89_method_15_code (1:Nat) (Option.some Jvm.ClassFile.FieldType.boolean)).before args0 about1 = true:=code_word (m:=⟨38,1⟩) (meth:=k38m1) (c:=k38c1) (by decide +kernel) rfl rfl rfl (by decide +kernel)
set_option maxRecDepth 65536 in
theorem w_c66 : (Jvm.Cond.code ({ cls:="java/lang/Character",name:="toCodePoint",desc:="(CC)I" } : Jvm.MethodName) jdk_89_method_19_code (2:Nat) (Option.some Jvm.ClassFile.FieldType.int)).before args0 about1 = true:=code_word (m:=⟨38,3⟩) (meth:=k38m3) (c:=k38c3) (by decide +kernel) rfl rfl rfl (by decide +kernel)
set_option maxRecDepth 65536 in
theorem w_c67 : (Jvm.Cond.code ({ cls:="java/util/Arrays",name:="copyOf",desc:="([BI)[B" } : Jvm.MethodName) jdk_65_method_121_code (3:Nat) (Option.some (Jvm.ClassFile.FieldType.array Jvm.ClassFile.FieldType.byte))).before args0 about1 = true:=code_word (m:=⟨12,1⟩) (meth:=k12m1) (c:=k12c1) (by decide +kernel) rfl rfl rfl (by decide +kernel)
set_option maxRecDepth 65536 in
theorem w_c68 : (Jvm.Cond.code ({ cls:="com/example/sluse/sluse/TextExpositionBytesPinLaw",name:="same",desc:="([B[BI)Z" } : Jvm.MethodName) method_5_code (3:Nat) (Option.some Jvm.ClassFile.FieldType.boolean)).before args0 about1 = true:=code_word (m:=⟨1,4⟩) (meth:=k1m4) (c:=k1c4) (by decide +kernel) rfl rfl rfl (by decide +kernel)
set_option maxRecDepth 65536 in
theorem w_c69 : (Jvm.Cond.code ({ cls:="com/example/sluse/sluse/TextExpositionBytesPinLaw",name:="at",desc:="([B[BII)Z" } : Jvm.MethodName) method_4_code (4:Nat) (Option.some Jvm.ClassFile.FieldType.boolean)).before args0 about1 = true:=code_word (m:=⟨1,3⟩) (meth:=k1m3) (c:=k1c3) (by decide +kernel) rfl rfl rfl (by decide +kernel)
set_option maxRecDepth 65536 in
theorem w_c70 : (Jvm.Cond.code ({ cls:="com/example/sluse/sluse/TextExpositionBytesPinLaw",name:="plain",desc:="(I)I" } : Jvm.MethodName) method_2_code (1:Nat) (Option.some Jvm.ClassFile.FieldType.int)).before args0 about1 = true:=code_word (m:=⟨1,1⟩) (meth:=k1m1) (c:=k1c1) (by decide +kernel) rfl rfl rfl (by decide +kernel)
set_option maxRecDepth 65536 in
theorem w_c71 : (Jvm.Cond.code ({ cls:="com/example/sluse/sluse/TextExpositionBytesPinLaw",name:="put",desc:="([BII)I" } : Jvm.MethodName) method_3_code (3:Nat) (Option.some Jvm.ClassFile.FieldType.int)).before args0 about1 = true:=code_word (m:=⟨1,2⟩) (meth:=k1m2) (c:=k1c2) (by decide +kernel) rfl rfl rfl (by decide +kernel)
set_option maxRecDepth 65536 in
theorem w_c72 : (Jvm.Cond.code ({ cls:="java/lang/StringLatin1",name:="canEncode",desc:="(C)Z" } : Jvm.MethodName) jdk_43_method_3_code (1:Nat) (Option.some Jvm.ClassFile.FieldType.boolean)).before args0 about1 = true:=code_word (m:=⟨31,1⟩) (meth:=k31m1) (c:=k31c1) (by decide +kernel) rfl rfl rfl (by decide +kernel)
def codes1 : List Jvm.Cond:=[Jvm.Cond.code x code maxLocals ret,Jvm.Cond.code ({ cls:="com/example/sluse/sluse/TextExposition",name:="<init>",desc:="()V" } : Jvm.MethodName) prog_24_method_1_code (1:Nat) (Option.none : Option Jvm.ClassFile.FieldType),Jvm.Cond.code ({ cls:="java/lang/Object",name:="<init>",desc:="()V" } : Jvm.MethodName) object_method_1_code (1:Nat) (Option.none : Option Jvm.ClassFile.FieldType),Jvm.Cond.code ({ cls:="java/lang/StringBuilder",name:="<init>",desc:="()V" } : Jvm.MethodName) jdk_67_method_1_code (1:Nat) (Option.none : Option Jvm.ClassFile.FieldType),Jvm.Cond.code ({ cls:="java/lang/AbstractStringBuilder",name:="<init>",desc:="(I)V" } : Jvm.MethodName) jdk_68_method_2_code (2:Nat) (Option.none : Option Jvm.ClassFile.FieldType),Jvm.Cond.code ({ cls:="com/example/sluse/sluse/TextExposition",name:="bytes",desc:="()[B" } : Jvm.MethodName) prog_24_method_5_code (1:Nat) (Option.some (Jvm.ClassFile.FieldType.array Jvm.ClassFile.FieldType.byte)),Jvm.Cond.code ({ cls:="java/lang/StringBuilder",name:="toString",desc:="()Ljava/lang/String;" } : Jvm.MethodName) jdk_67_method_42_code (1:Nat) (Option.some (Jvm.ClassFile.FieldType.object "java/lang/String")),Jvm.Cond.code ({ cls:="java/lang/String",name:="<init>",desc:="(Ljava/lang/StringBuilder;)V" } : Jvm.MethodName) jdk_42_method_53_code (2:Nat) (Option.none : Option Jvm.ClassFile.FieldType),Jvm.Cond.code ({ cls:="java/lang/String",name:="<init>",desc:="(Ljava/lang/AbstractStringBuilder;Ljava/lang/Void;)V" } : Jvm.MethodName) jdk_42_method_150_code (5:Nat) (Option.none : Option Jvm.ClassFile.FieldType),Jvm.Cond.code ({ cls:="java/lang/AbstractStringBuilder",name:="getValue",desc:="()[B" } : Jvm.MethodName) jdk_68_method_64_code (1:Nat) (Option.some (Jvm.ClassFile.FieldType.array Jvm.ClassFile.FieldType.byte)),Jvm.Cond.code ({ cls:="java/lang/StringBuilder",name:="length",desc:="()I" } : Jvm.MethodName) jdk_67_method_93_code (1:Nat) (Option.some Jvm.ClassFile.FieldType.int),Jvm.Cond.code ({ cls:="java/lang/AbstractStringBuilder",name:="length",desc:="()I" } : Jvm.MethodName) jdk_68_method_6_code (1:Nat) (Option.some Jvm.ClassFile.FieldType.int),Jvm.Cond.code ({ cls:="java/lang/AbstractStringBuilder",name:="isLatin1",desc:="()Z" } : Jvm.MethodName) jdk_68_method_68_code (1:Nat) (Option.some Jvm.ClassFile.FieldType.boolean),Jvm.Cond.code ({ cls:="java/util/Arrays",name:="copyOfRange",desc:="([BII)[B" } : Jvm.MethodName) jdk_65_method_132_code (3:Nat) (Option.some (Jvm.ClassFile.FieldType.array Jvm.ClassFile.FieldType.byte)),Jvm.Cond.code ({ cls:="java/util/Arrays",name:="copyOfRangeByte",desc:="([BII)[B" } : Jvm.MethodName) jdk_65_method_133_code (5:Nat) (Option.some (Jvm.ClassFile.FieldType.array Jvm.ClassFile.FieldType.byte)),Jvm.Cond.code ({ cls:="java/util/Arrays",name:="checkLength",desc:="(II)V" } : Jvm.MethodName) jdk_65_method_131_code (2:Nat) (Option.none : Option Jvm.ClassFile.FieldType),Jvm.Cond.code ({ cls:="java/lang/Math",name:="min",desc:="(II)I" } : Jvm.MethodName) jdk_29_method_69_code (2:Nat) (Option.some Jvm.ClassFile.FieldType.int),Jvm.Cond.code ({ cls:="java/lang/String",name:="getBytes",desc:="(Ljava/nio/charset/Charset;)[B" } : Jvm.MethodName) jdk_42_method_64_code (2:Nat) (Option.some (Jvm.ClassFile.FieldType.array Jvm.ClassFile.FieldType.byte)),Jvm.Cond.code ({ cls:="java/lang/String",name:="coder",desc:="()B" } : Jvm.MethodName) jdk_42_method_152_code (1:Nat) (Option.some Jvm.ClassFile.FieldType.byte),Jvm.Cond.code ({ cls:="java/lang/String",name:="encode",desc:="(Ljava/nio/charset/Charset;B[B)[B" } : Jvm.MethodName) jdk_42_method_18_code (3:Nat) (Option.some (Jvm.ClassFile.FieldType.array Jvm.ClassFile.FieldType.byte)),Jvm.Cond.code ({ cls:="java/lang/String",name:="encodeUTF8",desc:="(B[BZ)[B" } : Jvm.MethodName) jdk_42_method_46_code (9:Nat) (Option.some (Jvm.ClassFile.FieldType.array Jvm.ClassFile.FieldType.byte)),Jvm.Cond.code ({ cls:="java/lang/StringCoding",name:="hasNegatives",desc:="([BII)Z" } : Jvm.MethodName) jdk_123_method_2_code (3:Nat) (Option.some Jvm.ClassFile.FieldType.boolean),Jvm.Cond.code ({ cls:="java/lang/StringCoding",name:="countPositives",desc:="([BII)I" } : Jvm.MethodName) jdk_123_method_3_code (5:Nat) (Option.some Jvm.ClassFile.FieldType.int),Jvm.Cond.code ({ cls:="java/lang/String",name:="<init>",desc:="([C)V" } : Jvm.MethodName) jdk_42_method_3_code (2:Nat) (Option.none : Option Jvm.ClassFile.FieldType),Jvm.Cond.code ({ cls:="java/lang/String",name:="<init>",desc:="([CIILjava/lang/Void;)V" } : Jvm.MethodName) jdk_42_method_149_code (6:Nat) (Option.none : Option Jvm.ClassFile.FieldType),Jvm.Cond.code ({ cls:="java/lang/StringUTF16",name:="compress",desc:="([CII)[B" } : Jvm.MethodName) jdk_52_method_16_code (6:Nat) (Option.some (Jvm.ClassFile.FieldType.array Jvm.ClassFile.FieldType.byte)),Jvm.Cond.code ({ cls:="java/lang/StringUTF16",name:="compress",desc:="([CI[BII)I" } : Jvm.MethodName) jdk_52_method_21_code (7:Nat) (Option.some Jvm.ClassFile.FieldType.int),Jvm.Cond.code ({ cls:="java/lang/StringUTF16",name:="toBytes",desc:="([CII)[B" } : Jvm.MethodName) jdk_52_method_14_code (5:Nat) (Option.some (Jvm.ClassFile.FieldType.array Jvm.ClassFile.FieldType.byte)),Jvm.Cond.code ({ cls:="java/lang/StringUTF16",name:="newBytesFor",desc:="(I)[B" } : Jvm.MethodName) jdk_52_method_2_code (1:Nat) (Option.some (Jvm.ClassFile.FieldType.array Jvm.ClassFile.FieldType.byte)),Jvm.Cond.code ({ cls:="java/lang/StringUTF16",name:="newBytesLength",desc:="(I)I" } : Jvm.MethodName) jdk_52_method_3_code (1:Nat) (Option.some Jvm.ClassFile.FieldType.int),Jvm.Cond.code ({ cls:="java/lang/StringUTF16",name:="putChar",desc:="([BII)V" } : Jvm.MethodName) jdk_52_method_4_code (3:Nat) (Option.none : Option Jvm.ClassFile.FieldType),Jvm.Cond.code ({ cls:="java/lang/StringUTF16",name:="getChar",desc:="([BI)C" } : Jvm.MethodName) jdk_52_method_5_code (2:Nat) (Option.some Jvm.ClassFile.FieldType.char),Jvm.Cond.code ({ cls:="java/lang/StringUTF16",name:="coderFromArrayLen",desc:="([BI)B" } : Jvm.MethodName) jdk_52_method_15_code (2:Nat) (Option.some Jvm.ClassFile.FieldType.byte),Jvm.Cond.code ({ cls:="com/example/sluse/sluse/TextExposition",name:="sample",desc:="(Ljava/lang/String;J[Ljava/lang/String;)V" } : Jvm.MethodName) prog_24_method_3_code (5:Nat) (Option.none : Option Jvm.ClassFile.FieldType),Jvm.Cond.code ({ cls:="java/lang/Long",name:="toString",desc:="(J)Ljava/lang/String;" } : Jvm.MethodName) jdk_35_method_12_code (4:Nat) (Option.some (Jvm.ClassFile.FieldType.object "java/lang/String")),Jvm.Cond.code ({ cls:="java/lang/Long",name:="stringSize",desc:="(J)I" } : Jvm.MethodName) jdk_35_method_15_code (6:Nat) (Option.some Jvm.ClassFile.FieldType.int),Jvm.Cond.code ({ cls:="java/lang/Long",name:="getChars",desc:="(JI[B)I" } : Jvm.MethodName) jdk_35_method_14_code (11:Nat) (Option.some Jvm.ClassFile.FieldType.int),Jvm.Cond.code ({ cls:="java/lang/String",name:="<init>",desc:="([BB)V" } : Jvm.MethodName) jdk_42_method_151_code (3:Nat) (Option.none : Option Jvm.ClassFile.FieldType),Jvm.Cond.code ({ cls:="java/util/List",name:="of",desc:="([Ljava/lang/Object;)Ljava/util/List;" } : Jvm.MethodName) jdk_40_method_47_code (2:Nat) (Option.some (Jvm.ClassFile.FieldType.object "java/util/List")),Jvm.Cond.code ({ cls:="com/example/sluse/sluse/TextExposition",name:="sample",desc:="(Ljava/lang/String;Ljava/lang/String;Ljava/util/List;)V" } : Jvm.MethodName) prog_24_method_6_code (5:Nat) (Option.none : Option Jvm.ClassFile.FieldType),Jvm.Cond.code ({ cls:="java/lang/StringBuilder",name:="append",desc:="(Ljava/lang/String;)Ljava/lang/StringBuilder;" } : Jvm.MethodName) jdk_67_method_7_code (2:Nat) (Option.some (Jvm.ClassFile.FieldType.object "java/lang/StringBuilder")),Jvm.Cond.code ({ cls:="java/lang/AbstractStringBuilder",name:="append",desc:="(Ljava/lang/String;)Ljava/lang/AbstractStringBuilder;" } : Jvm.MethodName) jdk_68_method_22_code (3:Nat) (Option.some (Jvm.ClassFile.FieldType.object "java/lang/AbstractStringBuilder")),Jvm.Cond.code ({ cls:="java/lang/String",name:="length",desc:="()I" } : Jvm.MethodName) jdk_42_method_54_code (1:Nat) (Option.some Jvm.ClassFile.FieldType.int),Jvm.Cond.code ({ cls:="java/lang/AbstractStringBuilder",name:="ensureCapacityInternal",desc:="(I)V" } : Jvm.MethodName) jdk_68_method_9_code (3:Nat) (Option.none : Option Jvm.ClassFile.FieldType),Jvm.Cond.code ({ cls:="java/lang/AbstractStringBuilder",name:="putStringAt",desc:="(ILjava/lang/String;)V" } : Jvm.MethodName) jdk_68_method_73_code (3:Nat) (Option.none : Option Jvm.ClassFile.FieldType),Jvm.Cond.code ({ cls:="java/lang/AbstractStringBuilder",name:="inflateIfNeededFor",desc:="(Ljava/lang/String;)V" } : Jvm.MethodName) jdk_68_method_71_code (2:Nat) (Option.none : Option Jvm.ClassFile.FieldType),Jvm.Cond.code ({ cls:="java/lang/AbstractStringBuilder",name:="inflate",desc:="()V" } : Jvm.MethodName) jdk_68_method_11_code (2:Nat) (Option.none : Option Jvm.ClassFile.FieldType),Jvm.Cond.code ({ cls:="java/lang/StringLatin1",name:="inflate",desc:="([BI[BII)V" } : Jvm.MethodName) jdk_43_method_50_code (5:Nat) (Option.none : Option Jvm.ClassFile.FieldType),Jvm.Cond.code ({ cls:="java/lang/StringUTF16",name:="inflate",desc:="([BI[BII)V" } : Jvm.MethodName) jdk_52_method_86_code (6:Nat) (Option.none : Option Jvm.ClassFile.FieldType),Jvm.Cond.code ({ cls:="java/lang/StringUTF16",name:="checkBoundsOffCount",desc:="(II[B)V" } : Jvm.MethodName) jdk_52_method_94_code (3:Nat) (Option.none : Option Jvm.ClassFile.FieldType),Jvm.Cond.code ({ cls:="java/lang/StringUTF16",name:="length",desc:="([B)I" } : Jvm.MethodName) jdk_52_method_6_code (1:Nat) (Option.some Jvm.ClassFile.FieldType.int),Jvm.Cond.code ({ cls:="java/lang/String",name:="checkBoundsOffCount",desc:="(III)I" } : Jvm.MethodName) jdk_42_method_157_code (3:Nat) (Option.some Jvm.ClassFile.FieldType.int),Jvm.Cond.code ({ cls:="jdk/internal/util/Preconditions",name:="checkFromIndexSize",desc:="(IIILjava/util/function/BiFunction;)I" } : Jvm.MethodName) jdk_41_method_13_code (4:Nat) (Option.some Jvm.ClassFile.FieldType.int),Jvm.Cond.code ({ cls:="java/lang/String",name:="getBytes",desc:="([BIB)V" } : Jvm.MethodName) jdk_42_method_147_code (4:Nat) (Option.none : Option Jvm.ClassFile.FieldType),Jvm.Cond.code ({ cls:="java/util/ImmutableCollections$ListN",name:="size",desc:="()I" } : Jvm.MethodName) jdk_45_method_3_code (1:Nat) (Option.some Jvm.ClassFile.FieldType.int),Jvm.Cond.code ({ cls:="java/util/ImmutableCollections$ListN",name:="isEmpty",desc:="()Z" } : Jvm.MethodName) jdk_45_method_2_code (1:Nat) (Option.some Jvm.ClassFile.FieldType.boolean),Jvm.Cond.code ({ cls:="java/lang/StringBuilder",name:="append",desc:="(C)Ljava/lang/StringBuilder;" } : Jvm.MethodName) jdk_67_method_14_code (2:Nat) (Option.some (Jvm.ClassFile.FieldType.object "java/lang/StringBuilder")),Jvm.Cond.code ({ cls:="java/lang/AbstractStringBuilder",name:="append",desc:="(C)Ljava/lang/AbstractStringBuilder;" } : Jvm.MethodName) jdk_68_method_31_code (2:Nat) (Option.some (Jvm.ClassFile.FieldType.object "java/lang/AbstractStringBuilder")),Jvm.Cond.code ({ cls:="java/lang/StringUTF16",name:="putCharSB",desc:="([BII)V" } : Jvm.MethodName) jdk_52_method_71_code (3:Nat) (Option.none : Option Jvm.ClassFile.FieldType),Jvm.Cond.code ({ cls:="java/lang/StringUTF16",name:="checkIndex",desc:="(I[B)V" } : Jvm.MethodName) jdk_52_method_91_code (2:Nat) (Option.none : Option Jvm.ClassFile.FieldType),Jvm.Cond.code ({ cls:="java/lang/String",name:="checkIndex",desc:="(II)V" } : Jvm.MethodName) jdk_42_method_155_code (2:Nat) (Option.none : Option Jvm.ClassFile.FieldType),Jvm.Cond.code ({ cls:="jdk/internal/util/Preconditions",name:="checkIndex",desc:="(IILjava/util/function/BiFunction;)I" } : Jvm.MethodName) jdk_41_method_11_code (3:Nat) (Option.some Jvm.ClassFile.FieldType.int),Jvm.Cond.code ({ cls:="java/lang/String",name:="encodeUTF8_UTF16",desc:="([BZ)[B" } : Jvm.MethodName) jdk_42_method_47_code (9:Nat) (Option.some (Jvm.ClassFile.FieldType.array Jvm.ClassFile.FieldType.byte)),Jvm.Cond.code ({ cls:="java/lang/Character",name:="isSurrogate",desc:="(C)Z" } : Jvm.MethodName) jdk_89_method_16_code (1:Nat) (Option.some Jvm.ClassFile.FieldType.boolean),Jvm.Cond.code ({ cls:="java/lang/Character",name:="isHighSurrogate",desc:="(C)Z" } : Jvm.MethodName) jdk_89_method_14_code (1:Nat) (Option.some Jvm.ClassFile.FieldType.boolean),Jvm.Cond.code ({ cls:="java/lang/Character",name:="isLowSurrogate",desc:="(C)Z" } : Jvm.MethodName) jdk_89_method_15_code (1:Nat) (Option.some Jvm.ClassFile.FieldType.boolean),Jvm.Cond.code ({ cls:="java/lang/Character",name:="toCodePoint",desc:="(CC)I" } : Jvm.MethodName) jdk_89_method_19_code (2:Nat) (Option.some Jvm.ClassFile.FieldType.int),Jvm.Cond.code ({ cls:="java/util/Arrays",name:="copyOf",desc:="([BI)[B" } : Jvm.MethodName) jdk_65_method_121_code (3:Nat) (Option.some (Jvm.ClassFile.FieldType.array Jvm.ClassFile.FieldType.byte)),Jvm.Cond.code ({ cls:="com/example/sluse/sluse/TextExpositionBytesPinLaw",name:="same",desc:="([B[BI)Z" } : Jvm.MethodName) method_5_code (3:Nat) (Option.some Jvm.ClassFile.FieldType.boolean),Jvm.Cond.code ({ cls:="com/example/sluse/sluse/TextExpositionBytesPinLaw",name:="at",desc:="([B[BII)Z" } : Jvm.MethodName) method_4_code (4:Nat) (Option.some Jvm.ClassFile.FieldType.boolean),Jvm.Cond.code ({ cls:="com/example/sluse/sluse/TextExpositionBytesPinLaw",name:="plain",desc:="(I)I" } : Jvm.MethodName) method_2_code (1:Nat) (Option.some Jvm.ClassFile.FieldType.int),Jvm.Cond.code ({ cls:="com/example/sluse/sluse/TextExpositionBytesPinLaw",name:="put",desc:="([BII)I" } : Jvm.MethodName) method_3_code (3:Nat) (Option.some Jvm.ClassFile.FieldType.int),Jvm.Cond.code ({ cls:="java/lang/StringLatin1",name:="canEncode",desc:="(C)Z" } : Jvm.MethodName) jdk_43_method_3_code (1:Nat) (Option.some Jvm.ClassFile.FieldType.boolean)]
set_option maxRecDepth 65536 in
theorem codes_eq : words1.filter isCode = codes1:=rfl
theorem w_codes : ∀ c∈words1.filter isCode,c.before args0 about1 = true:=by
  rw [codes_eq]
  intro c hc
  simp only [codes1,List.mem_cons,List.not_mem_nil,or_false] at hc
  rcases hc with rfl | rfl | rfl | rfl | rfl | rfl | rfl | rfl | rfl | rfl | rfl | rfl | rfl | rfl | rfl | rfl | rfl | rfl | rfl | rfl | rfl | rfl | rfl | rfl | rfl | rfl | rfl | rfl | rfl | rfl | rfl | rfl | rfl | rfl | rfl | rfl | rfl | rfl | rfl | rfl | rfl | rfl | rfl | rfl | rfl | rfl | rfl | rfl | rfl | rfl | rfl | rfl | rfl | rfl | rfl | rfl | rfl | rfl | rfl | rfl | rfl | rfl | rfl | rfl | rfl | rfl | rfl | rfl | rfl | rfl | rfl | rfl | rfl
  · exact w_c0
  · exact w_c1
  · exact w_c2
  · exact w_c3
  · exact w_c4
  · exact w_c5
  · exact w_c6
  · exact w_c7
  · exact w_c8
  · exact w_c9
  · exact w_c10
  · exact w_c11
  · exact w_c12
  · exact w_c13
  · exact w_c14
  · exact w_c15
  · exact w_c16
  · exact w_c17
  · exact w_c18
  · exact w_c19
  · exact w_c20
  · exact w_c21
  · exact w_c22
  · exact w_c23
  · exact w_c24
  · exact w_c25
  · exact w_c26
  · exact w_c27
  · exact w_c28
  · exact w_c29
  · exact w_c30
  · exact w_c31
  · exact w_c32
  · exact w_c33
  · exact w_c34
  · exact w_c35
  · exact w_c36
  · exact w_c37
  · exact w_c38
  · exact w_c39
  · exact w_c40
  · exact w_c41
  · exact w_c42
  · exact w_c43
  · exact w_c44
  · exact w_c45
  · exact w_c46
  · exact w_c47
  · exact w_c48
  · exact w_c49
  · exact w_c50
  · exact w_c51
  · exact w_c52
  · exact w_c53
  · exact w_c54
  · exact w_c55
  · exact w_c56
  · exact w_c57
  · exact w_c58
  · exact w_c59
  · exact w_c60
  · exact w_c61
  · exact w_c62
  · exact w_c63
  · exact w_c64
  · exact w_c65
  · exact w_c66
  · exact w_c67
  · exact w_c68
  · exact w_c69
  · exact w_c70
  · exact w_c71
  · exact w_c72
set_option maxRecDepth 65536 in
theorem w_t1 : (words1.take 24).all (fun c=>isCode c || c.before args0 about1) = true:=by decide +kernel
set_option maxRecDepth 65536 in
theorem w_t2 : ((words1.drop 24).take 24).all (fun c=>isCode c || c.before args0 about1) = true:=by decide +kernel
set_option maxRecDepth 65536 in
theorem w_t3 : (((words1.drop 24).drop 24).take 24).all (fun c=>isCode c || c.before args0 about1) = true:=by decide +kernel
set_option maxRecDepth 65536 in
theorem w_t4 : ((((words1.drop 24).drop 24).drop 24).take 24).all (fun c=>isCode c || c.before args0 about1) = true:=by decide +kernel
set_option maxRecDepth 65536 in
theorem w_t5 : (((((words1.drop 24).drop 24).drop 24).drop 24).take 24).all (fun c=>isCode c || c.before args0 about1) = true:=by decide +kernel
set_option maxRecDepth 65536 in
theorem w_t6 : ((((((words1.drop 24).drop 24).drop 24).drop 24).drop 24).take 24).all (fun c=>isCode c || c.before args0 about1) = true:=by decide +kernel
set_option maxRecDepth 65536 in
theorem w_t7 : (((((((words1.drop 24).drop 24).drop 24).drop 24).drop 24).drop 24).take 24).all (fun c=>isCode c || c.before args0 about1) = true:=by decide +kernel
set_option maxRecDepth 65536 in
theorem w_t8 : ((((((((words1.drop 24).drop 24).drop 24).drop 24).drop 24).drop 24).drop 24).take 24).all (fun c=>isCode c || c.before args0 about1) = true:=by decide +kernel
set_option maxRecDepth 65536 in
theorem w_t9 : (((((((((words1.drop 24).drop 24).drop 24).drop 24).drop 24).drop 24).drop 24).drop 24).take 24).all (fun c=>isCode c || c.before args0 about1) = true:=by decide +kernel
set_option maxRecDepth 65536 in
theorem w_t10 : ((((((((((words1.drop 24).drop 24).drop 24).drop 24).drop 24).drop 24).drop 24).drop 24).drop 24).take 24).all (fun c=>isCode c || c.before args0 about1) = true:=by decide +kernel
set_option maxRecDepth 65536 in
theorem w_t11 : (((((((((((words1.drop 24).drop 24).drop 24).drop 24).drop 24).drop 24).drop 24).drop 24).drop 24).drop 24).take 24).all (fun c=>isCode c || c.before args0 about1) = true:=by decide +kernel
set_option maxRecDepth 65536 in
theorem w_t12 : ((((((((((((words1.drop 24).drop 24).drop 24).drop 24).drop 24).drop 24).drop 24).drop 24).drop 24).drop 24).drop 24).take 24).all (fun c=>isCode c || c.before args0 about1) = true:=by decide +kernel
set_option maxRecDepth 65536 in
theorem w_t13 : (((((((((((((words1.drop 24).drop 24).drop 24).drop 24).drop 24).drop 24).drop 24).drop 24).drop 24).drop 24).drop 24).drop 24).take 24).all (fun c=>isCode c || c.before args0 about1) = true:=by decide +kernel
set_option maxRecDepth 65536 in
theorem w_t14 : ((((((((((((((words1.drop 24).drop 24).drop 24).drop 24).drop 24).drop 24).drop 24).drop 24).drop 24).drop 24).drop 24).drop 24).drop 24).take 24).all (fun c=>isCode c || c.before args0 about1) = true:=by decide +kernel
set_option maxRecDepth 65536 in
theorem w_t15 : ((((((((((((((words1.drop 24).drop 24).drop 24).drop 24).drop 24).drop 24).drop 24).drop 24).drop 24).drop 24).drop 24).drop 24).drop 24).drop 24).all (fun c=>isCode c || c.before args0 about1) = true:=by decide +kernel
theorem w_tables : (allAtoms (Jvm.Cond.code x code maxLocals ret :: tables_1)).before args0 about1 = true:=by
  rw [allAtoms_all]
  show words1.all (fun c=>c.before args0 about1) = true
  refine all_split ?_ w_codes
  rw [← List.take_append_drop 24 words1,List.all_append,w_t1,← List.take_append_drop 24 (words1.drop 24),List.all_append,w_t2,← List.take_append_drop 24 ((words1.drop 24).drop 24),List.all_append,w_t3,← List.take_append_drop 24 (((words1.drop 24).drop 24).drop 24),List.all_append,w_t4,← List.take_append_drop 24 ((((words1.drop 24).drop 24).drop 24).drop 24),List.all_append,w_t5,← List.take_append_drop 24 (((((words1.drop 24).drop 24).drop 24).drop 24).drop 24),List.all_append,w_t6,← List.take_append_drop 24 ((((((words1.drop 24).drop 24).drop 24).drop 24).drop 24).drop 24),List.all_append,w_t7,← List.take_append_drop 24 (((((((words1.drop 24).drop 24).drop 24).drop 24).drop 24).drop 24).drop 24),List.all_append,w_t8,← List.take_append_drop 24 ((((((((words1.drop 24).drop 24).drop 24).drop 24).drop 24).drop 24).drop 24).drop 24),List.all_append,w_t9,← List.take_append_drop 24 (((((((((words1.drop 24).drop 24).drop 24).drop 24).drop 24).drop 24).drop 24).drop 24).drop 24),List.all_append,w_t10,← List.take_append_drop 24 ((((((((((words1.drop 24).drop 24).drop 24).drop 24).drop 24).drop 24).drop 24).drop 24).drop 24).drop 24),List.all_append,w_t11,← List.take_append_drop 24 (((((((((((words1.drop 24).drop 24).drop 24).drop 24).drop 24).drop 24).drop 24).drop 24).drop 24).drop 24).drop 24),List.all_append,w_t12,← List.take_append_drop 24 ((((((((((((words1.drop 24).drop 24).drop 24).drop 24).drop 24).drop 24).drop 24).drop 24).drop 24).drop 24).drop 24).drop 24),List.all_append,w_t13,← List.take_append_drop 24 (((((((((((((words1.drop 24).drop 24).drop 24).drop 24).drop 24).drop 24).drop 24).drop 24).drop 24).drop 24).drop 24).drop 24).drop 24),List.all_append,w_t14,w_t15]
  rfl
set_option maxRecDepth 65536 in
theorem w_rest : rest_1_c.before args0 about1 = true:=by decide +kernel
set_option maxRecDepth 65536 in
theorem w_case : (Jvm.Cond.and given_1 narrow_1).before args0 about1 = true:=by decide +kernel
theorem w_applies : (headSpec (Jvm.Cond.code x code maxLocals ret :: tables_1) room_1).applies x e0.platform about1 = true :=
  (Spec.applies_iff w_frames).mpr ⟨w_running,w_runnable,w_alone,w_named,w_hears,w_ripe,w_room,w_tables⟩
theorem atStart : AtStart classFile x code maxLocals ret World_1 tables_1 room_1 Calls_1 rest_1 Pre_1 launch0 p0 e0 about1 theMethod args0 below0 :=
  ⟨lists_1,trivial,launch0.admits_env _ _ _,launch0.least_env,fairChoices_fair.cas,fairChoices_fair.clock,w_frames,w_args,w_heap,w_applies,trivial,w_rest,w_case⟩
end start1
theorem witness_1 : WitnessClaimed_1:=⟨start1.p0,start1.e0,start1.about1,start1.theMethod,start1.args0,start1.below0,start1.atStart⟩
end Jvm.Pilot.@@N@@
