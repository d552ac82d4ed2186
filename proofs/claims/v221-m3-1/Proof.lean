import JvmDerived
import JvmDerived.Pilot.@@N@@Statement
import JvmDerived.Pilot.@@N@@Code
set_option linter.unusedVariables false
set_option linter.unusedSimpArgs false
namespace Jvm.RoadKit
open Sem ClassFile Op Lib Jvm.Stand Jvm.Free Jvm.LawKit
section New
variable {p : Program} {l : Launch} {e : Env} {R : Room} {s : State} {m : MethodId} {args : Array Value} {below : List Frame} {meth : Method} {c : Code} {T : State} {locs : List Loc} {cells slots : Nat}
theorem retI (X : Stand p l e R s m args below meth c T locs cells slots) (hx : p.tables.exec = Jvm.exec) {pc : Nat} {Ls : Array Slot} {z : Int32} {rest : List Value} (hret : meth.sig.returnType = some .int) (hd : decode c.code pc = .ok (.ireturn, 1)) {fs : List Frame}
    (hl : ∀ (f : JFrame) (acts : List Action), f.method = m → f.locked = none → f.entered = [] → (doReturn e (T.setTop f) acts (some (.int z))).1 = T.setFrames fs) : Steps p.tables e below (T.setTop (mkF m pc Ls (.int z :: rest))) (T.setFrames fs) := by
  have hm' : T.vm.method? m = some meth := X.method'
  have hn : narrow .int (.int z) = .int z := rfl
  show Steps p.tables e below (T.setTop { method := m, pc := pc, locals := Ls, stack := _ :: rest, locked := none }) _
  jvm_step X.here [X.here.top, hx, hd, hm', hret, hn]
  first | (intro acts; rw [hl _ acts rfl rfl rfl]) | rw [hl _ _ rfl rfl rfl]
  exact Steps.refl _
end New
end Jvm.RoadKit
namespace Jvm.Pilot.@@N@@
open Jvm Jvm.ClassFile Sem Op Lib Jvm.Free Jvm.Stand Jvm.LawKit Jvm.RoadKit Bundle Jvm.Pilot.@@N@@.Jvm.D
section OwnKit
variable {tb : Tables} {p : Program} {l : Launch} {e : Env} {R : Room} {s : State} {m : MethodId} {args : Array Value} {below : List Frame} {meth : Method} {c : Code} {T : State} {locs : List Loc} {cells slots : Nat} {Z : State} {a0 : Array Value} {F : State → Prop} {S S' : State}
/-- from S the run comes to a state of which F holds -/
def own_G (tb : Tables) (e : Env) (below : List Frame) (F : State → Prop) (S : State) : Prop := ∃ t, Steps tb e below S t ∧ F t
theorem own_st (st : ∀ t, Steps tb e below S' t → Steps tb e below S t) (k : own_G tb e below F S') : own_G tb e below F S := by
  obtain ⟨t, h1, h2⟩ := k
  exact ⟨t, st t h1, h2⟩
theorem own_tr (st : Steps tb e below S S') (k : own_G tb e below F S') : own_G tb e below F S := by
  obtain ⟨t, h1, h2⟩ := k
  exact ⟨t, st.trans h1, h2⟩
/-- the end of a body: it has returned v, Q holds, the frame is kept -/
def own_F (s : State) (below : List Frame) (Q : Option Value → Heap → List Loc → Prop) (k n : Nat) (t : State) : Prop := ∃ o, t.status = .running ∧ Ended t below o ∧ ∃ v L, o = .returned v ∧ Q v t.heap L ∧ FrameEnd s o t L k n
/-- a contract -/
def own_Met (l : Launch) (Z : State) (y : MethodName) (bytes : ByteArray) (maxL : Nat) (ret : Option FieldType) (ws : List Cond) (rm : Room) (as : Array Value) (h : Heap) (Q : Option Value → Heap → List Loc → Prop) (k n : Nat) : Prop :=
  MetFree l y (head1 (Jvm.Cond.code y bytes maxL ret :: ws) rm) (fun a U => a = as ∧ Z.Warmed39 U.vm ∧ U.heap = h) (fun _ _ _ _ _ => True) (fun _ U o U' => ∃ v L, o = .returned v ∧ Q v U'.heap L ∧ FrameEnd U o U' L k n)
theorem own_body {y : MethodName} {bytes : ByteArray} {maxL : Nat} {ret : Option FieldType} {ws : List Jvm.Cond} {rm : Room} {as : Array Value} {h : Heap} {Q : Option Value → Heap → List Loc → Prop} {k n : Nat} {ef : MethodId → JFrame} (hp : plainFor y = true) (hef : ∀ m, entryFrame m as maxL = ef m)
    (body : ∀ (p : Program) (e : Env) (s : State) (m : MethodId) (below : List Frame) (meth : Method) (c : Code) (T0 : State), p.tables.exec = Jvm.exec → Z.Warmed39 s.vm → c.code = bytes → c.maxLocals = maxL → s.vm.findClass y.cls = some m.cls → meth.name = y.name → meth.sig.returnType = ret → meth.locks = false →
      Stand p l e rm s m as below meth c T0 [] 0 0 → T0.heap = h → own_G p.tables e below (own_F s below Q k n) (T0.setTop (ef m))) : own_Met l Z y bytes maxL ret ws rm as h Q k n := by
  refine MetFree.of_bodySF hp hisR ?_
  intro p e s m args below meth c s₁ Bd hml0 hP hK
  obtain ⟨rfl, hZ, hh⟩ := hP
  have e0 : s₁.heap = h := by rw [← hh, Bd.state]; rfl
  obtain ⟨t, h1, o, h2, h3, v, L, h4, h5, h6⟩ := body p e s m below meth c s₁ Bd.exec hZ Bd.bytes hml0 (findClass_of_methodNamed Bd.named) (name_of_methodNamed Bd.named Bd.method).1 Bd.returns Bd.notSynchronized (Stand.of_body Bd) e0
  exact ⟨t, o, castTop (hef m) h1, h2, h3, v, L, h4, h5, h6⟩
theorem own_back {y : MethodName} {bytes : ByteArray} {maxL : Nat} {ret : Option FieldType} {rm : Room} {len W : Nat} {as' : Array Value} {h : Heap} {Q : Option Value → Heap → List Loc → Prop} (hM : own_Met l Z y bytes maxL ret [] rm as' h Q rm.cells rm.slots)
    (hZ : Z.Warmed39 s.vm) (wc : (Jvm.Cond.code y bytes maxL ret).before a0 Z = true) (wz : (Jvm.Cond.initialized y.cls).before a0 Z = true) (hf : rm.frames + 1 ≤ R.frames) (hl : W + (maxL + 11) + rm.locals ≤ R.locals) :
    Back l R p e below s args y len W (fun A a => a = as' ∧ A.U.heap = h ∧ A.cells + rm.cells ≤ R.cells ∧ A.slots + rm.slots ≤ R.slots) (fun A _ v B => ∃ L, Q v B.U.heap L ∧ B.locs = A.locs ++ L ∧ B.cells = A.cells + rm.cells ∧ B.slots = A.slots + rm.slots) := backOf (Q := Q) hM hZ wc wz hf hl
theorem own_end {Q : Option Value → Heap → List Loc → Prop} {k n : Nat} {v : Option Value} (X : Stand p l e R s m args below meth c T locs cells slots) (hlk : meth.locks = false) (hv : meth.sig.returnType = none → v = none) (hQ : Q v T.heap locs) (hk : cells ≤ k) (hn : slots ≤ n)
    (h : ∀ fs, (∀ (f : JFrame) (acts : List Action), f.method = m → f.locked = none → f.entered = [] → (doReturn e (T.setTop f) acts v).1 = T.setFrames fs) → Steps p.tables e below S (T.setFrames fs)) : own_G p.tables e below (own_F s below Q k n) S := by
  obtain ⟨fs, hr, hrun, hended, hW, hsame⟩ := X.leave (v := v) hv hlk
  exact ⟨_, h fs hr, _, hrun, hended, v, locs, rfl, hQ, ⟨_, rfl⟩, hW, hsame.mono hk hn⟩
theorem own_retI {Q : Option Value → Heap → List Loc → Prop} {k n : Nat} {pc : Nat} {Ls : Array Slot} {z : Int32} {rest : List Value} (X : Stand p l e R s m args below meth c T locs cells slots) (hx : p.tables.exec = Jvm.exec) (hret : meth.sig.returnType = some .int) (hlk : meth.locks = false) (hd : decode c.code pc = .ok (.ireturn, 1)) (hQ : Q (some (.int z)) T.heap locs) (hk : cells ≤ k) (hn : slots ≤ n) :
    own_G p.tables e below (own_F s below Q k n) (T.setTop (mkF m pc Ls (.int z :: rest))) :=
  own_end X hlk (fun h => by rw [hret] at h; cases h) hQ hk hn fun fs hr => retI X hx hret hd hr
theorem own_retN {Q : Option Value → Heap → List Loc → Prop} {k n : Nat} {pc : Nat} {Ls : Array Slot} {z : Int32} {t : FieldType} {rest : List Value} (X : Stand p l e R s m args below meth c T locs cells slots) (hx : p.tables.exec = Jvm.exec) (hret : meth.sig.returnType = some t) (hlk : meth.locks = false) (ht : t = .boolean ∨ t = .byte ∨ t = .char ∨ t = .short) (hd : decode c.code pc = .ok (.ireturn, 1)) (hQ : Q (some (.int (nar t z))) T.heap locs) (hk : cells ≤ k) (hn : slots ≤ n) :
    own_G p.tables e below (own_F s below Q k n) (T.setTop (mkF m pc Ls (.int z :: rest))) :=
  own_end X hlk (fun h => by rw [hret] at h; cases h) hQ hk hn fun fs hr => retN X hx hret ht hd hr
theorem own_retA {Q : Option Value → Heap → List Loc → Prop} {k n : Nat} {pc : Nat} {Ls : Array Slot} {w : Value} {t : FieldType} {rest : List Value} (X : Stand p l e R s m args below meth c T locs cells slots) (hx : p.tables.exec = Jvm.exec) (hret : meth.sig.returnType = some t) (ht : t.isReference = true) (hw : w.isRef = true) (hlk : meth.locks = false) (hd : decode c.code pc = .ok (.areturn, 1)) (hQ : Q (some w) T.heap locs) (hk : cells ≤ k) (hn : slots ≤ n) :
    own_G p.tables e below (own_F s below Q k n) (T.setTop (mkF m pc Ls (w :: rest))) :=
  own_end X hlk (fun h => by rw [hret] at h; cases h) hQ hk hn fun fs hr => by
    jvm_step X.here [X.here.top, hx, hd, X.method', hret, hw, ht]
    first | (intro acts; rw [hr _ acts rfl rfl rfl]) | rw [hr _ _ rfl rfl rfl]
    exact Steps.refl _
theorem own_retJ {Q : Option Value → Heap → List Loc → Prop} {k n : Nat} {pc : Nat} {Ls : Array Slot} {z : Int64} {rest : List Value} (X : Stand p l e R s m args below meth c T locs cells slots) (hx : p.tables.exec = Jvm.exec) (hret : meth.sig.returnType = some .long) (hlk : meth.locks = false) (hd : decode c.code pc = .ok (.lreturn, 1)) (hQ : Q (some (.long z)) T.heap locs) (hk : cells ≤ k) (hn : slots ≤ n) :
    own_G p.tables e below (own_F s below Q k n) (T.setTop (mkF m pc Ls (.long z :: rest))) :=
  own_end X hlk (fun h => by rw [hret] at h; cases h) hQ hk hn fun fs hr => by
    jvm_step X.here [X.here.top, hx, hd, X.method', hret, narrow]
    first | (intro acts; rw [hr _ acts rfl rfl rfl]) | rw [hr _ _ rfl rfl rfl]
    exact Steps.refl _
theorem own_ret0 {Q : Option Value → Heap → List Loc → Prop} {k n : Nat} {pc : Nat} {Ls : Array Slot} (X : Stand p l e R s m args below meth c T locs cells slots) (hx : p.tables.exec = Jvm.exec) (hret : meth.sig.returnType = none) (hlk : meth.locks = false) (hd : decode c.code pc = .ok (.return_, 1)) (hQ : Q none T.heap locs) (hk : cells ≤ k) (hn : slots ≤ n) :
    own_G p.tables e below (own_F s below Q k n) (T.setTop (mkF m pc Ls [])) :=
  own_end X hlk (fun _ => rfl) hQ hk hn fun fs hr => X.returnOut hx hret hd hr
theorem own_ltN {a b : Nat} (h : @LT.lt Addr instLTNat a b) : @LT.lt Nat instLTNat a b := h
theorem own_nat {n : Nat} (hn : n < 2147483648) : (Int32.ofNat n).toInt = (n : Int) := Int32.toInt_ofNat_of_lt hn
theorem own_clamp {n : Nat} (hn : n < 2147483648) : (Int32.ofNat n).toNatClampNeg = n := by
  rw [Int32.toNatClampNeg, own_nat hn]; rfl
theorem own_lt {i n : Nat} (h : i < n) (hn : n < 2147483648) : Int32.ofNat i < Int32.ofNat n := by
  rw [Int32.lt_iff_toInt_lt, own_nat (by omega), own_nat hn]; omega
theorem own_nn {n : Nat} (hn : n < 2147483648) : ¬ Int32.ofNat n < 0 := by
  rw [Int32.lt_iff_toInt_lt, own_nat hn, show (0 : Int32).toInt = 0 from rfl]; omega
theorem own_one (i : Nat) : Int32.ofNat i + (1 : Int32) = Int32.ofNat (i + 1) := (Int32.ofNat_add i 1).symm
theorem own_in {i n : Nat} {cl : Cell} (hs : cl.slots.size = (Int32.ofNat n).toNatClampNeg) (h : i < n) (hn : n < 2147483648) : ¬ (Int32.ofNat i < 0 ∨ cl.slots.size ≤ (Int32.ofNat i).toNatClampNeg) := by
  rw [hs, own_clamp hn, own_clamp (by omega)]
  exact fun q => q.elim (own_nn (by omega)) (fun q => by omega)
/-- the list f 0, f 1, .. : i of them -/
def own_vals (f : Nat → Int32) (i : Nat) : List Value := (List.range i).map fun j => .int (f j)
theorem own_len (f : Nat → Int32) (i : Nat) : (own_vals f i).length = i := by simp [own_vals]
theorem own_next (f : Nat → Int32) (i : Nat) : own_vals f i ++ [.int (f i)] = own_vals f (i + 1) := by simp [own_vals, List.range_succ]
theorem own_at (f : Nat → Int32) {i j : Nat} (h : j < i) (d : Value) : (own_vals f i).getD j d = .int (f j) := by simp [own_vals, List.getD_eq_getElem?_getD, h]
theorem own_set (vs : List Value) (x v : Value) : (vs ++ [x]).set vs.length v = vs ++ [v] := by simp
/-- .. where a String constant may have been interned -/
def own_FW (s : State) (below : List Frame) (Q : Option Value → Heap → List Loc → Prop) (k n : Nat) (t : State) : Prop := ∃ o, t.status = .running ∧ Ended t below o ∧ ∃ v L, o = .returned v ∧ Q v t.heap L ∧ ReturnedEndW s o t L k n
def own_MetW (l : Launch) (Z : State) (y : MethodName) (bytes : ByteArray) (maxL : Nat) (ret : Option FieldType) (ws : List Cond) (rm : Room) (as : Array Value) (h : Heap) (Q : Option Value → Heap → List Loc → Prop) (k n : Nat) : Prop :=
  MetFree l y (head1 (Jvm.Cond.code y bytes maxL ret :: ws) rm) (fun a U => a = as ∧ Z.Warmed39 U.vm ∧ U.heap = h) (fun _ _ _ _ _ => True) (fun _ U o U' => ∃ v L, o = .returned v ∧ Q v U'.heap L ∧ ReturnedEndW U o U' L k n)
theorem own_bodyW {y : MethodName} {bytes : ByteArray} {maxL : Nat} {ret : Option FieldType} {ws : List Jvm.Cond} {rm : Room} {as : Array Value} {h : Heap} {Q : Option Value → Heap → List Loc → Prop} {k n : Nat} {ef : MethodId → JFrame} (hp : plainFor y = true) (hef : ∀ m, entryFrame m as maxL = ef m)
    (body : ∀ (p : Program) (e : Env) (s : State) (m : MethodId) (below : List Frame) (meth : Method) (c : Code) (T0 : State), p.tables.exec = Jvm.exec → Z.Warmed39 s.vm → c.code = bytes → c.maxLocals = maxL → s.vm.findClass y.cls = some m.cls → meth.name = y.name → meth.sig.returnType = ret → meth.locks = false →
      Stand p l e rm s m as below meth c T0 [] 0 0 → T0.heap = h → s.Since s.vm 0 → own_G p.tables e below (own_FW s below Q k n) (T0.setTop (ef m))) : own_MetW l Z y bytes maxL ret ws rm as h Q k n := by
  refine MetFree.of_bodySF hp hisR ?_
  intro p e s m args below meth c s₁ Bd hml0 hP hK
  obtain ⟨rfl, hZ, hh⟩ := hP
  have e0 : s₁.heap = h := by rw [← hh, Bd.state]; rfl
  obtain ⟨t, h1, o, h2, h3, v, L, h4, h5, h6⟩ := body p e s m below meth c s₁ Bd.exec hZ Bd.bytes hml0 (findClass_of_methodNamed Bd.named) (name_of_methodNamed Bd.named Bd.method).1 Bd.returns Bd.notSynchronized (Stand.of_body Bd) e0 ((State.WarmedH.refl s).since 0)
  exact ⟨t, o, castTop (hef m) h1, h2, h3, v, L, h4, h5, h6⟩
theorem own_backS {y : MethodName} {bytes : ByteArray} {maxL : Nat} {ret : Option FieldType} {rm : Room} {len W : Nat} {as' : Array Value} {h : Heap} {Q : Option Value → Heap → List Loc → Prop} (hM : own_MetW l Z y bytes maxL ret [] rm as' h Q rm.cells rm.slots)
    (hZ : Z.Warmed39 s.vm) (wc : (Jvm.Cond.code y bytes maxL ret).before a0 Z = true) (wz : (Jvm.Cond.initialized y.cls).before a0 Z = true) (hf : rm.frames + 1 ≤ R.frames) (hl : W + (maxL + 11) + rm.locals ≤ R.locals) :
    BackS l R p e below s args y len W (fun A a => a = as' ∧ A.U.heap = h ∧ A.cells + rm.cells ≤ R.cells ∧ A.slots + rm.slots ≤ R.slots) (fun A _ v B => ∃ L, Q v B.U.heap L ∧ B.locs = A.locs ++ L ∧ B.cells = A.cells + rm.cells ∧ B.slots = A.slots + rm.slots) := backOfS (Q := Q) hM hZ wc wz hf hl
theorem own_endW {Q : Option Value → Heap → List Loc → Prop} {k n n1 : Nat} {v : Option Value} {vm1 : Vm} (X : Stand p l e R (s.setVm vm1) m args below meth c T locs cells slots) (hS : s.Since vm1 n1) (hSn : n1 ≤ T.heap.size) (hlk : meth.locks = false) (hv : meth.sig.returnType = none → v = none) (hQ : Q v T.heap locs) (hk : cells ≤ k) (hn : slots ≤ n)
    (h : ∀ fs, (∀ (f : JFrame) (acts : List Action), f.method = m → f.locked = none → f.entered = [] → (doReturn e (T.setTop f) acts v).1 = T.setFrames fs) → Steps p.tables e below S (T.setFrames fs)) : own_G p.tables e below (own_FW s below Q k n) S := by
  obtain ⟨fs, hr, hrun, hended, hW⟩ := X.leaveW hS hSn (v := v) hv hlk
  exact ⟨_, h fs hr, _, hrun, hended, v, locs, rfl, hQ, hW.1, hW.2.1, hW.2.2.1, hW.2.2.2.mono hk hn⟩
theorem own_retIW {Q : Option Value → Heap → List Loc → Prop} {k n n1 : Nat} {pc : Nat} {Ls : Array Slot} {z : Int32} {rest : List Value} {vm1 : Vm} (X : Stand p l e R (s.setVm vm1) m args below meth c T locs cells slots) (hS : s.Since vm1 n1) (hSn : n1 ≤ T.heap.size) (hx : p.tables.exec = Jvm.exec) (hret : meth.sig.returnType = some .int) (hlk : meth.locks = false) (hd : decode c.code pc = .ok (.ireturn, 1)) (hQ : Q (some (.int z)) T.heap locs) (hk : cells ≤ k) (hn : slots ≤ n) :
    own_G p.tables e below (own_FW s below Q k n) (T.setTop (mkF m pc Ls (.int z :: rest))) :=
  own_endW X hS hSn hlk (fun h => by rw [hret] at h; cases h) hQ hk hn fun fs hr => retI X hx hret hd hr
theorem own_retNW {Q : Option Value → Heap → List Loc → Prop} {k n n1 : Nat} {pc : Nat} {Ls : Array Slot} {z : Int32} {t : FieldType} {rest : List Value} {vm1 : Vm} (X : Stand p l e R (s.setVm vm1) m args below meth c T locs cells slots) (hS : s.Since vm1 n1) (hSn : n1 ≤ T.heap.size) (hx : p.tables.exec = Jvm.exec) (hret : meth.sig.returnType = some t) (hlk : meth.locks = false) (ht : t = .boolean ∨ t = .byte ∨ t = .char ∨ t = .short) (hd : decode c.code pc = .ok (.ireturn, 1)) (hQ : Q (some (.int (nar t z))) T.heap locs) (hk : cells ≤ k) (hn : slots ≤ n) :
    own_G p.tables e below (own_FW s below Q k n) (T.setTop (mkF m pc Ls (.int z :: rest))) :=
  own_endW X hS hSn hlk (fun h => by rw [hret] at h; cases h) hQ hk hn fun fs hr => retN X hx hret ht hd hr
theorem own_retAW {Q : Option Value → Heap → List Loc → Prop} {k n n1 : Nat} {pc : Nat} {Ls : Array Slot} {w : Value} {t : FieldType} {rest : List Value} {vm1 : Vm} (X : Stand p l e R (s.setVm vm1) m args below meth c T locs cells slots) (hS : s.Since vm1 n1) (hSn : n1 ≤ T.heap.size) (hx : p.tables.exec = Jvm.exec) (hret : meth.sig.returnType = some t) (ht : t.isReference = true) (hw : w.isRef = true) (hlk : meth.locks = false) (hd : decode c.code pc = .ok (.areturn, 1)) (hQ : Q (some w) T.heap locs) (hk : cells ≤ k) (hn : slots ≤ n) :
    own_G p.tables e below (own_FW s below Q k n) (T.setTop (mkF m pc Ls (w :: rest))) :=
  own_endW X hS hSn hlk (fun h => by rw [hret] at h; cases h) hQ hk hn fun fs hr => by
    jvm_step X.here [X.here.top, hx, hd, X.method', hret, hw, ht]
    first | (intro acts; rw [hr _ acts rfl rfl rfl]) | rw [hr _ _ rfl rfl rfl]
    exact Steps.refl _
theorem own_ret0W {Q : Option Value → Heap → List Loc → Prop} {k n n1 : Nat} {pc : Nat} {Ls : Array Slot} {vm1 : Vm} (X : Stand p l e R (s.setVm vm1) m args below meth c T locs cells slots) (hS : s.Since vm1 n1) (hSn : n1 ≤ T.heap.size) (hx : p.tables.exec = Jvm.exec) (hret : meth.sig.returnType = none) (hlk : meth.locks = false) (hd : decode c.code pc = .ok (.return_, 1)) (hQ : Q none T.heap locs) (hk : cells ≤ k) (hn : slots ≤ n) :
    own_G p.tables e below (own_FW s below Q k n) (T.setTop (mkF m pc Ls [])) :=
  own_endW X hS hSn hlk (fun _ => rfl) hQ hk hn fun fs hr => X.returnOut hx hret hd hr
theorem own_eqI {args : Array Value} {first s : State} {o : Option Outcome} {idx : List Nat} {t : Term} {k : Int32} (h : (Jvm.Cond.eq t (.int k)).value args first o s idx = some true) : t.eval args first o idx s = some (.int k) := by
  obtain ⟨x, y, h1, h2, h3, -⟩ := cmp_v (Or.inl h)
  have h4 : y = .int k := (Option.some.inj (h2.symm.trans (Term.int_eval k)))
  subst h4
  cases x with
  | int x => rw [h1]; exact congrArg (fun z => some (Value.int z)) (gotT (Cond.eq_ints h1 h2) h)
  | _ => simp [Kin, Value.isRef] at h3
end OwnKit


/-- the byte that compress keeps of a char -/
def own_lo (c : Int32) : Int32 := nar .byte (c.toInt8.toInt32)
/-- a char's two bytes, as putChar lays them -/
def own_b0 (c : Int32) : Int32 := nar .byte ((c >>> ((0 : Int32) &&& 31)).toInt8.toInt32)
def own_b1 (c : Int32) : Int32 := nar .byte ((c >>> ((8 : Int32) &&& 31)).toInt8.toInt32)
def own_wide (f : Nat → Int32) (j : Nat) : Int32 := if j % 2 = 0 then own_b0 (f (j / 2)) else own_b1 (f (j / 2))
theorem own_wide0 (f : Nat → Int32) (i : Nat) : own_wide f (2 * i) = own_b0 (f i) := by
  unfold own_wide
  rw [if_pos (by omega), show 2 * i / 2 = i by omega]
theorem own_wide1 (f : Nat → Int32) (i : Nat) : own_wide f (2 * i + 1) = own_b1 (f i) := by
  unfold own_wide
  rw [if_neg (by omega), show (2 * i + 1) / 2 = i by omega]
theorem own_shl1 {i : Nat} (h : i < 1000000) : Int32.ofNat i <<< ((1 : Int32) &&& 31) = Int32.ofNat (2 * i) := by
  apply Int32.toInt_inj.mp
  have h1 := c_ishl (Int32.ofNat i) 1 1 rfl
  have h2 := rng32 (Int32.ofNat i <<< ((1 : Int32) &&& 31))
  rw [own_nat (by omega)] at h1
  rw [own_nat (by omega)]
  omega
theorem own_pair {c : Int32} (h0 : 0 ≤ c.toInt) (h1 : c.toInt < 65536) : nar .char ((((own_b0 c &&& (255 : Int32)) <<< ((0 : Int32) &&& 31)) ||| ((own_b1 c &&& (255 : Int32)) <<< ((8 : Int32) &&& 31))).toUInt32.toUInt16.toUInt32.toInt32) = c := by
  apply Int32.toInt_inj.mp
  show (Int32.toUInt32 _).toUInt16.toUInt32.toInt32.toInt = _
  have a0 := c_ishr c 0 0 rfl
  have a1 := c_ishr c 8 8 rfl
  have b0 := c_i2b (c >>> ((0 : Int32) &&& 31))
  have b1 := c_i2b (c >>> ((8 : Int32) &&& 31))
  have d0 : ((own_b0 c).toInt - _) % 256 = 0 ∧ _ := c_i2b ((c >>> ((0 : Int32) &&& 31)).toInt8.toInt32)
  have d1 : ((own_b1 c).toInt - _) % 256 = 0 ∧ _ := c_i2b ((c >>> ((8 : Int32) &&& 31)).toInt8.toInt32)
  have e0 := c_mask (own_b0 c) 255 8 (by decide) rfl
  have e1 := c_mask (own_b1 c) 255 8 (by decide) rfl
  have f0 := c_ishl (own_b0 c &&& 255) 0 0 rfl
  have f1 := c_ishl (own_b1 c &&& 255) 8 8 rfl
  have r0 := rng32 ((own_b0 c &&& (255 : Int32)) <<< ((0 : Int32) &&& 31))
  have r1 := rng32 ((own_b1 c &&& (255 : Int32)) <<< ((8 : Int32) &&& 31))
  have g := c_or' ((own_b0 c &&& (255 : Int32)) <<< ((0 : Int32) &&& 31)) ((own_b1 c &&& (255 : Int32)) <<< ((8 : Int32) &&& 31)) 8 (by decide) 256 rfl (by omega) (by omega) (by omega)
  have r2 := rng32 (((own_b0 c &&& (255 : Int32)) <<< ((0 : Int32) &&& 31)) ||| ((own_b1 c &&& (255 : Int32)) <<< ((8 : Int32) &&& 31)))
  have i0 := c_i2c (((own_b0 c &&& (255 : Int32)) <<< ((0 : Int32) &&& 31)) ||| ((own_b1 c &&& (255 : Int32)) <<< ((8 : Int32) &&& 31)))
  have i1 := c_i2c ((((own_b0 c &&& (255 : Int32)) <<< ((0 : Int32) &&& 31)) ||| ((own_b1 c &&& (255 : Int32)) <<< ((8 : Int32) &&& 31))).toUInt32.toUInt16.toUInt32.toInt32)
  omega
theorem own_get {cl : Cell} {n i : Nat} {f : Nat → Int32} {d : Value} (S : cl.slots.size = (Int32.ofNat n).toNatClampNeg) (H : Has cl (own_vals f n) d) (h : i < n) (hn : n < 2147483648) : cl.slots[(Int32.ofNat i).toNatClampNeg]? = some (.int (f i)) := by
  rw [own_clamp (by omega)]
  have q := H i (by rw [S, own_clamp hn]; exact h)
  rw [own_at f h] at q
  exact q
/-- a String's object a, its bytes at t: the chars f 0 .. f (n - 1) -/
def own_Str (Z : State) (h : Heap) (a t : Addr) (kb : ClassId) (f : Nat → Int32) (n : Nat) : Prop := Exa Z h a "java/lang/String" ∧ ∃ cd : Int32, Fld Z h a "java/lang/String" "coder" "B" (.int cd) ∧ Fld Z h a "java/lang/String" "value" "[B" (.ref t) ∧
  ((cd = 0 ∧ (∀ j, j < n → ¬ (255 : Int32) < f j) ∧ Arv Z h t kb .byte (Int32.ofNat n) (own_vals (fun j => own_lo (f j)) n) (.int (0 : Int32))) ∨ (cd = 1 ∧ Arv Z h t kb .byte (Int32.ofNat (2 * n)) (own_vals (own_wide f) (2 * n)) (.int (0 : Int32))))
/-- a Latin-1 String's object a, its bytes at t -/
def own_StrL (Z : State) (h : Heap) (a t : Addr) (kb : ClassId) (g : Nat → Int32) (n : Nat) : Prop := Exa Z h a "java/lang/String" ∧ Fld Z h a "java/lang/String" "coder" "B" (.int (0 : Int32)) ∧ Fld Z h a "java/lang/String" "value" "[B" (.ref t) ∧ Arv Z h t kb .byte (Int32.ofNat n) (own_vals g n) (.int (0 : Int32))
theorem own_StrL_ext {Z : State} {h h' : Heap} {a t : Addr} {kb : ClassId} {g : Nat → Int32} {n : Nat} (H : own_StrL Z h a t kb g n) (E : Ext h h') : own_StrL Z h' a t kb g n := ⟨H.1.ext E, H.2.1.ext E, H.2.2.1.ext E, H.2.2.2.ext E⟩
theorem own_StrL_keep {Z : State} {h h' : Heap} {a t : Addr} {kb : ClassId} {g : Nat → Int32} {n : Nat} {ws : List Addr} (H : own_StrL Z h a t kb g n) (K : Keep h h' ws) (q1 : a ∉ ws) (q2 : t ∉ ws) : own_StrL Z h' a t kb g n := ⟨H.1.keep K, H.2.1.keep K q1, H.2.2.1.keep K q1, H.2.2.2.keep K q2⟩
/-- StringUTF16's statics -/
def own_US (Z : State) : Prop := Sta Z Z.heap "java/lang/StringUTF16" "$assertionsDisabled" "Z" (.int (1 : Int32)) ∧ Sta Z Z.heap "java/lang/StringUTF16" "HI_BYTE_SHIFT" "I" (.int (0 : Int32)) ∧ Sta Z Z.heap "java/lang/StringUTF16" "LO_BYTE_SHIFT" "I" (.int (8 : Int32))

theorem own_pn0 : plainName "java/lang/StringUTF16" = true := by first | (simp [plainName, overriddenIn]; done) | decide +kernel
theorem own_d_jdk_52_m5_0 : decode jdk_52_method_5_code 0 = .ok (.getstatic 44, 3) := by decide +kernel
theorem own_d_jdk_52_m5_3 : decode jdk_52_method_5_code 3 = .ok (.ifCond .ne 25, 3) := by decide +kernel
theorem own_d_jdk_52_m5_28 : decode jdk_52_method_5_code 28 = .ok (.iload_n 1, 1) := by decide +kernel
theorem own_d_jdk_52_m5_29 : decode jdk_52_method_5_code 29 = .ok (.iconst 1, 1) := by decide +kernel
theorem own_d_jdk_52_m5_30 : decode jdk_52_method_5_code 30 = .ok (.ishl, 1) := by decide +kernel
theorem own_d_jdk_52_m5_31 : decode jdk_52_method_5_code 31 = .ok (.istore_n 1, 1) := by decide +kernel
theorem own_d_jdk_52_m5_32 : decode jdk_52_method_5_code 32 = .ok (.aload_n 0, 1) := by decide +kernel
theorem own_d_jdk_52_m5_33 : decode jdk_52_method_5_code 33 = .ok (.iload_n 1, 1) := by decide +kernel
theorem own_d_jdk_52_m5_34 : decode jdk_52_method_5_code 34 = .ok (.iinc 1 1, 3) := by decide +kernel
theorem own_d_jdk_52_m5_37 : decode jdk_52_method_5_code 37 = .ok (.baload, 1) := by decide +kernel
theorem own_d_jdk_52_m5_38 : decode jdk_52_method_5_code 38 = .ok (.sipush 255, 3) := by decide +kernel
theorem own_d_jdk_52_m5_41 : decode jdk_52_method_5_code 41 = .ok (.iand, 1) := by decide +kernel
theorem own_d_jdk_52_m5_42 : decode jdk_52_method_5_code 42 = .ok (.getstatic 59, 3) := by decide +kernel
theorem own_d_jdk_52_m5_45 : decode jdk_52_method_5_code 45 = .ok (.ishl, 1) := by decide +kernel
theorem own_d_jdk_52_m5_46 : decode jdk_52_method_5_code 46 = .ok (.aload_n 0, 1) := by decide +kernel
theorem own_d_jdk_52_m5_47 : decode jdk_52_method_5_code 47 = .ok (.iload_n 1, 1) := by decide +kernel
theorem own_d_jdk_52_m5_48 : decode jdk_52_method_5_code 48 = .ok (.baload, 1) := by decide +kernel
theorem own_d_jdk_52_m5_49 : decode jdk_52_method_5_code 49 = .ok (.sipush 255, 3) := by decide +kernel
theorem own_d_jdk_52_m5_52 : decode jdk_52_method_5_code 52 = .ok (.iand, 1) := by decide +kernel
theorem own_d_jdk_52_m5_53 : decode jdk_52_method_5_code 53 = .ok (.getstatic 63, 3) := by decide +kernel
theorem own_d_jdk_52_m5_56 : decode jdk_52_method_5_code 56 = .ok (.ishl, 1) := by decide +kernel
theorem own_d_jdk_52_m5_57 : decode jdk_52_method_5_code 57 = .ok (.ior, 1) := by decide +kernel
theorem own_d_jdk_52_m5_58 : decode jdk_52_method_5_code 58 = .ok (.i2c, 1) := by decide +kernel
theorem own_d_jdk_52_m5_59 : decode jdk_52_method_5_code 59 = .ok (.ireturn, 1) := by decide +kernel
set_option maxRecDepth 65536 in
set_option maxHeartbeats 40000000 in
theorem own_getChar (l : Launch) (Z : State) (a0 : Array Value) (hw : ∀ d ∈ tables_1, d.before a0 Z = true) (ws : List Jvm.Cond) (a1 : Addr) (i n : Nat) (f : Nat → Int32) (kb : ClassId) (h0 : Heap) (O0 : Old Z Z.heap.size h0) (hi : i < n) (hn : n ≤ 4) (hf : 0 ≤ (f i).toInt ∧ (f i).toInt < 65536) (US : own_US Z) (V1 : Arv Z h0 a1 kb .byte (Int32.ofNat (2 * n)) (own_vals (own_wide f) (2 * n)) (.int (0 : Int32))) :
    own_Met l Z (⟨"java/lang/StringUTF16", "getChar", "([BI)C"⟩ : MethodName) jdk_52_method_5_code 2 (some .char) ws ({ frames := 0, cells := 0, slots := 0, locals := 0 } : Room) #[(.ref a1), (.int (Int32.ofNat i))] h0 (fun v h L => v = some (.int (f i)) ∧ Fr Z.heap.size L ∧ h = h0) (({ frames := 0, cells := 0, slots := 0, locals := 0 } : Room)).cells (({ frames := 0, cells := 0, slots := 0, locals := 0 } : Room)).slots := by
  refine own_body (ef := fun m => mkF m 0 #[.val (.ref a1), .val (.int (Int32.ofNat i))] []) (plainFor_of_name own_pn0) (fun m => by first | rfl | (simp [entryFrame, mkF, argsToLocals, Value.category]; done)) ?_
  intro p e s m below meth c T0 hx hZ hby hml hown hnm hret hlk X0 e0
  have N0 := Fr.nil Z.heap.size
  have z0 : Z.heap.size ≤ h0.size := O0.2.1
  have Kr := Keep.refl h0 []
  show own_G _ _ _ _ (T0.setTop (mkF m 0 #[.val (.ref a1), .val (.int (Int32.ofNat i))] []))
  obtain ⟨U1, U2, U3⟩ := US
  obtain ⟨T1, X1, e1, st1⟩ := getS2 X0 hx hZ hown (host := "") (Or.inl (hw _ (List.mem_of_getElem? (i := 60) rfl))) Via.refl e0 (Sta.ext O0.2 U1) (g := (mkF m 0 #[.val (.ref a1), .val (.int (Int32.ofNat i))] [])) rfl (hb hby own_d_jdk_52_m5_0)
  refine own_st st1 ?_
  show own_G _ _ _ _ (T1.setTop (mkF m 3 #[.val (.ref a1), .val (.int (Int32.ofNat i))] [(.int (1 : Int32))]))
  refine own_st (fun _ k => XS.ifYes X1.here hx rfl (pc0 := 3) (pc' := 28) rfl (hb hby own_d_jdk_52_m5_3) rfl ((if0 _ _).trans (feq (by decide)).2) (by decide) (by decide) k) ?_
  show own_G _ _ _ _ (T1.setTop (mkF m 28 #[.val (.ref a1), .val (.int (Int32.ofNat i))] []))
  refine own_st (fun _ k => XS.iloadN X1.here hx rfl (hb hby own_d_jdk_52_m5_28) rfl k) ?_
  show own_G _ _ _ _ (T1.setTop (mkF m 29 #[.val (.ref a1), .val (.int (Int32.ofNat i))] [(.int (Int32.ofNat i))]))
  refine own_st (fun _ k => XS.iconst X1.here hx rfl (hb hby own_d_jdk_52_m5_29) k) ?_
  show own_G _ _ _ _ (T1.setTop (mkF m 30 #[.val (.ref a1), .val (.int (Int32.ofNat i))] [(.int (1 : Int32)), (.int (Int32.ofNat i))]))
  refine own_st (fun _ k => XS.ishl X1.here hx rfl (hb hby own_d_jdk_52_m5_30) rfl k) ?_
  show own_G _ _ _ _ (T1.setTop (mkF m 31 #[.val (.ref a1), .val (.int (Int32.ofNat i))] [(.int ((Int32.ofNat i) <<< ((1 : Int32) &&& 31)))]))
  rw [own_shl1 (by omega)]
  show own_G _ _ _ _ (T1.setTop (mkF m 31 #[.val (.ref a1), .val (.int (Int32.ofNat i))] [(.int (Int32.ofNat (2 * i)))]))
  refine own_st (fun _ k => XS.istoreN X1.here hx rfl (hb hby own_d_jdk_52_m5_31) rfl (l' := #[.val (.ref a1), .val (.int (Int32.ofNat (2 * i)))]) rfl k) ?_
  show own_G _ _ _ _ (T1.setTop (mkF m 32 #[.val (.ref a1), .val (.int (Int32.ofNat (2 * i)))] []))
  refine own_st (fun _ k => XS.aloadN X1.here hx rfl (hb hby own_d_jdk_52_m5_32) rfl rfl k) ?_
  show own_G _ _ _ _ (T1.setTop (mkF m 33 #[.val (.ref a1), .val (.int (Int32.ofNat (2 * i)))] [(.ref a1)]))
  refine own_st (fun _ k => XS.iloadN X1.here hx rfl (hb hby own_d_jdk_52_m5_33) rfl k) ?_
  show own_G _ _ _ _ (T1.setTop (mkF m 34 #[.val (.ref a1), .val (.int (Int32.ofNat (2 * i)))] [(.int (Int32.ofNat (2 * i))), (.ref a1)]))
  refine own_st (fun _ k => XS.iinc X1.here hx rfl (hb hby own_d_jdk_52_m5_34) rfl (l' := #[.val (.ref a1), .val (.int ((Int32.ofNat (2 * i)) + (1 : Int32)))]) rfl k) ?_
  show own_G _ _ _ _ (T1.setTop (mkF m 37 #[.val (.ref a1), .val (.int ((Int32.ofNat (2 * i)) + (1 : Int32)))] [(.int (Int32.ofNat (2 * i))), (.ref a1)]))
  obtain ⟨cl2, Ar2, qk2, Sz2, Mz2, Hz2, Uz2⟩ := id V1
  refine own_st (X1.baloadBytes hx (j := (Int32.ofNat (2 * i))) (v := (.int (own_wide f (2 * i)))) (by rw [e1]; exact Ar2.1) (State.isArrayOf_alike hZ.alike Ar2.2.1) Ar2.2.2 (own_in Sz2 (by omega) (by omega)) (own_get Sz2 Hz2 (by omega) (by omega)) (g := (mkF m 37 #[.val (.ref a1), .val (.int ((Int32.ofNat (2 * i)) + (1 : Int32)))] [(.int (Int32.ofNat (2 * i))), (.ref a1)])) rfl rfl (hb hby own_d_jdk_52_m5_37)) ?_
  show own_G _ _ _ _ (T1.setTop (mkF m 38 #[.val (.ref a1), .val (.int ((Int32.ofNat (2 * i)) + (1 : Int32)))] [(.int (own_wide f (2 * i)))]))
  rw [own_one]
  show own_G _ _ _ _ (T1.setTop (mkF m 38 #[.val (.ref a1), .val (.int (Int32.ofNat (2 * i + 1)))] [(.int (own_wide f (2 * i)))]))
  refine own_st (fun _ k => XS.sipush X1.here hx rfl (hb hby own_d_jdk_52_m5_38) k) ?_
  show own_G _ _ _ _ (T1.setTop (mkF m 41 #[.val (.ref a1), .val (.int (Int32.ofNat (2 * i + 1)))] [(.int (255 : Int32)), (.int (own_wide f (2 * i)))]))
  refine own_st (fun _ k => XS.iand X1.here hx rfl (hb hby own_d_jdk_52_m5_41) rfl k) ?_
  show own_G _ _ _ _ (T1.setTop (mkF m 42 #[.val (.ref a1), .val (.int (Int32.ofNat (2 * i + 1)))] [(.int ((own_wide f (2 * i)) &&& (255 : Int32)))]))
  obtain ⟨T3, X3, e3, st3⟩ := getS2 X1 hx hZ hown (host := "") (Or.inl (hw _ (List.mem_of_getElem? (i := 61) rfl))) Via.refl e1 (Sta.ext O0.2 U2) (g := (mkF m 42 #[.val (.ref a1), .val (.int (Int32.ofNat (2 * i + 1)))] [(.int ((own_wide f (2 * i)) &&& (255 : Int32)))])) rfl (hb hby own_d_jdk_52_m5_42)
  refine own_st st3 ?_
  show own_G _ _ _ _ (T3.setTop (mkF m 45 #[.val (.ref a1), .val (.int (Int32.ofNat (2 * i + 1)))] [(.int (0 : Int32)), (.int ((own_wide f (2 * i)) &&& (255 : Int32)))]))
  refine own_st (fun _ k => XS.ishl X3.here hx rfl (hb hby own_d_jdk_52_m5_45) rfl k) ?_
  show own_G _ _ _ _ (T3.setTop (mkF m 46 #[.val (.ref a1), .val (.int (Int32.ofNat (2 * i + 1)))] [(.int (((own_wide f (2 * i)) &&& (255 : Int32)) <<< ((0 : Int32) &&& 31)))]))
  refine own_st (fun _ k => XS.aloadN X3.here hx rfl (hb hby own_d_jdk_52_m5_46) rfl rfl k) ?_
  show own_G _ _ _ _ (T3.setTop (mkF m 47 #[.val (.ref a1), .val (.int (Int32.ofNat (2 * i + 1)))] [(.ref a1), (.int (((own_wide f (2 * i)) &&& (255 : Int32)) <<< ((0 : Int32) &&& 31)))]))
  refine own_st (fun _ k => XS.iloadN X3.here hx rfl (hb hby own_d_jdk_52_m5_47) rfl k) ?_
  show own_G _ _ _ _ (T3.setTop (mkF m 48 #[.val (.ref a1), .val (.int (Int32.ofNat (2 * i + 1)))] [(.int (Int32.ofNat (2 * i + 1))), (.ref a1), (.int (((own_wide f (2 * i)) &&& (255 : Int32)) <<< ((0 : Int32) &&& 31)))]))
  obtain ⟨cl4, Ar4, qk4, Sz4, Mz4, Hz4, Uz4⟩ := id V1
  refine own_st (X3.baloadBytes hx (j := (Int32.ofNat (2 * i + 1))) (v := (.int (own_wide f (2 * i + 1)))) (by rw [e3]; exact Ar4.1) (State.isArrayOf_alike hZ.alike Ar4.2.1) Ar4.2.2 (own_in Sz4 (by omega) (by omega)) (own_get Sz4 Hz4 (by omega) (by omega)) (g := (mkF m 48 #[.val (.ref a1), .val (.int (Int32.ofNat (2 * i + 1)))] [(.int (Int32.ofNat (2 * i + 1))), (.ref a1), (.int (((own_wide f (2 * i)) &&& (255 : Int32)) <<< ((0 : Int32) &&& 31)))])) rfl rfl (hb hby own_d_jdk_52_m5_48)) ?_
  show own_G _ _ _ _ (T3.setTop (mkF m 49 #[.val (.ref a1), .val (.int (Int32.ofNat (2 * i + 1)))] [(.int (own_wide f (2 * i + 1))), (.int (((own_wide f (2 * i)) &&& (255 : Int32)) <<< ((0 : Int32) &&& 31)))]))
  refine own_st (fun _ k => XS.sipush X3.here hx rfl (hb hby own_d_jdk_52_m5_49) k) ?_
  show own_G _ _ _ _ (T3.setTop (mkF m 52 #[.val (.ref a1), .val (.int (Int32.ofNat (2 * i + 1)))] [(.int (255 : Int32)), (.int (own_wide f (2 * i + 1))), (.int (((own_wide f (2 * i)) &&& (255 : Int32)) <<< ((0 : Int32) &&& 31)))]))
  refine own_st (fun _ k => XS.iand X3.here hx rfl (hb hby own_d_jdk_52_m5_52) rfl k) ?_
  show own_G _ _ _ _ (T3.setTop (mkF m 53 #[.val (.ref a1), .val (.int (Int32.ofNat (2 * i + 1)))] [(.int ((own_wide f (2 * i + 1)) &&& (255 : Int32))), (.int (((own_wide f (2 * i)) &&& (255 : Int32)) <<< ((0 : Int32) &&& 31)))]))
  obtain ⟨T5, X5, e5, st5⟩ := getS2 X3 hx hZ hown (host := "") (Or.inl (hw _ (List.mem_of_getElem? (i := 62) rfl))) Via.refl e3 (Sta.ext O0.2 U3) (g := (mkF m 53 #[.val (.ref a1), .val (.int (Int32.ofNat (2 * i + 1)))] [(.int ((own_wide f (2 * i + 1)) &&& (255 : Int32))), (.int (((own_wide f (2 * i)) &&& (255 : Int32)) <<< ((0 : Int32) &&& 31)))])) rfl (hb hby own_d_jdk_52_m5_53)
  refine own_st st5 ?_
  show own_G _ _ _ _ (T5.setTop (mkF m 56 #[.val (.ref a1), .val (.int (Int32.ofNat (2 * i + 1)))] [(.int (8 : Int32)), (.int ((own_wide f (2 * i + 1)) &&& (255 : Int32))), (.int (((own_wide f (2 * i)) &&& (255 : Int32)) <<< ((0 : Int32) &&& 31)))]))
  refine own_st (fun _ k => XS.ishl X5.here hx rfl (hb hby own_d_jdk_52_m5_56) rfl k) ?_
  show own_G _ _ _ _ (T5.setTop (mkF m 57 #[.val (.ref a1), .val (.int (Int32.ofNat (2 * i + 1)))] [(.int (((own_wide f (2 * i + 1)) &&& (255 : Int32)) <<< ((8 : Int32) &&& 31))), (.int (((own_wide f (2 * i)) &&& (255 : Int32)) <<< ((0 : Int32) &&& 31)))]))
  refine own_st (fun _ k => XS.ior X5.here hx rfl (hb hby own_d_jdk_52_m5_57) rfl k) ?_
  show own_G _ _ _ _ (T5.setTop (mkF m 58 #[.val (.ref a1), .val (.int (Int32.ofNat (2 * i + 1)))] [(.int ((((own_wide f (2 * i)) &&& (255 : Int32)) <<< ((0 : Int32) &&& 31)) ||| (((own_wide f (2 * i + 1)) &&& (255 : Int32)) <<< ((8 : Int32) &&& 31))))]))
  refine own_st (fun _ k => XS.i2c X5.here hx rfl (hb hby own_d_jdk_52_m5_58) rfl k) ?_
  show own_G _ _ _ _ (T5.setTop (mkF m 59 #[.val (.ref a1), .val (.int (Int32.ofNat (2 * i + 1)))] [(.int (((((own_wide f (2 * i)) &&& (255 : Int32)) <<< ((0 : Int32) &&& 31)) ||| (((own_wide f (2 * i + 1)) &&& (255 : Int32)) <<< ((8 : Int32) &&& 31))).toUInt32.toUInt16.toUInt32.toInt32))]))
  exact own_retN X5 hx hret hlk (by simp) (hb hby own_d_jdk_52_m5_59) (by rw [e5]; exact ⟨by rw [own_wide0, own_wide1, own_pair hf.1 hf.2], N0, rfl⟩) (by decide) (by decide)
theorem own_d_jdk_52_m4_0 : decode jdk_52_method_4_code 0 = .ok (.getstatic 44, 3) := by decide +kernel
theorem own_d_jdk_52_m4_3 : decode jdk_52_method_4_code 3 = .ok (.ifCond .ne 25, 3) := by decide +kernel
theorem own_d_jdk_52_m4_28 : decode jdk_52_method_4_code 28 = .ok (.iload_n 1, 1) := by decide +kernel
theorem own_d_jdk_52_m4_29 : decode jdk_52_method_4_code 29 = .ok (.iconst 1, 1) := by decide +kernel
theorem own_d_jdk_52_m4_30 : decode jdk_52_method_4_code 30 = .ok (.ishl, 1) := by decide +kernel
theorem own_d_jdk_52_m4_31 : decode jdk_52_method_4_code 31 = .ok (.istore_n 1, 1) := by decide +kernel
theorem own_d_jdk_52_m4_32 : decode jdk_52_method_4_code 32 = .ok (.aload_n 0, 1) := by decide +kernel
theorem own_d_jdk_52_m4_33 : decode jdk_52_method_4_code 33 = .ok (.iload_n 1, 1) := by decide +kernel
theorem own_d_jdk_52_m4_34 : decode jdk_52_method_4_code 34 = .ok (.iinc 1 1, 3) := by decide +kernel
theorem own_d_jdk_52_m4_37 : decode jdk_52_method_4_code 37 = .ok (.iload_n 2, 1) := by decide +kernel
theorem own_d_jdk_52_m4_38 : decode jdk_52_method_4_code 38 = .ok (.getstatic 59, 3) := by decide +kernel
theorem own_d_jdk_52_m4_41 : decode jdk_52_method_4_code 41 = .ok (.ishr, 1) := by decide +kernel
theorem own_d_jdk_52_m4_42 : decode jdk_52_method_4_code 42 = .ok (.i2b, 1) := by decide +kernel
theorem own_d_jdk_52_m4_43 : decode jdk_52_method_4_code 43 = .ok (.bastore, 1) := by decide +kernel
theorem own_d_jdk_52_m4_44 : decode jdk_52_method_4_code 44 = .ok (.aload_n 0, 1) := by decide +kernel
theorem own_d_jdk_52_m4_45 : decode jdk_52_method_4_code 45 = .ok (.iload_n 1, 1) := by decide +kernel
theorem own_d_jdk_52_m4_46 : decode jdk_52_method_4_code 46 = .ok (.iload_n 2, 1) := by decide +kernel
theorem own_d_jdk_52_m4_47 : decode jdk_52_method_4_code 47 = .ok (.getstatic 63, 3) := by decide +kernel
theorem own_d_jdk_52_m4_50 : decode jdk_52_method_4_code 50 = .ok (.ishr, 1) := by decide +kernel
theorem own_d_jdk_52_m4_51 : decode jdk_52_method_4_code 51 = .ok (.i2b, 1) := by decide +kernel
theorem own_d_jdk_52_m4_52 : decode jdk_52_method_4_code 52 = .ok (.bastore, 1) := by decide +kernel
theorem own_d_jdk_52_m4_53 : decode jdk_52_method_4_code 53 = .ok (.return_, 1) := by decide +kernel
set_option maxRecDepth 65536 in
set_option maxHeartbeats 40000000 in
theorem own_putChar (l : Launch) (Z : State) (a0 : Array Value) (hw : ∀ d ∈ tables_1, d.before a0 Z = true) (ws : List Jvm.Cond) (a1 : Addr) (i n : Nat) (f : Nat → Int32) (kb : ClassId) (h0 : Heap) (O0 : Old Z Z.heap.size h0) (hi : i < n) (hn : n ≤ 4) (g1 : Z.heap.size ≤ a1) (US : own_US Z) (V1 : Arv Z h0 a1 kb .byte (Int32.ofNat (2 * n)) (own_vals (own_wide f) (2 * i)) (.int (0 : Int32))) :
    own_Met l Z (⟨"java/lang/StringUTF16", "putChar", "([BII)V"⟩ : MethodName) jdk_52_method_4_code 3 none ws ({ frames := 0, cells := 0, slots := 0, locals := 0 } : Room) #[(.ref a1), (.int (Int32.ofNat i)), (.int (f i))] h0 (fun v h L => v = none ∧ Fr Z.heap.size L ∧ Keep h0 h [a1] ∧ Arv Z h a1 kb .byte (Int32.ofNat (2 * n)) (own_vals (own_wide f) (2 * (i + 1))) (.int (0 : Int32))) (({ frames := 0, cells := 0, slots := 0, locals := 0 } : Room)).cells (({ frames := 0, cells := 0, slots := 0, locals := 0 } : Room)).slots := by
  refine own_body (ef := fun m => mkF m 0 #[.val (.ref a1), .val (.int (Int32.ofNat i)), .val (.int (f i))] []) (plainFor_of_name own_pn0) (fun m => by first | rfl | (simp [entryFrame, mkF, argsToLocals, Value.category]; done)) ?_
  intro p e s m below meth c T0 hx hZ hby hml hown hnm hret hlk X0 e0
  have N0 := Fr.nil Z.heap.size
  have z0 : Z.heap.size ≤ h0.size := O0.2.1
  have Kr := Keep.refl h0 [a1]
  show own_G _ _ _ _ (T0.setTop (mkF m 0 #[.val (.ref a1), .val (.int (Int32.ofNat i)), .val (.int (f i))] []))
  obtain ⟨U1, U2, U3⟩ := US
  have lta := own_ltN V1.lt
  obtain ⟨T1, X1, e1, st1⟩ := getS2 X0 hx hZ hown (host := "") (Or.inl (hw _ (List.mem_of_getElem? (i := 60) rfl))) Via.refl e0 (Sta.ext O0.2 U1) (g := (mkF m 0 #[.val (.ref a1), .val (.int (Int32.ofNat i)), .val (.int (f i))] [])) rfl (hb hby own_d_jdk_52_m4_0)
  refine own_st st1 ?_
  show own_G _ _ _ _ (T1.setTop (mkF m 3 #[.val (.ref a1), .val (.int (Int32.ofNat i)), .val (.int (f i))] [(.int (1 : Int32))]))
  refine own_st (fun _ k => XS.ifYes X1.here hx rfl (pc0 := 3) (pc' := 28) rfl (hb hby own_d_jdk_52_m4_3) rfl ((if0 _ _).trans (feq (by decide)).2) (by decide) (by decide) k) ?_
  show own_G _ _ _ _ (T1.setTop (mkF m 28 #[.val (.ref a1), .val (.int (Int32.ofNat i)), .val (.int (f i))] []))
  refine own_st (fun _ k => XS.iloadN X1.here hx rfl (hb hby own_d_jdk_52_m4_28) rfl k) ?_
  show own_G _ _ _ _ (T1.setTop (mkF m 29 #[.val (.ref a1), .val (.int (Int32.ofNat i)), .val (.int (f i))] [(.int (Int32.ofNat i))]))
  refine own_st (fun _ k => XS.iconst X1.here hx rfl (hb hby own_d_jdk_52_m4_29) k) ?_
  show own_G _ _ _ _ (T1.setTop (mkF m 30 #[.val (.ref a1), .val (.int (Int32.ofNat i)), .val (.int (f i))] [(.int (1 : Int32)), (.int (Int32.ofNat i))]))
  refine own_st (fun _ k => XS.ishl X1.here hx rfl (hb hby own_d_jdk_52_m4_30) rfl k) ?_
  show own_G _ _ _ _ (T1.setTop (mkF m 31 #[.val (.ref a1), .val (.int (Int32.ofNat i)), .val (.int (f i))] [(.int ((Int32.ofNat i) <<< ((1 : Int32) &&& 31)))]))
  rw [own_shl1 (by omega)]
  show own_G _ _ _ _ (T1.setTop (mkF m 31 #[.val (.ref a1), .val (.int (Int32.ofNat i)), .val (.int (f i))] [(.int (Int32.ofNat (2 * i)))]))
  refine own_st (fun _ k => XS.istoreN X1.here hx rfl (hb hby own_d_jdk_52_m4_31) rfl (l' := #[.val (.ref a1), .val (.int (Int32.ofNat (2 * i))), .val (.int (f i))]) rfl k) ?_
  show own_G _ _ _ _ (T1.setTop (mkF m 32 #[.val (.ref a1), .val (.int (Int32.ofNat (2 * i))), .val (.int (f i))] []))
  refine own_st (fun _ k => XS.aloadN X1.here hx rfl (hb hby own_d_jdk_52_m4_32) rfl rfl k) ?_
  show own_G _ _ _ _ (T1.setTop (mkF m 33 #[.val (.ref a1), .val (.int (Int32.ofNat (2 * i))), .val (.int (f i))] [(.ref a1)]))
  refine own_st (fun _ k => XS.iloadN X1.here hx rfl (hb hby own_d_jdk_52_m4_33) rfl k) ?_
  show own_G _ _ _ _ (T1.setTop (mkF m 34 #[.val (.ref a1), .val (.int (Int32.ofNat (2 * i))), .val (.int (f i))] [(.int (Int32.ofNat (2 * i))), (.ref a1)]))
  refine own_st (fun _ k => XS.iinc X1.here hx rfl (hb hby own_d_jdk_52_m4_34) rfl (l' := #[.val (.ref a1), .val (.int ((Int32.ofNat (2 * i)) + (1 : Int32))), .val (.int (f i))]) rfl k) ?_
  show own_G _ _ _ _ (T1.setTop (mkF m 37 #[.val (.ref a1), .val (.int ((Int32.ofNat (2 * i)) + (1 : Int32))), .val (.int (f i))] [(.int (Int32.ofNat (2 * i))), (.ref a1)]))
  refine own_st (fun _ k => XS.iloadN X1.here hx rfl (hb hby own_d_jdk_52_m4_37) rfl k) ?_
  show own_G _ _ _ _ (T1.setTop (mkF m 38 #[.val (.ref a1), .val (.int ((Int32.ofNat (2 * i)) + (1 : Int32))), .val (.int (f i))] [(.int (f i)), (.int (Int32.ofNat (2 * i))), (.ref a1)]))
  obtain ⟨T2, X2, e2, st2⟩ := getS2 X1 hx hZ hown (host := "") (Or.inl (hw _ (List.mem_of_getElem? (i := 61) rfl))) Via.refl e1 (Sta.ext O0.2 U2) (g := (mkF m 38 #[.val (.ref a1), .val (.int ((Int32.ofNat (2 * i)) + (1 : Int32))), .val (.int (f i))] [(.int (f i)), (.int (Int32.ofNat (2 * i))), (.ref a1)])) rfl (hb hby own_d_jdk_52_m4_38)
  refine own_st st2 ?_
  show own_G _ _ _ _ (T2.setTop (mkF m 41 #[.val (.ref a1), .val (.int ((Int32.ofNat (2 * i)) + (1 : Int32))), .val (.int (f i))] [(.int (0 : Int32)), (.int (f i)), (.int (Int32.ofNat (2 * i))), (.ref a1)]))
  refine own_st (fun _ k => XS.ishr X2.here hx rfl (hb hby own_d_jdk_52_m4_41) rfl k) ?_
  show own_G _ _ _ _ (T2.setTop (mkF m 42 #[.val (.ref a1), .val (.int ((Int32.ofNat (2 * i)) + (1 : Int32))), .val (.int (f i))] [(.int ((f i) >>> ((0 : Int32) &&& 31))), (.int (Int32.ofNat (2 * i))), (.ref a1)]))
  refine own_st (fun _ k => XS.i2b X2.here hx rfl (hb hby own_d_jdk_52_m4_42) rfl k) ?_
  show own_G _ _ _ _ (T2.setTop (mkF m 43 #[.val (.ref a1), .val (.int ((Int32.ofNat (2 * i)) + (1 : Int32))), .val (.int (f i))] [(.int (((f i) >>> ((0 : Int32) &&& 31)).toInt8.toInt32)), (.int (Int32.ofNat (2 * i))), (.ref a1)]))
  have V3p : Arv Z h0 a1 kb .byte (Int32.ofNat (2 * n)) ((own_vals (own_wide f) (2 * i)) ++ [(.int (0 : Int32))]) (.int (0 : Int32)) := V1.pad (pad_rep (own_vals (own_wide f) (2 * i)) (.int (0 : Int32)) 1)
  obtain ⟨cl4, Ar4, qk4, Sz4, Mz4, Hz4, Uz4⟩ := id V3p
  obtain ⟨T5, h5, X5, e5, W5, st5⟩ := stB X2 hx hZ e2 Ar4 (j := (Int32.ofNat (2 * i))) (own_in Sz4 (by omega) (by omega)) (g := (mkF m 43 #[.val (.ref a1), .val (.int ((Int32.ofNat (2 * i)) + (1 : Int32))), .val (.int (f i))] [(.int (((f i) >>> ((0 : Int32) &&& 31)).toInt8.toInt32)), (.int (Int32.ofNat (2 * i))), (.ref a1)])) rfl rfl (hb hby own_d_jdk_52_m4_43)
  refine own_st st5 ?_
  have V5 := Arv.set Ar4 qk4 Sz4 Mz4 Hz4 Uz4 (fits_nar_byte _) W5 (own_vals (own_wide f) (2 * i)).length (by rw [own_clamp (by omega), own_len]) (by simp)
  have z6 : h5.size = h0.size := W5.size
  have O7 := Old.wr O0 W5 (by omega)
  have K8 : Keep h0 h5 [a1] := Kr.wr W5 (Or.inl (by simp))
  have N5 := Fr.snoc X5 N0 (by omega : Z.heap.size ≤ a1)
  have V5' : Arv Z h5 a1 kb .byte (Int32.ofNat (2 * n)) (own_vals (own_wide f) (2 * i + 1)) (.int (0 : Int32)) := by have q := V5; rw [own_set] at q; rw [← own_next, own_wide0]; exact q
  show own_G _ _ _ _ (T5.setTop (mkF m 44 #[.val (.ref a1), .val (.int ((Int32.ofNat (2 * i)) + (1 : Int32))), .val (.int (f i))] []))
  rw [own_one]
  show own_G _ _ _ _ (T5.setTop (mkF m 44 #[.val (.ref a1), .val (.int (Int32.ofNat (2 * i + 1))), .val (.int (f i))] []))
  refine own_st (fun _ k => XS.aloadN X5.here hx rfl (hb hby own_d_jdk_52_m4_44) rfl rfl k) ?_
  show own_G _ _ _ _ (T5.setTop (mkF m 45 #[.val (.ref a1), .val (.int (Int32.ofNat (2 * i + 1))), .val (.int (f i))] [(.ref a1)]))
  refine own_st (fun _ k => XS.iloadN X5.here hx rfl (hb hby own_d_jdk_52_m4_45) rfl k) ?_
  show own_G _ _ _ _ (T5.setTop (mkF m 46 #[.val (.ref a1), .val (.int (Int32.ofNat (2 * i + 1))), .val (.int (f i))] [(.int (Int32.ofNat (2 * i + 1))), (.ref a1)]))
  refine own_st (fun _ k => XS.iloadN X5.here hx rfl (hb hby own_d_jdk_52_m4_46) rfl k) ?_
  show own_G _ _ _ _ (T5.setTop (mkF m 47 #[.val (.ref a1), .val (.int (Int32.ofNat (2 * i + 1))), .val (.int (f i))] [(.int (f i)), (.int (Int32.ofNat (2 * i + 1))), (.ref a1)]))
  obtain ⟨T9, X9, e9, st9⟩ := getS2 X5 hx hZ hown (host := "") (Or.inl (hw _ (List.mem_of_getElem? (i := 62) rfl))) Via.refl e5 (Sta.ext O7.2 U3) (g := (mkF m 47 #[.val (.ref a1), .val (.int (Int32.ofNat (2 * i + 1))), .val (.int (f i))] [(.int (f i)), (.int (Int32.ofNat (2 * i + 1))), (.ref a1)])) rfl (hb hby own_d_jdk_52_m4_47)
  refine own_st st9 ?_
  show own_G _ _ _ _ (T9.setTop (mkF m 50 #[.val (.ref a1), .val (.int (Int32.ofNat (2 * i + 1))), .val (.int (f i))] [(.int (8 : Int32)), (.int (f i)), (.int (Int32.ofNat (2 * i + 1))), (.ref a1)]))
  refine own_st (fun _ k => XS.ishr X9.here hx rfl (hb hby own_d_jdk_52_m4_50) rfl k) ?_
  show own_G _ _ _ _ (T9.setTop (mkF m 51 #[.val (.ref a1), .val (.int (Int32.ofNat (2 * i + 1))), .val (.int (f i))] [(.int ((f i) >>> ((8 : Int32) &&& 31))), (.int (Int32.ofNat (2 * i + 1))), (.ref a1)]))
  refine own_st (fun _ k => XS.i2b X9.here hx rfl (hb hby own_d_jdk_52_m4_51) rfl k) ?_
  show own_G _ _ _ _ (T9.setTop (mkF m 52 #[.val (.ref a1), .val (.int (Int32.ofNat (2 * i + 1))), .val (.int (f i))] [(.int (((f i) >>> ((8 : Int32) &&& 31)).toInt8.toInt32)), (.int (Int32.ofNat (2 * i + 1))), (.ref a1)]))
  have V10p : Arv Z h5 a1 kb .byte (Int32.ofNat (2 * n)) ((own_vals (own_wide f) (2 * i + 1)) ++ [(.int (0 : Int32))]) (.int (0 : Int32)) := V5'.pad (pad_rep (own_vals (own_wide f) (2 * i + 1)) (.int (0 : Int32)) 1)
  obtain ⟨cl11, Ar11, qk11, Sz11, Mz11, Hz11, Uz11⟩ := id V10p
  obtain ⟨T12, h12, X12, e12, W12, st12⟩ := stB X9 hx hZ e9 Ar11 (j := (Int32.ofNat (2 * i + 1))) (own_in Sz11 (by omega) (by omega)) (g := (mkF m 52 #[.val (.ref a1), .val (.int (Int32.ofNat (2 * i + 1))), .val (.int (f i))] [(.int (((f i) >>> ((8 : Int32) &&& 31)).toInt8.toInt32)), (.int (Int32.ofNat (2 * i + 1))), (.ref a1)])) rfl rfl (hb hby own_d_jdk_52_m4_52)
  refine own_st st12 ?_
  have V12 := Arv.set Ar11 qk11 Sz11 Mz11 Hz11 Uz11 (fits_nar_byte _) W12 (own_vals (own_wide f) (2 * i + 1)).length (by rw [own_clamp (by omega), own_len]) (by simp)
  have z13 : h12.size = h5.size := W12.size
  have O14 := Old.wr O7 W12 (by omega)
  have K15 : Keep h0 h12 [a1] := K8.wr W12 (Or.inl (by simp))
  have N12 := Fr.snoc X12 N5 (by omega : Z.heap.size ≤ a1)
  have V12' : Arv Z h12 a1 kb .byte (Int32.ofNat (2 * n)) (own_vals (own_wide f) (2 * (i + 1))) (.int (0 : Int32)) := by have q := V12; rw [own_set] at q; rw [show 2 * (i + 1) = 2 * i + 1 + 1 by omega, ← own_next, own_wide1]; exact q
  show own_G _ _ _ _ (T12.setTop (mkF m 53 #[.val (.ref a1), .val (.int (Int32.ofNat (2 * i + 1))), .val (.int (f i))] []))
  exact own_ret0 X12 hx hret hlk (hb hby own_d_jdk_52_m4_53) (by rw [e12]; exact ⟨rfl, N12, K15, V12'⟩) (by decide) (by decide)
theorem own_d_jdk_52_m3_0 : decode jdk_52_method_3_code 0 = .ok (.iload_n 0, 1) := by decide +kernel
theorem own_d_jdk_52_m3_1 : decode jdk_52_method_3_code 1 = .ok (.ifCond .ge 11, 3) := by decide +kernel
theorem own_d_jdk_52_m3_12 : decode jdk_52_method_3_code 12 = .ok (.iload_n 0, 1) := by decide +kernel
theorem own_d_jdk_52_m3_13 : decode jdk_52_method_3_code 13 = .ok (.ldc 20, 2) := by decide +kernel
theorem own_d_jdk_52_m3_15 : decode jdk_52_method_3_code 15 = .ok (.if_icmp .lt 40, 3) := by decide +kernel
theorem own_d_jdk_52_m3_55 : decode jdk_52_method_3_code 55 = .ok (.iload_n 0, 1) := by decide +kernel
theorem own_d_jdk_52_m3_56 : decode jdk_52_method_3_code 56 = .ok (.iconst 1, 1) := by decide +kernel
theorem own_d_jdk_52_m3_57 : decode jdk_52_method_3_code 57 = .ok (.ishl, 1) := by decide +kernel
theorem own_d_jdk_52_m3_58 : decode jdk_52_method_3_code 58 = .ok (.ireturn, 1) := by decide +kernel
set_option maxRecDepth 65536 in
set_option maxHeartbeats 40000000 in
theorem own_nbl (l : Launch) (Z : State) (a0 : Array Value) (hw : ∀ d ∈ tables_1, d.before a0 Z = true) (ws : List Jvm.Cond)  (n : Nat) (h0 : Heap) (O0 : Old Z Z.heap.size h0) (hn : n ≤ 4) :
    own_Met l Z (⟨"java/lang/StringUTF16", "newBytesLength", "(I)I"⟩ : MethodName) jdk_52_method_3_code 1 (some .int) ws ({ frames := 0, cells := 0, slots := 0, locals := 0 } : Room) #[(.int (Int32.ofNat n))] h0 (fun v h L => v = some (.int (Int32.ofNat (2 * n))) ∧ Fr Z.heap.size L ∧ h = h0) (({ frames := 0, cells := 0, slots := 0, locals := 0 } : Room)).cells (({ frames := 0, cells := 0, slots := 0, locals := 0 } : Room)).slots := by
  refine own_body (ef := fun m => mkF m 0 #[.val (.int (Int32.ofNat n))] []) (plainFor_of_name own_pn0) (fun m => by first | rfl | (simp [entryFrame, mkF, argsToLocals, Value.category]; done)) ?_
  intro p e s m below meth c T0 hx hZ hby hml hown hnm hret hlk X0 e0
  have N0 := Fr.nil Z.heap.size
  have z0 : Z.heap.size ≤ h0.size := O0.2.1
  have Kr := Keep.refl h0 []
  show own_G _ _ _ _ (T0.setTop (mkF m 0 #[.val (.int (Int32.ofNat n))] []))
  refine own_st (fun _ k => XS.iloadN X0.here hx rfl (hb hby own_d_jdk_52_m3_0) rfl k) ?_
  show own_G _ _ _ _ (T0.setTop (mkF m 1 #[.val (.int (Int32.ofNat n))] [(.int (Int32.ofNat n))]))
  refine own_st (fun _ k => XS.ifYes X0.here hx rfl (pc0 := 1) (pc' := 12) rfl (hb hby own_d_jdk_52_m3_1) rfl ((if0 _ _).trans (flt (own_nn (by omega))).2.1) (by decide) (by decide) k) ?_
  show own_G _ _ _ _ (T0.setTop (mkF m 12 #[.val (.int (Int32.ofNat n))] []))
  refine own_st (fun _ k => XS.iloadN X0.here hx rfl (hb hby own_d_jdk_52_m3_12) rfl k) ?_
  show own_G _ _ _ _ (T0.setTop (mkF m 13 #[.val (.int (Int32.ofNat n))] [(.int (Int32.ofNat n))]))
  refine own_st (X0.ldcInt hx hown (mvT hZ (hw _ (List.mem_of_getElem? (i := 56) rfl))) (g := (mkF m 13 #[.val (.int (Int32.ofNat n))] [(.int (Int32.ofNat n))])) rfl (hb hby own_d_jdk_52_m3_13)) ?_
  show own_G _ _ _ _ (T0.setTop (mkF m 15 #[.val (.int (Int32.ofNat n))] [(.int (1073741823 : Int32)), (.int (Int32.ofNat n))]))
  refine own_st (fun _ k => XS.icmpYes X0.here hx rfl (pc0 := 15) (pc' := 55) rfl (hb hby own_d_jdk_52_m3_15) rfl (tlt (by show Int32.ofNat n < Int32.ofNat 1073741823; exact own_lt (by omega) (by omega))).1 (by decide) (by decide) k) ?_
  show own_G _ _ _ _ (T0.setTop (mkF m 55 #[.val (.int (Int32.ofNat n))] []))
  refine own_st (fun _ k => XS.iloadN X0.here hx rfl (hb hby own_d_jdk_52_m3_55) rfl k) ?_
  show own_G _ _ _ _ (T0.setTop (mkF m 56 #[.val (.int (Int32.ofNat n))] [(.int (Int32.ofNat n))]))
  refine own_st (fun _ k => XS.iconst X0.here hx rfl (hb hby own_d_jdk_52_m3_56) k) ?_
  show own_G _ _ _ _ (T0.setTop (mkF m 57 #[.val (.int (Int32.ofNat n))] [(.int (1 : Int32)), (.int (Int32.ofNat n))]))
  refine own_st (fun _ k => XS.ishl X0.here hx rfl (hb hby own_d_jdk_52_m3_57) rfl k) ?_
  show own_G _ _ _ _ (T0.setTop (mkF m 58 #[.val (.int (Int32.ofNat n))] [(.int ((Int32.ofNat n) <<< ((1 : Int32) &&& 31)))]))
  exact own_retI X0 hx hret hlk (hb hby own_d_jdk_52_m3_58) (by rw [e0]; exact ⟨by rw [own_shl1 (by omega)], N0, rfl⟩) (by decide) (by decide)
theorem own_d_jdk_52_m2_0 : decode jdk_52_method_2_code 0 = .ok (.iload_n 0, 1) := by decide +kernel
theorem own_d_jdk_52_m2_1 : decode jdk_52_method_2_code 1 = .ok (.invokestatic 11, 3) := by decide +kernel
theorem own_pd58 : parseMethodDescriptor "(I)I" = some ⟨[.int], some .int⟩ := by decide +kernel
theorem own_d_jdk_52_m2_4 : decode jdk_52_method_2_code 4 = .ok (.newarray .byte, 2) := by decide +kernel
theorem own_d_jdk_52_m2_6 : decode jdk_52_method_2_code 6 = .ok (.areturn, 1) := by decide +kernel
set_option maxRecDepth 65536 in
set_option maxHeartbeats 40000000 in
theorem own_nbf (l : Launch) (Z : State) (a0 : Array Value) (hw : ∀ d ∈ tables_1, d.before a0 Z = true) (ws : List Jvm.Cond)  (n : Nat) (h0 : Heap) (O0 : Old Z Z.heap.size h0) (hn : n ≤ 4) :
    own_Met l Z (⟨"java/lang/StringUTF16", "newBytesFor", "(I)[B"⟩ : MethodName) jdk_52_method_2_code 1 (some (.array .byte)) ws ({ frames := 1, cells := 1, slots := 8, locals := 12 } : Room) #[(.int (Int32.ofNat n))] h0 (fun v h L => ∃ b kb, v = some (.ref b) ∧ Fr Z.heap.size L ∧ Keep h0 h [] ∧ h0.size ≤ b ∧ b < h.size ∧ Arv Z h b kb .byte (Int32.ofNat (2 * n)) [] (.int (0 : Int32))) (({ frames := 1, cells := 1, slots := 8, locals := 12 } : Room)).cells (({ frames := 1, cells := 1, slots := 8, locals := 12 } : Room)).slots := by
  refine own_body (ef := fun m => mkF m 0 #[.val (.int (Int32.ofNat n))] []) (plainFor_of_name own_pn0) (fun m => by first | rfl | (simp [entryFrame, mkF, argsToLocals, Value.category]; done)) ?_
  intro p e s m below meth c T0 hx hZ hby hml hown hnm hret hlk X0 e0
  have N0 := Fr.nil Z.heap.size
  have z0 : Z.heap.size ≤ h0.size := O0.2.1
  have Kr := Keep.refl h0 []
  show own_G _ _ _ _ (T0.setTop (mkF m 0 #[.val (.int (Int32.ofNat n))] []))
  refine own_st (fun _ k => XS.iloadN X0.here hx rfl (hb hby own_d_jdk_52_m2_0) rfl k) ?_
  show own_G _ _ _ _ (T0.setTop (mkF m 1 #[.val (.int (Int32.ofNat n))] [(.int (Int32.ofNat n))]))
  obtain ⟨_, _, ⟨T1, L1, k1, n1⟩, -, X1, ⟨Lc1, hQ1, l1, y1, z1⟩, st1⟩ := Jvm.LawKit.callS X0 hx (y := (⟨"java/lang/StringUTF16", "newBytesLength", "(I)I"⟩ : MethodName)) hown (mvT hZ (hw _ (List.mem_of_getElem? (i := 53) rfl))) (mvT hZ (hw _ (List.mem_of_getElem? (i := 54) rfl))) (mvT hZ (hw _ (List.mem_of_getElem? (i := 18) rfl))) (mvT hZ (hw _ (List.mem_of_getElem? (i := 55) rfl))) (by decide) (own_back (rm := ({ frames := 0, cells := 0, slots := 0, locals := 0 } : Room)) (W := 0) (own_nbl l Z a0 hw [] n h0 O0 hn) hZ (hw _ (List.mem_of_getElem? (i := 55) rfl)) (hw _ (List.mem_of_getElem? (i := 18) rfl)) (by decide) (by decide)) (g := (mkF m 1 #[.val (.int (Int32.ofNat n))] [(.int (Int32.ofNat n))])) rfl (by rw [hml]; rfl) (argsL := [(.int (Int32.ofNat n))]) (rest := []) (lenOf own_pd58 rfl) rfl (by show 2 * 0 + _ ≤ _; exact Nat.le_of_eq rfl) (hb hby own_d_jdk_52_m2_1) (fun _ _ => ⟨rfl, e0, (by decide : 0 + 0 ≤ _), (by decide : 0 + 0 ≤ _)⟩)
  dsimp only [Pt.U, Pt.locs, Pt.cells, Pt.slots] at X1 l1 y1 z1 st1 hQ1
  subst l1 y1 z1
  obtain ⟨rfl, N1q, eh1⟩ := hQ1
  have N1 := Fr.app N0 N1q
  refine own_st st1 ?_
  show own_G _ _ _ _ (T1.setTop (mkF m 4 #[.val (.int (Int32.ofNat n))] [(.int (Int32.ofNat (2 * n)))]))
  obtain ⟨T2, h2, k2, X2, e2, E2, A2, st2⟩ := newP X1 hx hZ (hw _ (List.mem_of_getElem? (i := 20) rfl)) eh1 (g := (mkF m 4 #[.val (.int (Int32.ofNat n))] [(.int (Int32.ofNat (2 * n)))])) rfl (hb hby own_d_jdk_52_m2_4) rfl (own_nn (by omega)) (cap := 8) (by rw [own_clamp (by omega)]; omega) (by decide) (by decide) (by decide)
  obtain ⟨b2, g2⟩ : ∃ z, z = h0.size := ⟨_, rfl⟩
  rw [← g2] at A2 st2
  refine own_st st2 ?_
  have z3 : h0.size ≤ h2.size := E2.1
  have O4 := Old.ext O0 E2
  have K5 : Keep h0 h2 [] := Kr.ext E2
  have V2 : Arv Z h2 b2 k2 .byte (Int32.ofNat (2 * n)) [] (.int (0 : Int32)) := Arv.new A2 (own_nn (by omega))
  have lt2 := own_ltN A2.lt
  show own_G _ _ _ _ (T2.setTop (mkF m 6 #[.val (.int (Int32.ofNat n))] [(.ref b2)]))
  exact own_retA X2 hx hret rfl rfl hlk (hb hby own_d_jdk_52_m2_6) (by rw [e2]; exact ⟨b2, k2, rfl, N1, K5, by omega, by omega, V2⟩) (by decide) (by decide)
theorem own_d_jdk_52_m14_8 : decode jdk_52_method_14_code 8 = .ok (.iload 4, 2) := by decide +kernel
theorem own_d_jdk_52_m14_10 : decode jdk_52_method_14_code 10 = .ok (.iload_n 2, 1) := by decide +kernel
theorem own_d_jdk_52_m14_11 : decode jdk_52_method_14_code 11 = .ok (.if_icmp .ge 21, 3) := by decide +kernel
theorem own_d_jdk_52_m14_14 : decode jdk_52_method_14_code 14 = .ok (.aload_n 3, 1) := by decide +kernel
theorem own_d_jdk_52_m14_15 : decode jdk_52_method_14_code 15 = .ok (.iload 4, 2) := by decide +kernel
theorem own_d_jdk_52_m14_17 : decode jdk_52_method_14_code 17 = .ok (.aload_n 0, 1) := by decide +kernel
theorem own_d_jdk_52_m14_18 : decode jdk_52_method_14_code 18 = .ok (.iload_n 1, 1) := by decide +kernel
theorem own_d_jdk_52_m14_19 : decode jdk_52_method_14_code 19 = .ok (.caload, 1) := by decide +kernel
theorem own_d_jdk_52_m14_20 : decode jdk_52_method_14_code 20 = .ok (.invokestatic 111, 3) := by decide +kernel
theorem own_pd70 : parseMethodDescriptor "([BII)V" = some ⟨[(.array .byte), .int, .int], none⟩ := by decide +kernel
theorem own_d_jdk_52_m14_23 : decode jdk_52_method_14_code 23 = .ok (.iinc 1 1, 3) := by decide +kernel
theorem own_d_jdk_52_m14_26 : decode jdk_52_method_14_code 26 = .ok (.iinc 4 1, 3) := by decide +kernel
theorem own_d_jdk_52_m14_29 : decode jdk_52_method_14_code 29 = .ok (.goto (-21), 3) := by decide +kernel
set_option maxRecDepth 65536 in
set_option maxHeartbeats 40000000 in
theorem own_tb_turn {p : Program} {l : Launch} {e : Env} {s : State} {m : MethodId} {args : Array Value} {below : List Frame} {meth : Method} {c : Code} {Z : State} {a0 : Array Value} {locs : List Loc} {cells slots : Nat} {T0 : State} {h0 : Heap} {F : State → Prop} (a1 b : Addr) (i n : Nat) (f : Nat → Int32) (kb kc : ClassId) (hx : p.tables.exec = Jvm.exec) (hZ : Z.Warmed39 s.vm) (hw : ∀ d ∈ tables_1, d.before a0 Z = true) (hby : c.code = jdk_52_method_14_code) (hml : c.maxLocals = 5) (hown : s.vm.findClass "java/lang/StringUTF16" = some m.cls) (X0 : Stand p l e ({ frames := 2, cells := 1, slots := 8, locals := 24 } : Room) s m args below meth c T0 locs cells slots) (e0 : T0.heap = h0) (N0 : Fr Z.heap.size locs) (O0 : Old Z Z.heap.size h0) (hi : i < n) (hn : n ≤ 4) (gb : Z.heap.size ≤ b) (hne : a1 ≠ b) (US : own_US Z) (hc : cells + 0 ≤ ({ frames := 2, cells := 1, slots := 8, locals := 24 } : Room).cells) (hs : slots + 0 ≤ ({ frames := 2, cells := 1, slots := 8, locals := 24 } : Room).slots) (Vc : Arv Z h0 a1 kc .char (Int32.ofNat n) (own_vals f n) (.int (0 : Int32))) (Vb : Arv Z h0 b kb .byte (Int32.ofNat (2 * n)) (own_vals (own_wide f) (2 * i)) (.int (0 : Int32)))
    (k : ∀ (T' : State) (h' : Heap) (locs' : List Loc), Stand p l e ({ frames := 2, cells := 1, slots := 8, locals := 24 } : Room) s m args below meth c T' locs' cells slots → T'.heap = h' → Fr Z.heap.size locs' → Old Z Z.heap.size h' → Keep h0 h' [b] → Arv Z h' a1 kc .char (Int32.ofNat n) (own_vals f n) (.int (0 : Int32)) → Arv Z h' b kb .byte (Int32.ofNat (2 * n)) (own_vals (own_wide f) (2 * (i + 1))) (.int (0 : Int32)) → own_G p.tables e below F (T'.setTop (mkF m 8 #[.val (.ref a1), .val (.int (Int32.ofNat (i + 1))), .val (.int (Int32.ofNat n)), .val (.ref b), .val (.int (Int32.ofNat (i + 1)))] []))) :
    own_G p.tables e below F (T0.setTop (mkF m 8 #[.val (.ref a1), .val (.int (Int32.ofNat (i))), .val (.int (Int32.ofNat n)), .val (.ref b), .val (.int (Int32.ofNat (i)))] [])) := by
  have z0 : Z.heap.size ≤ h0.size := O0.2.1
  have Kr := Keep.refl h0 [b]
  show own_G _ _ _ _ (T0.setTop (mkF m 8 #[.val (.ref a1), .val (.int (Int32.ofNat (i))), .val (.int (Int32.ofNat n)), .val (.ref b), .val (.int (Int32.ofNat (i)))] []))
  have ltc := own_ltN Vc.lt
  have ltb := own_ltN Vb.lt
  refine own_st (fun _ k => XS.iload X0.here hx rfl (hb hby own_d_jdk_52_m14_8) rfl k) ?_
  show own_G _ _ _ _ (T0.setTop (mkF m 10 #[.val (.ref a1), .val (.int (Int32.ofNat (i))), .val (.int (Int32.ofNat n)), .val (.ref b), .val (.int (Int32.ofNat (i)))] [(.int (Int32.ofNat (i)))]))
  refine own_st (fun _ k => XS.iloadN X0.here hx rfl (hb hby own_d_jdk_52_m14_10) rfl k) ?_
  show own_G _ _ _ _ (T0.setTop (mkF m 11 #[.val (.ref a1), .val (.int (Int32.ofNat (i))), .val (.int (Int32.ofNat n)), .val (.ref b), .val (.int (Int32.ofNat (i)))] [(.int (Int32.ofNat n)), (.int (Int32.ofNat (i)))]))
  refine own_st (fun _ k => XS.icmpNo X0.here hx rfl (hb hby own_d_jdk_52_m14_11) rfl (tlt (own_lt hi (by omega))).2.1 k) ?_
  show own_G _ _ _ _ (T0.setTop (mkF m 14 #[.val (.ref a1), .val (.int (Int32.ofNat (i))), .val (.int (Int32.ofNat n)), .val (.ref b), .val (.int (Int32.ofNat (i)))] []))
  refine own_st (fun _ k => XS.aloadN X0.here hx rfl (hb hby own_d_jdk_52_m14_14) rfl rfl k) ?_
  show own_G _ _ _ _ (T0.setTop (mkF m 15 #[.val (.ref a1), .val (.int (Int32.ofNat (i))), .val (.int (Int32.ofNat n)), .val (.ref b), .val (.int (Int32.ofNat (i)))] [(.ref b)]))
  refine own_st (fun _ k => XS.iload X0.here hx rfl (hb hby own_d_jdk_52_m14_15) rfl k) ?_
  show own_G _ _ _ _ (T0.setTop (mkF m 17 #[.val (.ref a1), .val (.int (Int32.ofNat (i))), .val (.int (Int32.ofNat n)), .val (.ref b), .val (.int (Int32.ofNat (i)))] [(.int (Int32.ofNat (i))), (.ref b)]))
  refine own_st (fun _ k => XS.aloadN X0.here hx rfl (hb hby own_d_jdk_52_m14_17) rfl rfl k) ?_
  show own_G _ _ _ _ (T0.setTop (mkF m 18 #[.val (.ref a1), .val (.int (Int32.ofNat (i))), .val (.int (Int32.ofNat n)), .val (.ref b), .val (.int (Int32.ofNat (i)))] [(.ref a1), (.int (Int32.ofNat (i))), (.ref b)]))
  refine own_st (fun _ k => XS.iloadN X0.here hx rfl (hb hby own_d_jdk_52_m14_18) rfl k) ?_
  show own_G _ _ _ _ (T0.setTop (mkF m 19 #[.val (.ref a1), .val (.int (Int32.ofNat (i))), .val (.int (Int32.ofNat n)), .val (.ref b), .val (.int (Int32.ofNat (i)))] [(.int (Int32.ofNat (i))), (.ref a1), (.int (Int32.ofNat (i))), (.ref b)]))
  obtain ⟨cl1, Ar1, qk1, Sz1, Mz1, Hz1, Uz1⟩ := id Vc
  refine own_st (X0.caload hx (j := (Int32.ofNat (i))) (v := (.int (f i))) (by rw [e0]; exact Ar1.1) (State.isArrayOf_alike hZ.alike Ar1.2.1) Ar1.2.2 (own_in Sz1 hi (by omega)) (own_get Sz1 Hz1 hi (by omega)) (g := (mkF m 19 #[.val (.ref a1), .val (.int (Int32.ofNat (i))), .val (.int (Int32.ofNat n)), .val (.ref b), .val (.int (Int32.ofNat (i)))] [(.int (Int32.ofNat (i))), (.ref a1), (.int (Int32.ofNat (i))), (.ref b)])) rfl rfl (hb hby own_d_jdk_52_m14_19)) ?_
  show own_G _ _ _ _ (T0.setTop (mkF m 20 #[.val (.ref a1), .val (.int (Int32.ofNat (i))), .val (.int (Int32.ofNat n)), .val (.ref b), .val (.int (Int32.ofNat (i)))] [(.int (f i)), (.int (Int32.ofNat (i))), (.ref b)]))
  obtain ⟨_, _, ⟨T2, L2, k2, n2⟩, -, X2, ⟨Lc2, hQ2, l2, y2, z2⟩, st2⟩ := Jvm.LawKit.callS X0 hx (y := (⟨"java/lang/StringUTF16", "putChar", "([BII)V"⟩ : MethodName)) hown (mvT hZ (hw _ (List.mem_of_getElem? (i := 57) rfl))) (mvT hZ (hw _ (List.mem_of_getElem? (i := 58) rfl))) (mvT hZ (hw _ (List.mem_of_getElem? (i := 18) rfl))) (mvT hZ (hw _ (List.mem_of_getElem? (i := 59) rfl))) (by decide) (own_back (rm := ({ frames := 0, cells := 0, slots := 0, locals := 0 } : Room)) (W := 0) (own_putChar l Z a0 hw [] b i n f kb h0 O0 hi hn gb US Vb) hZ (hw _ (List.mem_of_getElem? (i := 59) rfl)) (hw _ (List.mem_of_getElem? (i := 18) rfl)) (by decide) (by decide)) (g := (mkF m 20 #[.val (.ref a1), .val (.int (Int32.ofNat (i))), .val (.int (Int32.ofNat n)), .val (.ref b), .val (.int (Int32.ofNat (i)))] [(.int (f i)), (.int (Int32.ofNat (i))), (.ref b)])) rfl (by rw [hml]; rfl) (argsL := [(.ref b), (.int (Int32.ofNat (i))), (.int (f i))]) (rest := []) (lenOf own_pd70 rfl) rfl (by show 2 * 0 + _ ≤ _; exact Nat.le_of_eq rfl) (hb hby own_d_jdk_52_m14_20) (fun _ _ => ⟨rfl, e0, hc, hs⟩)
  dsimp only [Pt.U, Pt.locs, Pt.cells, Pt.slots] at X2 l2 y2 z2 st2 hQ2
  subst l2 y2 z2
  obtain ⟨rfl, N2q, K2_, V2⟩ := hQ2
  have N2 := Fr.app N0 N2q
  refine own_st st2 ?_
  have z3 : h0.size ≤ T2.heap.size := K2_.1
  have O4 := Old.keep O0 K2_ (allS (by omega) all0)
  have K5 : Keep h0 T2.heap [b] := Kr.trans K2_ (allS (Or.inl (by simp)) all0)
  show own_G _ _ _ _ (T2.setTop (mkF m 23 #[.val (.ref a1), .val (.int (Int32.ofNat (i))), .val (.int (Int32.ofNat n)), .val (.ref b), .val (.int (Int32.ofNat (i)))] []))
  refine own_st (fun _ k => XS.iinc X2.here hx rfl (hb hby own_d_jdk_52_m14_23) rfl (l' := #[.val (.ref a1), .val (.int ((Int32.ofNat (i)) + (1 : Int32))), .val (.int (Int32.ofNat n)), .val (.ref b), .val (.int (Int32.ofNat (i)))]) rfl k) ?_
  show own_G _ _ _ _ (T2.setTop (mkF m 26 #[.val (.ref a1), .val (.int ((Int32.ofNat (i)) + (1 : Int32))), .val (.int (Int32.ofNat n)), .val (.ref b), .val (.int (Int32.ofNat (i)))] []))
  refine own_st (fun _ k => XS.iinc X2.here hx rfl (hb hby own_d_jdk_52_m14_26) rfl (l' := #[.val (.ref a1), .val (.int ((Int32.ofNat (i)) + (1 : Int32))), .val (.int (Int32.ofNat n)), .val (.ref b), .val (.int ((Int32.ofNat (i)) + (1 : Int32)))]) rfl k) ?_
  show own_G _ _ _ _ (T2.setTop (mkF m 29 #[.val (.ref a1), .val (.int ((Int32.ofNat (i)) + (1 : Int32))), .val (.int (Int32.ofNat n)), .val (.ref b), .val (.int ((Int32.ofNat (i)) + (1 : Int32)))] []))
  refine own_st (fun _ k => XS.goto X2.here hx rfl (pc0 := 29) (pc' := 8) rfl (hb hby own_d_jdk_52_m14_29) (by decide) (by decide) k) ?_
  show own_G _ _ _ _ (T2.setTop (mkF m 8 #[.val (.ref a1), .val (.int ((Int32.ofNat (i)) + (1 : Int32))), .val (.int (Int32.ofNat n)), .val (.ref b), .val (.int ((Int32.ofNat (i)) + (1 : Int32)))] []))
  rw [own_one]
  show own_G _ _ _ _ (T2.setTop (mkF m 8 #[.val (.ref a1), .val (.int (Int32.ofNat (i + 1))), .val (.int (Int32.ofNat n)), .val (.ref b), .val (.int (Int32.ofNat (i + 1)))] []))
  have q6 : Arv Z T2.heap a1 kc .char (Int32.ofNat n) (own_vals f n) (.int (0 : Int32)) := (Vc.keep K2_ (ninS (show @Ne Nat a1 b by omega) nin0))
  exact k _ _ _ X2 rfl N2 O4 K5 q6 V2
set_option maxRecDepth 65536 in
set_option maxHeartbeats 40000000 in
theorem own_tb_exit {p : Program} {l : Launch} {e : Env} {s : State} {m : MethodId} {args : Array Value} {below : List Frame} {meth : Method} {c : Code} {Z : State} {a0 : Array Value} {locs : List Loc} {cells slots : Nat} {T0 : State} {h0 : Heap} {F : State → Prop} (a1 b : Addr) (n : Nat) (hx : p.tables.exec = Jvm.exec) (hZ : Z.Warmed39 s.vm) (hw : ∀ d ∈ tables_1, d.before a0 Z = true) (hby : c.code = jdk_52_method_14_code) (hml : c.maxLocals = 5) (hown : s.vm.findClass "java/lang/StringUTF16" = some m.cls) (X0 : Stand p l e ({ frames := 2, cells := 1, slots := 8, locals := 24 } : Room) s m args below meth c T0 locs cells slots) (e0 : T0.heap = h0) (N0 : Fr Z.heap.size locs) (O0 : Old Z Z.heap.size h0) 
    (k : own_G p.tables e below F (T0.setTop (mkF m 32 #[.val (.ref a1), .val (.int (Int32.ofNat (n))), .val (.int (Int32.ofNat n)), .val (.ref b), .val (.int (Int32.ofNat (n)))] []))) :
    own_G p.tables e below F (T0.setTop (mkF m 8 #[.val (.ref a1), .val (.int (Int32.ofNat (n))), .val (.int (Int32.ofNat n)), .val (.ref b), .val (.int (Int32.ofNat (n)))] [])) := by
  have z0 : Z.heap.size ≤ h0.size := O0.2.1
  have Kr := Keep.refl h0 []
  show own_G _ _ _ _ (T0.setTop (mkF m 8 #[.val (.ref a1), .val (.int (Int32.ofNat (n))), .val (.int (Int32.ofNat n)), .val (.ref b), .val (.int (Int32.ofNat (n)))] []))
  refine own_st (fun _ k => XS.iload X0.here hx rfl (hb hby own_d_jdk_52_m14_8) rfl k) ?_
  show own_G _ _ _ _ (T0.setTop (mkF m 10 #[.val (.ref a1), .val (.int (Int32.ofNat (n))), .val (.int (Int32.ofNat n)), .val (.ref b), .val (.int (Int32.ofNat (n)))] [(.int (Int32.ofNat (n)))]))
  refine own_st (fun _ k => XS.iloadN X0.here hx rfl (hb hby own_d_jdk_52_m14_10) rfl k) ?_
  show own_G _ _ _ _ (T0.setTop (mkF m 11 #[.val (.ref a1), .val (.int (Int32.ofNat (n))), .val (.int (Int32.ofNat n)), .val (.ref b), .val (.int (Int32.ofNat (n)))] [(.int (Int32.ofNat n)), (.int (Int32.ofNat (n)))]))
  refine own_st (fun _ k => XS.icmpYes X0.here hx rfl (pc0 := 11) (pc' := 32) rfl (hb hby own_d_jdk_52_m14_11) rfl (flt Int32.lt_irrefl).2.1 (by decide) (by decide) k) ?_
  show own_G _ _ _ _ (T0.setTop (mkF m 32 #[.val (.ref a1), .val (.int (Int32.ofNat (n))), .val (.int (Int32.ofNat n)), .val (.ref b), .val (.int (Int32.ofNat (n)))] []))
  exact k
theorem own_tb_loop {p : Program} {l : Launch} {e : Env} {s : State} {m : MethodId} {args : Array Value} {below : List Frame} {meth : Method} {c : Code} {Z : State} {a0 : Array Value} {cells slots : Nat} {F : State → Prop} {h0 : Heap} (a1 b : Addr) (n : Nat) (f : Nat → Int32) (kb kc : ClassId) (hx : p.tables.exec = Jvm.exec) (hZ : Z.Warmed39 s.vm) (hw : ∀ d ∈ tables_1, d.before a0 Z = true) (hby : c.code = jdk_52_method_14_code) (hml : c.maxLocals = 5) (hown : s.vm.findClass "java/lang/StringUTF16" = some m.cls) (hn : n ≤ 4) (gb : Z.heap.size ≤ b) (hne : a1 ≠ b) (US : own_US Z) (hc : cells + 0 ≤ ({ frames := 2, cells := 1, slots := 8, locals := 24 } : Room).cells) (hs : slots + 0 ≤ ({ frames := 2, cells := 1, slots := 8, locals := 24 } : Room).slots)
    (k : ∀ (T' : State) (h' : Heap) (locs' : List Loc), Stand p l e ({ frames := 2, cells := 1, slots := 8, locals := 24 } : Room) s m args below meth c T' locs' cells slots → T'.heap = h' → Fr Z.heap.size locs' → Old Z Z.heap.size h' → Keep h0 h' [b] → Arv Z h' a1 kc .char (Int32.ofNat n) (own_vals f n) (.int (0 : Int32)) → Arv Z h' b kb .byte (Int32.ofNat (2 * n)) (own_vals (own_wide f) (2 * (n))) (.int (0 : Int32)) → own_G p.tables e below F (T'.setTop (mkF m 32 #[.val (.ref a1), .val (.int (Int32.ofNat (n))), .val (.int (Int32.ofNat n)), .val (.ref b), .val (.int (Int32.ofNat (n)))] []))) :
    ∀ (r i : Nat) (T' : State) (h' : Heap) (locs' : List Loc), i + r = n → Stand p l e ({ frames := 2, cells := 1, slots := 8, locals := 24 } : Room) s m args below meth c T' locs' cells slots → T'.heap = h' → Fr Z.heap.size locs' → Old Z Z.heap.size h' → Keep h0 h' [b] → Arv Z h' a1 kc .char (Int32.ofNat n) (own_vals f n) (.int (0 : Int32)) → Arv Z h' b kb .byte (Int32.ofNat (2 * n)) (own_vals (own_wide f) (2 * (i))) (.int (0 : Int32)) → own_G p.tables e below F (T'.setTop (mkF m 8 #[.val (.ref a1), .val (.int (Int32.ofNat (i))), .val (.int (Int32.ofNat n)), .val (.ref b), .val (.int (Int32.ofNat (i)))] [])) := by
  intro r
  induction r with
  | zero =>
    intro i T' h' locs' hi X e1 N O K Vc Vb
    have hi' : i = n := by omega
    subst hi'
    exact own_tb_exit a1 b i hx hZ hw hby hml hown X e1 N O (k T' h' locs' X e1 N O K Vc Vb)
  | succ r ih =>
    intro i T' h' locs' hi X e1 N O K Vc Vb
    exact own_tb_turn a1 b i n f kb kc hx hZ hw hby hml hown X e1 N O (by omega) hn gb hne US hc hs Vc Vb fun T2 h2 L2 X2 e2 N2 O2 K2 Vc2 Vb2 => ih (i + 1) T2 h2 L2 (by omega) X2 e2 N2 O2 (K.trans K2 (allS (Or.inl (by simp)) all0)) Vc2 Vb2
theorem own_d_jdk_52_m14_0 : decode jdk_52_method_14_code 0 = .ok (.iload_n 2, 1) := by decide +kernel
theorem own_d_jdk_52_m14_1 : decode jdk_52_method_14_code 1 = .ok (.invokestatic 107, 3) := by decide +kernel
theorem own_pd76 : parseMethodDescriptor "(I)[B" = some ⟨[.int], some (.array .byte)⟩ := by decide +kernel
theorem own_d_jdk_52_m14_4 : decode jdk_52_method_14_code 4 = .ok (.astore_n 3, 1) := by decide +kernel
theorem own_d_jdk_52_m14_5 : decode jdk_52_method_14_code 5 = .ok (.iconst 0, 1) := by decide +kernel
theorem own_d_jdk_52_m14_6 : decode jdk_52_method_14_code 6 = .ok (.istore 4, 2) := by decide +kernel
theorem own_d_jdk_52_m14_32 : decode jdk_52_method_14_code 32 = .ok (.aload_n 3, 1) := by decide +kernel
theorem own_d_jdk_52_m14_33 : decode jdk_52_method_14_code 33 = .ok (.areturn, 1) := by decide +kernel
set_option maxRecDepth 65536 in
set_option maxHeartbeats 40000000 in
theorem own_toBytes (l : Launch) (Z : State) (a0 : Array Value) (hw : ∀ d ∈ tables_1, d.before a0 Z = true) (ws : List Jvm.Cond) (a1 : Addr) (n : Nat) (f : Nat → Int32) (kc : ClassId) (h0 : Heap) (O0 : Old Z Z.heap.size h0) (hn : n ≤ 4) (US : own_US Z) (Vc : Arv Z h0 a1 kc .char (Int32.ofNat n) (own_vals f n) (.int (0 : Int32))) :
    own_Met l Z (⟨"java/lang/StringUTF16", "toBytes", "([CII)[B"⟩ : MethodName) jdk_52_method_14_code 5 (some (.array .byte)) ws ({ frames := 2, cells := 1, slots := 8, locals := 24 } : Room) #[(.ref a1), (.int (Int32.ofNat 0)), (.int (Int32.ofNat n))] h0 (fun v h L => ∃ b kb, v = some (.ref b) ∧ Fr Z.heap.size L ∧ Keep h0 h [] ∧ h0.size ≤ b ∧ b < h.size ∧ Arv Z h b kb .byte (Int32.ofNat (2 * n)) (own_vals (own_wide f) (2 * n)) (.int (0 : Int32))) (({ frames := 2, cells := 1, slots := 8, locals := 24 } : Room)).cells (({ frames := 2, cells := 1, slots := 8, locals := 24 } : Room)).slots := by
  refine own_body (ef := fun m => mkF m 0 #[.val (.ref a1), .val (.int (Int32.ofNat 0)), .val (.int (Int32.ofNat n)), .unset, .unset] []) (plainFor_of_name own_pn0) (fun m => by first | rfl | (simp [entryFrame, mkF, argsToLocals, Value.category]; done)) ?_
  intro p e s m below meth c T0 hx hZ hby hml hown hnm hret hlk X0 e0
  have N0 := Fr.nil Z.heap.size
  have z0 : Z.heap.size ≤ h0.size := O0.2.1
  have Kr := Keep.refl h0 []
  show own_G _ _ _ _ (T0.setTop (mkF m 0 #[.val (.ref a1), .val (.int (Int32.ofNat 0)), .val (.int (Int32.ofNat n)), .unset, .unset] []))
  have ltc := own_ltN Vc.lt
  refine own_st (fun _ k => XS.iloadN X0.here hx rfl (hb hby own_d_jdk_52_m14_0) rfl k) ?_
  show own_G _ _ _ _ (T0.setTop (mkF m 1 #[.val (.ref a1), .val (.int (Int32.ofNat 0)), .val (.int (Int32.ofNat n)), .unset, .unset] [(.int (Int32.ofNat n))]))
  obtain ⟨_, _, ⟨T1, L1, k1, n1⟩, -, X1, ⟨Lc1, hQ1, l1, y1, z1⟩, st1⟩ := Jvm.LawKit.callS X0 hx (y := (⟨"java/lang/StringUTF16", "newBytesFor", "(I)[B"⟩ : MethodName)) hown (mvT hZ (hw _ (List.mem_of_getElem? (i := 50) rfl))) (mvT hZ (hw _ (List.mem_of_getElem? (i := 51) rfl))) (mvT hZ (hw _ (List.mem_of_getElem? (i := 18) rfl))) (mvT hZ (hw _ (List.mem_of_getElem? (i := 52) rfl))) (by decide) (own_back (rm := ({ frames := 1, cells := 1, slots := 8, locals := 12 } : Room)) (W := 0) (own_nbf l Z a0 hw [] n h0 O0 hn) hZ (hw _ (List.mem_of_getElem? (i := 52) rfl)) (hw _ (List.mem_of_getElem? (i := 18) rfl)) (by decide) (by decide)) (g := (mkF m 1 #[.val (.ref a1), .val (.int (Int32.ofNat 0)), .val (.int (Int32.ofNat n)), .unset, .unset] [(.int (Int32.ofNat n))])) rfl (by rw [hml]; rfl) (argsL := [(.int (Int32.ofNat n))]) (rest := []) (lenOf own_pd76 rfl) rfl (by show 2 * 0 + _ ≤ _; exact Nat.le_of_eq rfl) (hb hby own_d_jdk_52_m14_1) (fun _ _ => ⟨rfl, e0, (by decide : 0 + 1 ≤ _), (by decide : 0 + 8 ≤ _)⟩)
  dsimp only [Pt.U, Pt.locs, Pt.cells, Pt.slots] at X1 l1 y1 z1 st1 hQ1
  subst l1 y1 z1
  obtain ⟨b, kb, rfl, N1q, K1_, gb, ltb, V1⟩ := hQ1
  have N1 := Fr.app N0 N1q
  refine own_st st1 ?_
  have z2 : h0.size ≤ T1.heap.size := K1_.1
  have O3 := Old.keep O0 K1_ all0
  have K4 : Keep h0 T1.heap [] := Kr.trans K1_ all0
  show own_G _ _ _ _ (T1.setTop (mkF m 4 #[.val (.ref a1), .val (.int (Int32.ofNat 0)), .val (.int (Int32.ofNat n)), .unset, .unset] [(.ref b)]))
  refine own_st (fun _ k => XS.astoreN X1.here hx rfl (hb hby own_d_jdk_52_m14_4) rfl rfl (l' := #[.val (.ref a1), .val (.int (Int32.ofNat 0)), .val (.int (Int32.ofNat n)), .val (.ref b), .unset]) rfl k) ?_
  show own_G _ _ _ _ (T1.setTop (mkF m 5 #[.val (.ref a1), .val (.int (Int32.ofNat 0)), .val (.int (Int32.ofNat n)), .val (.ref b), .unset] []))
  refine own_st (fun _ k => XS.iconst X1.here hx rfl (hb hby own_d_jdk_52_m14_5) k) ?_
  show own_G _ _ _ _ (T1.setTop (mkF m 6 #[.val (.ref a1), .val (.int (Int32.ofNat 0)), .val (.int (Int32.ofNat n)), .val (.ref b), .unset] [(.int (0 : Int32))]))
  refine own_st (fun _ k => XS.istore X1.here hx rfl (hb hby own_d_jdk_52_m14_6) rfl (l' := #[.val (.ref a1), .val (.int (Int32.ofNat 0)), .val (.int (Int32.ofNat n)), .val (.ref b), .val (.int (0 : Int32))]) rfl k) ?_
  show own_G _ _ _ _ (T1.setTop (mkF m 8 #[.val (.ref a1), .val (.int (Int32.ofNat 0)), .val (.int (Int32.ofNat n)), .val (.ref b), .val (.int (0 : Int32))] []))
  have q5 : Arv Z T1.heap a1 kc .char (Int32.ofNat n) (own_vals f n) (.int (0 : Int32)) := (Vc.keep K1_ nin0)
  refine own_tb_loop a1 b n f kb kc hx hZ hw hby hml hown hn (by omega) (show @Ne Nat a1 b by omega) US (by decide) (by decide) ?_ n 0 _ _ _ (by omega) X1 rfl N1 O3 (Keep.refl _ _) q5 V1
  intro T' h' locs' X' e' N' O' K' Vc' Vb'
  have z6 : T1.heap.size ≤ h'.size := K'.1
  have O7 := Old.keep O3 K' (allS (by omega) all0)
  have K8 : Keep h0 h' [] := K4.trans K' (allS (Or.inr (by omega)) all0)
  show own_G _ _ _ _ (T'.setTop (mkF m 32 #[.val (.ref a1), .val (.int (Int32.ofNat (n))), .val (.int (Int32.ofNat n)), .val (.ref b), .val (.int (Int32.ofNat (n)))] []))
  refine own_st (fun _ k => XS.aloadN X'.here hx rfl (hb hby own_d_jdk_52_m14_32) rfl rfl k) ?_
  show own_G _ _ _ _ (T'.setTop (mkF m 33 #[.val (.ref a1), .val (.int (Int32.ofNat (n))), .val (.int (Int32.ofNat n)), .val (.ref b), .val (.int (Int32.ofNat (n)))] [(.ref b)]))
  exact own_retA X' hx hret rfl rfl hlk (hb hby own_d_jdk_52_m14_33) (by rw [e']; exact ⟨b, kb, rfl, N', K8, gb, Vb'.lt, Vb'⟩) (by decide) (by decide)
def own_QC (Z : State) (hs : Heap) (b : Addr) (kb : ClassId) (f : Nat → Int32) (n : Nat) : Option Value → Heap → List Loc → Prop := fun v h L => ∃ r : Nat, v = some (.int (Int32.ofNat r)) ∧ Fr Z.heap.size L ∧ Keep hs h [b] ∧ ((r = n ∧ (∀ j, j < n → ¬ (255 : Int32) < f j) ∧ Arv Z h b kb .byte (Int32.ofNat n) (own_vals (fun j => own_lo (f j)) n) (.int (0 : Int32))) ∨ (r < n ∧ (255 : Int32) < f r))
theorem own_d_jdk_52_m21_3 : decode jdk_52_method_21_code 3 = .ok (.iload 5, 2) := by decide +kernel
theorem own_d_jdk_52_m21_5 : decode jdk_52_method_21_code 5 = .ok (.iload 4, 2) := by decide +kernel
theorem own_d_jdk_52_m21_7 : decode jdk_52_method_21_code 7 = .ok (.if_icmp .ge 37, 3) := by decide +kernel
theorem own_d_jdk_52_m21_10 : decode jdk_52_method_21_code 10 = .ok (.aload_n 0, 1) := by decide +kernel
theorem own_d_jdk_52_m21_11 : decode jdk_52_method_21_code 11 = .ok (.iload_n 1, 1) := by decide +kernel
theorem own_d_jdk_52_m21_12 : decode jdk_52_method_21_code 12 = .ok (.caload, 1) := by decide +kernel
theorem own_d_jdk_52_m21_13 : decode jdk_52_method_21_code 13 = .ok (.istore 6, 2) := by decide +kernel
theorem own_d_jdk_52_m21_15 : decode jdk_52_method_21_code 15 = .ok (.iload 6, 2) := by decide +kernel
theorem own_d_jdk_52_m21_17 : decode jdk_52_method_21_code 17 = .ok (.sipush 255, 3) := by decide +kernel
theorem own_d_jdk_52_m21_20 : decode jdk_52_method_21_code 20 = .ok (.if_icmp .le 6, 3) := by decide +kernel
theorem own_d_jdk_52_m21_23 : decode jdk_52_method_21_code 23 = .ok (.iload 5, 2) := by decide +kernel
theorem own_d_jdk_52_m21_25 : decode jdk_52_method_21_code 25 = .ok (.ireturn, 1) := by decide +kernel
theorem own_d_jdk_52_m21_26 : decode jdk_52_method_21_code 26 = .ok (.aload_n 2, 1) := by decide +kernel
theorem own_d_jdk_52_m21_27 : decode jdk_52_method_21_code 27 = .ok (.iload_n 3, 1) := by decide +kernel
theorem own_d_jdk_52_m21_28 : decode jdk_52_method_21_code 28 = .ok (.iload 6, 2) := by decide +kernel
theorem own_d_jdk_52_m21_30 : decode jdk_52_method_21_code 30 = .ok (.i2b, 1) := by decide +kernel
theorem own_d_jdk_52_m21_31 : decode jdk_52_method_21_code 31 = .ok (.bastore, 1) := by decide +kernel
theorem own_d_jdk_52_m21_32 : decode jdk_52_method_21_code 32 = .ok (.iinc 1 1, 3) := by decide +kernel
theorem own_d_jdk_52_m21_35 : decode jdk_52_method_21_code 35 = .ok (.iinc 3 1, 3) := by decide +kernel
theorem own_d_jdk_52_m21_38 : decode jdk_52_method_21_code 38 = .ok (.iinc 5 1, 3) := by decide +kernel
theorem own_d_jdk_52_m21_41 : decode jdk_52_method_21_code 41 = .ok (.goto (-38), 3) := by decide +kernel
set_option maxRecDepth 65536 in
set_option maxHeartbeats 40000000 in
theorem own_c5_turn {p : Program} {l : Launch} {e : Env} {s : State} {m : MethodId} {args : Array Value} {below : List Frame} {meth : Method} {c : Code} {Z : State} {a0 : Array Value} {locs : List Loc} {cells slots : Nat} {T0 : State} {h0 : Heap}  {hs : Heap} (a1 b : Addr) (i n : Nat) (f : Nat → Int32) (kb kc : ClassId) (s6 : Slot) (hx : p.tables.exec = Jvm.exec) (hZ : Z.Warmed39 s.vm) (hw : ∀ d ∈ tables_1, d.before a0 Z = true) (hby : c.code = jdk_52_method_21_code) (hml : c.maxLocals = 7) (hown : s.vm.findClass "java/lang/StringUTF16" = some m.cls) (X0 : Stand p l e ({ frames := 0, cells := 0, slots := 0, locals := 0 } : Room) s m args below meth c T0 locs cells slots) (e0 : T0.heap = h0) (N0 : Fr Z.heap.size locs) (O0 : Old Z Z.heap.size h0) (hret : meth.sig.returnType = some .int) (hlk : meth.locks = false) (hcs : cells ≤ 0) (hss : slots ≤ 0) (hs6 : One s6) (hi : i < n) (hn : n ≤ 4) (gb : Z.heap.size ≤ b) (hne : a1 ≠ b) (Ks : Keep hs h0 [b]) (hall : ∀ j, j < i → ¬ (255 : Int32) < f j) (Vc : Arv Z h0 a1 kc .char (Int32.ofNat n) (own_vals f n) (.int (0 : Int32))) (Vb : Arv Z h0 b kb .byte (Int32.ofNat n) (own_vals (fun j => own_lo (f j)) i) (.int (0 : Int32)))
    (k : ∀ (s6 : Slot) (T' : State) (h' : Heap) (locs' : List Loc), Stand p l e ({ frames := 0, cells := 0, slots := 0, locals := 0 } : Room) s m args below meth c T' locs' cells slots → T'.heap = h' → Fr Z.heap.size locs' → Old Z Z.heap.size h' → One s6 → Keep hs h' [b] → (∀ j, j < i + 1 → ¬ (255 : Int32) < f j) → Arv Z h' a1 kc .char (Int32.ofNat n) (own_vals f n) (.int (0 : Int32)) → Arv Z h' b kb .byte (Int32.ofNat n) (own_vals (fun j => own_lo (f j)) (i + 1)) (.int (0 : Int32)) → own_G p.tables e below (own_F s below (own_QC Z hs b kb f n) 0 0) (T'.setTop (mkF m 3 #[.val (.ref a1), .val (.int (Int32.ofNat (i + 1))), .val (.ref b), .val (.int (Int32.ofNat (i + 1))), .val (.int (Int32.ofNat n)), .val (.int (Int32.ofNat (i + 1))), s6] []))) :
    own_G p.tables e below (own_F s below (own_QC Z hs b kb f n) 0 0) (T0.setTop (mkF m 3 #[.val (.ref a1), .val (.int (Int32.ofNat (i))), .val (.ref b), .val (.int (Int32.ofNat (i))), .val (.int (Int32.ofNat n)), .val (.int (Int32.ofNat (i))), s6] [])) := by
  have z0 : Z.heap.size ≤ h0.size := O0.2.1
  have Kr := Keep.refl h0 [b]
  show own_G _ _ _ _ (T0.setTop (mkF m 3 #[.val (.ref a1), .val (.int (Int32.ofNat (i))), .val (.ref b), .val (.int (Int32.ofNat (i))), .val (.int (Int32.ofNat n)), .val (.int (Int32.ofNat (i))), s6] []))
  have ltc := own_ltN Vc.lt
  have ltb := own_ltN Vb.lt
  refine own_st (fun _ k => XS.iload X0.here hx rfl (hb hby own_d_jdk_52_m21_3) rfl k) ?_
  show own_G _ _ _ _ (T0.setTop (mkF m 5 #[.val (.ref a1), .val (.int (Int32.ofNat (i))), .val (.ref b), .val (.int (Int32.ofNat (i))), .val (.int (Int32.ofNat n)), .val (.int (Int32.ofNat (i))), s6] [(.int (Int32.ofNat (i)))]))
  refine own_st (fun _ k => XS.iload X0.here hx rfl (hb hby own_d_jdk_52_m21_5) rfl k) ?_
  show own_G _ _ _ _ (T0.setTop (mkF m 7 #[.val (.ref a1), .val (.int (Int32.ofNat (i))), .val (.ref b), .val (.int (Int32.ofNat (i))), .val (.int (Int32.ofNat n)), .val (.int (Int32.ofNat (i))), s6] [(.int (Int32.ofNat n)), (.int (Int32.ofNat (i)))]))
  refine own_st (fun _ k => XS.icmpNo X0.here hx rfl (hb hby own_d_jdk_52_m21_7) rfl (tlt (own_lt hi (by omega))).2.1 k) ?_
  show own_G _ _ _ _ (T0.setTop (mkF m 10 #[.val (.ref a1), .val (.int (Int32.ofNat (i))), .val (.ref b), .val (.int (Int32.ofNat (i))), .val (.int (Int32.ofNat n)), .val (.int (Int32.ofNat (i))), s6] []))
  refine own_st (fun _ k => XS.aloadN X0.here hx rfl (hb hby own_d_jdk_52_m21_10) rfl rfl k) ?_
  show own_G _ _ _ _ (T0.setTop (mkF m 11 #[.val (.ref a1), .val (.int (Int32.ofNat (i))), .val (.ref b), .val (.int (Int32.ofNat (i))), .val (.int (Int32.ofNat n)), .val (.int (Int32.ofNat (i))), s6] [(.ref a1)]))
  refine own_st (fun _ k => XS.iloadN X0.here hx rfl (hb hby own_d_jdk_52_m21_11) rfl k) ?_
  show own_G _ _ _ _ (T0.setTop (mkF m 12 #[.val (.ref a1), .val (.int (Int32.ofNat (i))), .val (.ref b), .val (.int (Int32.ofNat (i))), .val (.int (Int32.ofNat n)), .val (.int (Int32.ofNat (i))), s6] [(.int (Int32.ofNat (i))), (.ref a1)]))
  obtain ⟨cl1, Ar1, qk1, Sz1, Mz1, Hz1, Uz1⟩ := id Vc
  refine own_st (X0.caload hx (j := (Int32.ofNat (i))) (v := (.int (f i))) (by rw [e0]; exact Ar1.1) (State.isArrayOf_alike hZ.alike Ar1.2.1) Ar1.2.2 (own_in Sz1 hi (by omega)) (own_get Sz1 Hz1 hi (by omega)) (g := (mkF m 12 #[.val (.ref a1), .val (.int (Int32.ofNat (i))), .val (.ref b), .val (.int (Int32.ofNat (i))), .val (.int (Int32.ofNat n)), .val (.int (Int32.ofNat (i))), s6] [(.int (Int32.ofNat (i))), (.ref a1)])) rfl rfl (hb hby own_d_jdk_52_m21_12)) ?_
  show own_G _ _ _ _ (T0.setTop (mkF m 13 #[.val (.ref a1), .val (.int (Int32.ofNat (i))), .val (.ref b), .val (.int (Int32.ofNat (i))), .val (.int (Int32.ofNat n)), .val (.int (Int32.ofNat (i))), s6] [(.int (f i))]))
  refine own_st (fun _ k => XS.istoreS X0.here hx rfl (hb hby own_d_jdk_52_m21_13) rfl rfl hs6 k) ?_
  show own_G _ _ _ _ (T0.setTop (mkF m 15 #[.val (.ref a1), .val (.int (Int32.ofNat (i))), .val (.ref b), .val (.int (Int32.ofNat (i))), .val (.int (Int32.ofNat n)), .val (.int (Int32.ofNat (i))), .val (.int (f i))] []))
  refine own_st (fun _ k => XS.iload X0.here hx rfl (hb hby own_d_jdk_52_m21_15) rfl k) ?_
  show own_G _ _ _ _ (T0.setTop (mkF m 17 #[.val (.ref a1), .val (.int (Int32.ofNat (i))), .val (.ref b), .val (.int (Int32.ofNat (i))), .val (.int (Int32.ofNat n)), .val (.int (Int32.ofNat (i))), .val (.int (f i))] [(.int (f i))]))
  refine own_st (fun _ k => XS.sipush X0.here hx rfl (hb hby own_d_jdk_52_m21_17) k) ?_
  show own_G _ _ _ _ (T0.setTop (mkF m 20 #[.val (.ref a1), .val (.int (Int32.ofNat (i))), .val (.ref b), .val (.int (Int32.ofNat (i))), .val (.int (Int32.ofNat n)), .val (.int (Int32.ofNat (i))), .val (.int (f i))] [(.int (255 : Int32)), (.int (f i))]))
  by_cases hbig : (255 : Int32) < (f i)
  · show own_G _ _ _ _ (T0.setTop (mkF m 20 #[.val (.ref a1), .val (.int (Int32.ofNat (i))), .val (.ref b), .val (.int (Int32.ofNat (i))), .val (.int (Int32.ofNat n)), .val (.int (Int32.ofNat (i))), .val (.int (f i))] [(.int (255 : Int32)), (.int (f i))]))
    refine own_st (fun _ k => XS.icmpNo X0.here hx rfl (hb hby own_d_jdk_52_m21_20) rfl (tlt hbig).2.2.2 k) ?_
    show own_G _ _ _ _ (T0.setTop (mkF m 23 #[.val (.ref a1), .val (.int (Int32.ofNat (i))), .val (.ref b), .val (.int (Int32.ofNat (i))), .val (.int (Int32.ofNat n)), .val (.int (Int32.ofNat (i))), .val (.int (f i))] []))
    refine own_st (fun _ k => XS.iload X0.here hx rfl (hb hby own_d_jdk_52_m21_23) rfl k) ?_
    show own_G _ _ _ _ (T0.setTop (mkF m 25 #[.val (.ref a1), .val (.int (Int32.ofNat (i))), .val (.ref b), .val (.int (Int32.ofNat (i))), .val (.int (Int32.ofNat n)), .val (.int (Int32.ofNat (i))), .val (.int (f i))] [(.int (Int32.ofNat (i)))]))
    exact own_retI X0 hx hret hlk (hb hby own_d_jdk_52_m21_25) (by rw [e0]; exact ⟨i, rfl, N0, Ks, Or.inr ⟨hi, hbig⟩⟩) hcs hss
  · show own_G _ _ _ _ (T0.setTop (mkF m 20 #[.val (.ref a1), .val (.int (Int32.ofNat (i))), .val (.ref b), .val (.int (Int32.ofNat (i))), .val (.int (Int32.ofNat n)), .val (.int (Int32.ofNat (i))), .val (.int (f i))] [(.int (255 : Int32)), (.int (f i))]))
    refine own_st (fun _ k => XS.icmpYes X0.here hx rfl (pc0 := 20) (pc' := 26) rfl (hb hby own_d_jdk_52_m21_20) rfl (flt hbig).2.2.2 (by decide) (by decide) k) ?_
    show own_G _ _ _ _ (T0.setTop (mkF m 26 #[.val (.ref a1), .val (.int (Int32.ofNat (i))), .val (.ref b), .val (.int (Int32.ofNat (i))), .val (.int (Int32.ofNat n)), .val (.int (Int32.ofNat (i))), .val (.int (f i))] []))
    refine own_st (fun _ k => XS.aloadN X0.here hx rfl (hb hby own_d_jdk_52_m21_26) rfl rfl k) ?_
    show own_G _ _ _ _ (T0.setTop (mkF m 27 #[.val (.ref a1), .val (.int (Int32.ofNat (i))), .val (.ref b), .val (.int (Int32.ofNat (i))), .val (.int (Int32.ofNat n)), .val (.int (Int32.ofNat (i))), .val (.int (f i))] [(.ref b)]))
    refine own_st (fun _ k => XS.iloadN X0.here hx rfl (hb hby own_d_jdk_52_m21_27) rfl k) ?_
    show own_G _ _ _ _ (T0.setTop (mkF m 28 #[.val (.ref a1), .val (.int (Int32.ofNat (i))), .val (.ref b), .val (.int (Int32.ofNat (i))), .val (.int (Int32.ofNat n)), .val (.int (Int32.ofNat (i))), .val (.int (f i))] [(.int (Int32.ofNat (i))), (.ref b)]))
    refine own_st (fun _ k => XS.iload X0.here hx rfl (hb hby own_d_jdk_52_m21_28) rfl k) ?_
    show own_G _ _ _ _ (T0.setTop (mkF m 30 #[.val (.ref a1), .val (.int (Int32.ofNat (i))), .val (.ref b), .val (.int (Int32.ofNat (i))), .val (.int (Int32.ofNat n)), .val (.int (Int32.ofNat (i))), .val (.int (f i))] [(.int (f i)), (.int (Int32.ofNat (i))), (.ref b)]))
    refine own_st (fun _ k => XS.i2b X0.here hx rfl (hb hby own_d_jdk_52_m21_30) rfl k) ?_
    show own_G _ _ _ _ (T0.setTop (mkF m 31 #[.val (.ref a1), .val (.int (Int32.ofNat (i))), .val (.ref b), .val (.int (Int32.ofNat (i))), .val (.int (Int32.ofNat n)), .val (.int (Int32.ofNat (i))), .val (.int (f i))] [(.int ((f i).toInt8.toInt32)), (.int (Int32.ofNat (i))), (.ref b)]))
    have V2p : Arv Z h0 b kb .byte (Int32.ofNat n) ((own_vals (fun j => own_lo (f j)) i) ++ [(.int (0 : Int32))]) (.int (0 : Int32)) := Vb.pad (pad_rep (own_vals (fun j => own_lo (f j)) i) (.int (0 : Int32)) 1)
    obtain ⟨cl3, Ar3, qk3, Sz3, Mz3, Hz3, Uz3⟩ := id V2p
    obtain ⟨T4, h4, X4, e4, W4, st4⟩ := stB X0 hx hZ e0 Ar3 (j := (Int32.ofNat (i))) (own_in Sz3 hi (by omega)) (g := (mkF m 31 #[.val (.ref a1), .val (.int (Int32.ofNat (i))), .val (.ref b), .val (.int (Int32.ofNat (i))), .val (.int (Int32.ofNat n)), .val (.int (Int32.ofNat (i))), .val (.int (f i))] [(.int ((f i).toInt8.toInt32)), (.int (Int32.ofNat (i))), (.ref b)])) rfl rfl (hb hby own_d_jdk_52_m21_31)
    refine own_st st4 ?_
    have V4 := Arv.set Ar3 qk3 Sz3 Mz3 Hz3 Uz3 (fits_nar_byte _) W4 (own_vals (fun j => own_lo (f j)) i).length (by rw [own_clamp (by omega), own_len]) (by simp)
    have z5 : h4.size = h0.size := W4.size
    have O6 := Old.wr O0 W4 (by omega)
    have K7 : Keep h0 h4 [b] := Kr.wr W4 (Or.inl (by simp))
    have N4 := Fr.snoc X4 N0 (by omega : Z.heap.size ≤ b)
    have V4' : Arv Z h4 b kb .byte (Int32.ofNat n) (own_vals (fun j => own_lo (f j)) (i + 1)) (.int (0 : Int32)) := by have q := V4; rw [own_set] at q; rw [← own_next]; exact q
    show own_G _ _ _ _ (T4.setTop (mkF m 32 #[.val (.ref a1), .val (.int (Int32.ofNat (i))), .val (.ref b), .val (.int (Int32.ofNat (i))), .val (.int (Int32.ofNat n)), .val (.int (Int32.ofNat (i))), .val (.int (f i))] []))
    refine own_st (fun _ k => XS.iinc X4.here hx rfl (hb hby own_d_jdk_52_m21_32) rfl (l' := #[.val (.ref a1), .val (.int ((Int32.ofNat (i)) + (1 : Int32))), .val (.ref b), .val (.int (Int32.ofNat (i))), .val (.int (Int32.ofNat n)), .val (.int (Int32.ofNat (i))), .val (.int (f i))]) rfl k) ?_
    show own_G _ _ _ _ (T4.setTop (mkF m 35 #[.val (.ref a1), .val (.int ((Int32.ofNat (i)) + (1 : Int32))), .val (.ref b), .val (.int (Int32.ofNat (i))), .val (.int (Int32.ofNat n)), .val (.int (Int32.ofNat (i))), .val (.int (f i))] []))
    refine own_st (fun _ k => XS.iinc X4.here hx rfl (hb hby own_d_jdk_52_m21_35) rfl (l' := #[.val (.ref a1), .val (.int ((Int32.ofNat (i)) + (1 : Int32))), .val (.ref b), .val (.int ((Int32.ofNat (i)) + (1 : Int32))), .val (.int (Int32.ofNat n)), .val (.int (Int32.ofNat (i))), .val (.int (f i))]) rfl k) ?_
    show own_G _ _ _ _ (T4.setTop (mkF m 38 #[.val (.ref a1), .val (.int ((Int32.ofNat (i)) + (1 : Int32))), .val (.ref b), .val (.int ((Int32.ofNat (i)) + (1 : Int32))), .val (.int (Int32.ofNat n)), .val (.int (Int32.ofNat (i))), .val (.int (f i))] []))
    refine own_st (fun _ k => XS.iinc X4.here hx rfl (hb hby own_d_jdk_52_m21_38) rfl (l' := #[.val (.ref a1), .val (.int ((Int32.ofNat (i)) + (1 : Int32))), .val (.ref b), .val (.int ((Int32.ofNat (i)) + (1 : Int32))), .val (.int (Int32.ofNat n)), .val (.int ((Int32.ofNat (i)) + (1 : Int32))), .val (.int (f i))]) rfl k) ?_
    show own_G _ _ _ _ (T4.setTop (mkF m 41 #[.val (.ref a1), .val (.int ((Int32.ofNat (i)) + (1 : Int32))), .val (.ref b), .val (.int ((Int32.ofNat (i)) + (1 : Int32))), .val (.int (Int32.ofNat n)), .val (.int ((Int32.ofNat (i)) + (1 : Int32))), .val (.int (f i))] []))
    refine own_st (fun _ k => XS.goto X4.here hx rfl (pc0 := 41) (pc' := 3) rfl (hb hby own_d_jdk_52_m21_41) (by decide) (by decide) k) ?_
    show own_G _ _ _ _ (T4.setTop (mkF m 3 #[.val (.ref a1), .val (.int ((Int32.ofNat (i)) + (1 : Int32))), .val (.ref b), .val (.int ((Int32.ofNat (i)) + (1 : Int32))), .val (.int (Int32.ofNat n)), .val (.int ((Int32.ofNat (i)) + (1 : Int32))), .val (.int (f i))] []))
    rw [own_one]
    show own_G _ _ _ _ (T4.setTop (mkF m 3 #[.val (.ref a1), .val (.int (Int32.ofNat (i + 1))), .val (.ref b), .val (.int (Int32.ofNat (i + 1))), .val (.int (Int32.ofNat n)), .val (.int (Int32.ofNat (i + 1))), .val (.int (f i))] []))
    have q8 : Arv Z h4 a1 kc .char (Int32.ofNat n) (own_vals f n) (.int (0 : Int32)) := (Vc.other W4 (show @Ne Nat a1 b by omega))
    exact k _ _ _ _ X4 e4 N4 O6 (One.val rfl) (Ks.trans K7 (allS (Or.inl (by simp)) all0)) (fun j hj => by rcases Nat.lt_or_ge j i with q | q; exact hall j q; rw [show j = i by omega]; exact hbig) q8 V4'
theorem own_d_jdk_52_m21_44 : decode jdk_52_method_21_code 44 = .ok (.iload 4, 2) := by decide +kernel
theorem own_d_jdk_52_m21_46 : decode jdk_52_method_21_code 46 = .ok (.ireturn, 1) := by decide +kernel
set_option maxRecDepth 65536 in
set_option maxHeartbeats 40000000 in
theorem own_c5_exit {p : Program} {l : Launch} {e : Env} {s : State} {m : MethodId} {args : Array Value} {below : List Frame} {meth : Method} {c : Code} {Z : State} {a0 : Array Value} {locs : List Loc} {cells slots : Nat} {T0 : State} {h0 : Heap}  {hs : Heap} (a1 b : Addr) (n : Nat) (f : Nat → Int32) (kb : ClassId) (s6 : Slot) (hx : p.tables.exec = Jvm.exec) (hZ : Z.Warmed39 s.vm) (hw : ∀ d ∈ tables_1, d.before a0 Z = true) (hby : c.code = jdk_52_method_21_code) (hml : c.maxLocals = 7) (hown : s.vm.findClass "java/lang/StringUTF16" = some m.cls) (X0 : Stand p l e ({ frames := 0, cells := 0, slots := 0, locals := 0 } : Room) s m args below meth c T0 locs cells slots) (e0 : T0.heap = h0) (N0 : Fr Z.heap.size locs) (O0 : Old Z Z.heap.size h0) (hret : meth.sig.returnType = some .int) (hlk : meth.locks = false) (hcs : cells ≤ 0) (hss : slots ≤ 0) (Ks : Keep hs h0 [b]) (hall : ∀ j, j < n → ¬ (255 : Int32) < f j) (Vb : Arv Z h0 b kb .byte (Int32.ofNat n) (own_vals (fun j => own_lo (f j)) n) (.int (0 : Int32)))
     :
    own_G p.tables e below (own_F s below (own_QC Z hs b kb f n) 0 0) (T0.setTop (mkF m 3 #[.val (.ref a1), .val (.int (Int32.ofNat (n))), .val (.ref b), .val (.int (Int32.ofNat (n))), .val (.int (Int32.ofNat n)), .val (.int (Int32.ofNat (n))), s6] [])) := by
  have z0 : Z.heap.size ≤ h0.size := O0.2.1
  have Kr := Keep.refl h0 []
  show own_G _ _ _ _ (T0.setTop (mkF m 3 #[.val (.ref a1), .val (.int (Int32.ofNat (n))), .val (.ref b), .val (.int (Int32.ofNat (n))), .val (.int (Int32.ofNat n)), .val (.int (Int32.ofNat (n))), s6] []))
  refine own_st (fun _ k => XS.iload X0.here hx rfl (hb hby own_d_jdk_52_m21_3) rfl k) ?_
  show own_G _ _ _ _ (T0.setTop (mkF m 5 #[.val (.ref a1), .val (.int (Int32.ofNat (n))), .val (.ref b), .val (.int (Int32.ofNat (n))), .val (.int (Int32.ofNat n)), .val (.int (Int32.ofNat (n))), s6] [(.int (Int32.ofNat (n)))]))
  refine own_st (fun _ k => XS.iload X0.here hx rfl (hb hby own_d_jdk_52_m21_5) rfl k) ?_
  show own_G _ _ _ _ (T0.setTop (mkF m 7 #[.val (.ref a1), .val (.int (Int32.ofNat (n))), .val (.ref b), .val (.int (Int32.ofNat (n))), .val (.int (Int32.ofNat n)), .val (.int (Int32.ofNat (n))), s6] [(.int (Int32.ofNat n)), (.int (Int32.ofNat (n)))]))
  refine own_st (fun _ k => XS.icmpYes X0.here hx rfl (pc0 := 7) (pc' := 44) rfl (hb hby own_d_jdk_52_m21_7) rfl (flt Int32.lt_irrefl).2.1 (by decide) (by decide) k) ?_
  show own_G _ _ _ _ (T0.setTop (mkF m 44 #[.val (.ref a1), .val (.int (Int32.ofNat (n))), .val (.ref b), .val (.int (Int32.ofNat (n))), .val (.int (Int32.ofNat n)), .val (.int (Int32.ofNat (n))), s6] []))
  refine own_st (fun _ k => XS.iload X0.here hx rfl (hb hby own_d_jdk_52_m21_44) rfl k) ?_
  show own_G _ _ _ _ (T0.setTop (mkF m 46 #[.val (.ref a1), .val (.int (Int32.ofNat (n))), .val (.ref b), .val (.int (Int32.ofNat (n))), .val (.int (Int32.ofNat n)), .val (.int (Int32.ofNat (n))), s6] [(.int (Int32.ofNat n))]))
  exact own_retI X0 hx hret hlk (hb hby own_d_jdk_52_m21_46) (by rw [e0]; exact ⟨n, rfl, N0, Ks, Or.inl ⟨rfl, hall, Vb⟩⟩) hcs hss
theorem own_c5_loop {p : Program} {l : Launch} {e : Env} {s : State} {m : MethodId} {args : Array Value} {below : List Frame} {meth : Method} {c : Code} {Z : State} {a0 : Array Value} {cells slots : Nat} {hs : Heap} (a1 b : Addr) (n : Nat) (f : Nat → Int32) (kb kc : ClassId) (hx : p.tables.exec = Jvm.exec) (hZ : Z.Warmed39 s.vm) (hw : ∀ d ∈ tables_1, d.before a0 Z = true) (hby : c.code = jdk_52_method_21_code) (hml : c.maxLocals = 7) (hown : s.vm.findClass "java/lang/StringUTF16" = some m.cls) (hret : meth.sig.returnType = some .int) (hlk : meth.locks = false) (hcs : cells ≤ 0) (hss : slots ≤ 0) (hn : n ≤ 4) (gb : Z.heap.size ≤ b) (hne : a1 ≠ b) :
    ∀ (r i : Nat) (s6 : Slot) (T' : State) (h' : Heap) (locs' : List Loc), i + r = n → Stand p l e ({ frames := 0, cells := 0, slots := 0, locals := 0 } : Room) s m args below meth c T' locs' cells slots → T'.heap = h' → Fr Z.heap.size locs' → Old Z Z.heap.size h' → One s6 → Keep hs h' [b] → (∀ j, j < i → ¬ (255 : Int32) < f j) → Arv Z h' a1 kc .char (Int32.ofNat n) (own_vals f n) (.int (0 : Int32)) → Arv Z h' b kb .byte (Int32.ofNat n) (own_vals (fun j => own_lo (f j)) (i)) (.int (0 : Int32)) → own_G p.tables e below (own_F s below (own_QC Z hs b kb f n) 0 0) (T'.setTop (mkF m 3 #[.val (.ref a1), .val (.int (Int32.ofNat (i))), .val (.ref b), .val (.int (Int32.ofNat (i))), .val (.int (Int32.ofNat n)), .val (.int (Int32.ofNat (i))), s6] [])) := by
  intro r
  induction r with
  | zero =>
    intro i s6 T' h' locs' hi X e1 N O h6 K ha Vc Vb
    have hi' : i = n := by omega
    subst hi'
    exact own_c5_exit a1 b i f kb s6 hx hZ hw hby hml hown X e1 N O hret hlk hcs hss K ha Vb
  | succ r ih =>
    intro i s6 T' h' locs' hi X e1 N O h6 K ha Vc Vb
    exact own_c5_turn a1 b i n f kb kc s6 hx hZ hw hby hml hown X e1 N O hret hlk hcs hss h6 (by omega) hn gb hne K ha Vc Vb fun s7 T2 h2 L2 X2 e2 N2 O2 h62 K2 ha2 Vc2 Vb2 => ih (i + 1) s7 T2 h2 L2 (by omega) X2 e2 N2 O2 h62 K2 ha2 Vc2 Vb2
theorem own_d_jdk_52_m21_0 : decode jdk_52_method_21_code 0 = .ok (.iconst 0, 1) := by decide +kernel
theorem own_d_jdk_52_m21_1 : decode jdk_52_method_21_code 1 = .ok (.istore 5, 2) := by decide +kernel
set_option maxRecDepth 65536 in
set_option maxHeartbeats 40000000 in
theorem own_c5 (l : Launch) (Z : State) (a0 : Array Value) (hw : ∀ d ∈ tables_1, d.before a0 Z = true) (ws : List Jvm.Cond) (a1 : Addr) (b : Addr) (n : Nat) (f : Nat → Int32) (kb kc : ClassId) (h0 : Heap) (O0 : Old Z Z.heap.size h0) (hn : n ≤ 4) (gb : Z.heap.size ≤ b) (hne : a1 ≠ b) (Vc : Arv Z h0 a1 kc .char (Int32.ofNat n) (own_vals f n) (.int (0 : Int32))) (Vb : Arv Z h0 b kb .byte (Int32.ofNat n) [] (.int (0 : Int32))) :
    own_Met l Z (⟨"java/lang/StringUTF16", "compress", "([CI[BII)I"⟩ : MethodName) jdk_52_method_21_code 7 (some .int) ws ({ frames := 0, cells := 0, slots := 0, locals := 0 } : Room) #[(.ref a1), (.int (Int32.ofNat 0)), (.ref b), (.int (Int32.ofNat 0)), (.int (Int32.ofNat n))] h0 (own_QC Z h0 b kb f n) (({ frames := 0, cells := 0, slots := 0, locals := 0 } : Room)).cells (({ frames := 0, cells := 0, slots := 0, locals := 0 } : Room)).slots := by
  refine own_body (ef := fun m => mkF m 0 #[.val (.ref a1), .val (.int (Int32.ofNat 0)), .val (.ref b), .val (.int (Int32.ofNat 0)), .val (.int (Int32.ofNat n)), .unset, .unset] []) (plainFor_of_name own_pn0) (fun m => by first | rfl | (simp [entryFrame, mkF, argsToLocals, Value.category]; done)) ?_
  intro p e s m below meth c T0 hx hZ hby hml hown hnm hret hlk X0 e0
  have N0 := Fr.nil Z.heap.size
  have z0 : Z.heap.size ≤ h0.size := O0.2.1
  have Kr := Keep.refl h0 []
  show own_G _ _ _ _ (T0.setTop (mkF m 0 #[.val (.ref a1), .val (.int (Int32.ofNat 0)), .val (.ref b), .val (.int (Int32.ofNat 0)), .val (.int (Int32.ofNat n)), .unset, .unset] []))
  refine own_st (fun _ k => XS.iconst X0.here hx rfl (hb hby own_d_jdk_52_m21_0) k) ?_
  show own_G _ _ _ _ (T0.setTop (mkF m 1 #[.val (.ref a1), .val (.int (Int32.ofNat 0)), .val (.ref b), .val (.int (Int32.ofNat 0)), .val (.int (Int32.ofNat n)), .unset, .unset] [(.int (0 : Int32))]))
  refine own_st (fun _ k => XS.istore X0.here hx rfl (hb hby own_d_jdk_52_m21_1) rfl (l' := #[.val (.ref a1), .val (.int (Int32.ofNat 0)), .val (.ref b), .val (.int (Int32.ofNat 0)), .val (.int (Int32.ofNat n)), .val (.int (0 : Int32)), .unset]) rfl k) ?_
  show own_G _ _ _ _ (T0.setTop (mkF m 3 #[.val (.ref a1), .val (.int (Int32.ofNat 0)), .val (.ref b), .val (.int (Int32.ofNat 0)), .val (.int (Int32.ofNat n)), .val (.int (0 : Int32)), .unset] []))
  exact own_c5_loop a1 b n f kb kc hx hZ hw hby hml hown hret hlk (Nat.le_refl _) (Nat.le_refl _) hn gb hne n 0 .unset _ _ _ (by omega) X0 e0 N0 O0 One.u (Keep.refl _ _) (fun j hj => absurd hj (Nat.not_lt_zero j)) Vc Vb
theorem own_d_jdk_52_m15_0 : decode jdk_52_method_15_code 0 = .ok (.iload_n 1, 1) := by decide +kernel
theorem own_d_jdk_52_m15_1 : decode jdk_52_method_15_code 1 = .ok (.aload_n 0, 1) := by decide +kernel
theorem own_d_jdk_52_m15_2 : decode jdk_52_method_15_code 2 = .ok (.arraylength, 1) := by decide +kernel
theorem own_d_jdk_52_m15_3 : decode jdk_52_method_15_code 3 = .ok (.isub, 1) := by decide +kernel
theorem own_d_jdk_52_m15_4 : decode jdk_52_method_15_code 4 = .ok (.bipush 31, 2) := by decide +kernel
theorem own_d_jdk_52_m15_6 : decode jdk_52_method_15_code 6 = .ok (.iushr, 1) := by decide +kernel
theorem own_d_jdk_52_m15_7 : decode jdk_52_method_15_code 7 = .ok (.i2b, 1) := by decide +kernel
theorem own_d_jdk_52_m15_8 : decode jdk_52_method_15_code 8 = .ok (.ireturn, 1) := by decide +kernel
set_option maxRecDepth 65536 in
set_option maxHeartbeats 40000000 in
theorem own_cod (l : Launch) (Z : State) (a0 : Array Value) (hw : ∀ d ∈ tables_1, d.before a0 Z = true) (ws : List Jvm.Cond) (a1 : Addr) (n : Nat) (N cd : Int32) (vs : List Value) (kb : ClassId) (h0 : Heap) (O0 : Old Z Z.heap.size h0) (V1 : Arv Z h0 a1 kb .byte N vs (.int (0 : Int32))) (hcd : nar .byte (((((Int32.ofNat n) - N).toUInt32 >>> ((31 : Int32) &&& 31).toUInt32).toInt32).toInt8.toInt32) = cd) :
    own_Met l Z (⟨"java/lang/StringUTF16", "coderFromArrayLen", "([BI)B"⟩ : MethodName) jdk_52_method_15_code 2 (some .byte) ws ({ frames := 0, cells := 0, slots := 0, locals := 0 } : Room) #[(.ref a1), (.int (Int32.ofNat n))] h0 (fun v h L => v = some (.int cd) ∧ Fr Z.heap.size L ∧ h = h0) (({ frames := 0, cells := 0, slots := 0, locals := 0 } : Room)).cells (({ frames := 0, cells := 0, slots := 0, locals := 0 } : Room)).slots := by
  refine own_body (ef := fun m => mkF m 0 #[.val (.ref a1), .val (.int (Int32.ofNat n))] []) (plainFor_of_name own_pn0) (fun m => by first | rfl | (simp [entryFrame, mkF, argsToLocals, Value.category]; done)) ?_
  intro p e s m below meth c T0 hx hZ hby hml hown hnm hret hlk X0 e0
  have N0 := Fr.nil Z.heap.size
  have z0 : Z.heap.size ≤ h0.size := O0.2.1
  have Kr := Keep.refl h0 []
  show own_G _ _ _ _ (T0.setTop (mkF m 0 #[.val (.ref a1), .val (.int (Int32.ofNat n))] []))
  refine own_st (fun _ k => XS.iloadN X0.here hx rfl (hb hby own_d_jdk_52_m15_0) rfl k) ?_
  show own_G _ _ _ _ (T0.setTop (mkF m 1 #[.val (.ref a1), .val (.int (Int32.ofNat n))] [(.int (Int32.ofNat n))]))
  refine own_st (fun _ k => XS.aloadN X0.here hx rfl (hb hby own_d_jdk_52_m15_1) rfl rfl k) ?_
  show own_G _ _ _ _ (T0.setTop (mkF m 2 #[.val (.ref a1), .val (.int (Int32.ofNat n))] [(.ref a1), (.int (Int32.ofNat n))]))
  obtain ⟨cl1, Ar1, qk1, Sz1, Mz1, Hz1, Uz1⟩ := id V1
  refine own_st (X0.arraylength hx (by rw [e0]; exact Ar1.1) (State.isArrayOf_alike hZ.alike Ar1.2.1) (g := (mkF m 2 #[.val (.ref a1), .val (.int (Int32.ofNat n))] [(.ref a1), (.int (Int32.ofNat n))])) rfl rfl (hb hby own_d_jdk_52_m15_2)) ?_
  rw [len_of Sz1 Mz1]
  show own_G _ _ _ _ (T0.setTop (mkF m 3 #[.val (.ref a1), .val (.int (Int32.ofNat n))] [(.int N), (.int (Int32.ofNat n))]))
  refine own_st (fun _ k => XS.isub X0.here hx rfl (hb hby own_d_jdk_52_m15_3) rfl k) ?_
  show own_G _ _ _ _ (T0.setTop (mkF m 4 #[.val (.ref a1), .val (.int (Int32.ofNat n))] [(.int ((Int32.ofNat n) - N))]))
  refine own_st (fun _ k => XS.bipush X0.here hx rfl (hb hby own_d_jdk_52_m15_4) k) ?_
  show own_G _ _ _ _ (T0.setTop (mkF m 6 #[.val (.ref a1), .val (.int (Int32.ofNat n))] [(.int (31 : Int32)), (.int ((Int32.ofNat n) - N))]))
  refine own_st (fun _ k => XS.iushr X0.here hx rfl (hb hby own_d_jdk_52_m15_6) rfl k) ?_
  show own_G _ _ _ _ (T0.setTop (mkF m 7 #[.val (.ref a1), .val (.int (Int32.ofNat n))] [(.int ((((Int32.ofNat n) - N).toUInt32 >>> ((31 : Int32) &&& 31).toUInt32).toInt32))]))
  refine own_st (fun _ k => XS.i2b X0.here hx rfl (hb hby own_d_jdk_52_m15_7) rfl k) ?_
  show own_G _ _ _ _ (T0.setTop (mkF m 8 #[.val (.ref a1), .val (.int (Int32.ofNat n))] [(.int (((((Int32.ofNat n) - N).toUInt32 >>> ((31 : Int32) &&& 31).toUInt32).toInt32).toInt8.toInt32))]))
  exact own_retN X0 hx hret hlk (by simp) (hb hby own_d_jdk_52_m15_8) (by rw [e0]; exact ⟨by rw [hcd], N0, rfl⟩) (by decide) (by decide)
theorem own_d_jdk_52_m16_0 : decode jdk_52_method_16_code 0 = .ok (.iload_n 2, 1) := by decide +kernel
theorem own_d_jdk_52_m16_1 : decode jdk_52_method_16_code 1 = .ok (.newarray .byte, 2) := by decide +kernel
theorem own_d_jdk_52_m16_3 : decode jdk_52_method_16_code 3 = .ok (.astore_n 3, 1) := by decide +kernel
theorem own_d_jdk_52_m16_4 : decode jdk_52_method_16_code 4 = .ok (.aload_n 0, 1) := by decide +kernel
theorem own_d_jdk_52_m16_5 : decode jdk_52_method_16_code 5 = .ok (.iload_n 1, 1) := by decide +kernel
theorem own_d_jdk_52_m16_6 : decode jdk_52_method_16_code 6 = .ok (.aload_n 3, 1) := by decide +kernel
theorem own_d_jdk_52_m16_7 : decode jdk_52_method_16_code 7 = .ok (.iconst 0, 1) := by decide +kernel
theorem own_d_jdk_52_m16_8 : decode jdk_52_method_16_code 8 = .ok (.iload_n 2, 1) := by decide +kernel
theorem own_d_jdk_52_m16_9 : decode jdk_52_method_16_code 9 = .ok (.invokestatic 115, 3) := by decide +kernel
theorem own_pd124 : parseMethodDescriptor "([CI[BII)I" = some ⟨[(.array .char), .int, (.array .byte), .int, .int], some .int⟩ := by decide +kernel
theorem own_d_jdk_52_m16_12 : decode jdk_52_method_16_code 12 = .ok (.istore 4, 2) := by decide +kernel
theorem own_d_jdk_52_m16_14 : decode jdk_52_method_16_code 14 = .ok (.iload 4, 2) := by decide +kernel
theorem own_d_jdk_52_m16_16 : decode jdk_52_method_16_code 16 = .ok (.iload_n 2, 1) := by decide +kernel
theorem own_d_jdk_52_m16_17 : decode jdk_52_method_16_code 17 = .ok (.if_icmp .eq 40, 3) := by decide +kernel
theorem own_d_jdk_52_m16_57 : decode jdk_52_method_16_code 57 = .ok (.aload_n 3, 1) := by decide +kernel
theorem own_d_jdk_52_m16_58 : decode jdk_52_method_16_code 58 = .ok (.areturn, 1) := by decide +kernel
theorem own_d_jdk_52_m16_20 : decode jdk_52_method_16_code 20 = .ok (.aload_n 0, 1) := by decide +kernel
theorem own_d_jdk_52_m16_21 : decode jdk_52_method_16_code 21 = .ok (.iload_n 1, 1) := by decide +kernel
theorem own_d_jdk_52_m16_22 : decode jdk_52_method_16_code 22 = .ok (.iload_n 2, 1) := by decide +kernel
theorem own_d_jdk_52_m16_23 : decode jdk_52_method_16_code 23 = .ok (.invokestatic 119, 3) := by decide +kernel
theorem own_pd135 : parseMethodDescriptor "([CII)[B" = some ⟨[(.array .char), .int, .int], some (.array .byte)⟩ := by decide +kernel
theorem own_d_jdk_52_m16_26 : decode jdk_52_method_16_code 26 = .ok (.astore 5, 2) := by decide +kernel
theorem own_d_jdk_52_m16_28 : decode jdk_52_method_16_code 28 = .ok (.aload 5, 2) := by decide +kernel
theorem own_d_jdk_52_m16_30 : decode jdk_52_method_16_code 30 = .ok (.iload 4, 2) := by decide +kernel
theorem own_d_jdk_52_m16_32 : decode jdk_52_method_16_code 32 = .ok (.invokestatic 71, 3) := by decide +kernel
theorem own_pd140 : parseMethodDescriptor "([BI)C" = some ⟨[(.array .byte), .int], some .char⟩ := by decide +kernel
theorem own_d_jdk_52_m16_35 : decode jdk_52_method_16_code 35 = .ok (.sipush 255, 3) := by decide +kernel
theorem own_d_jdk_52_m16_38 : decode jdk_52_method_16_code 38 = .ok (.if_icmp .gt 16, 3) := by decide +kernel
theorem own_d_jdk_52_m16_54 : decode jdk_52_method_16_code 54 = .ok (.aload 5, 2) := by decide +kernel
theorem own_d_jdk_52_m16_56 : decode jdk_52_method_16_code 56 = .ok (.areturn, 1) := by decide +kernel
set_option maxRecDepth 65536 in
set_option maxHeartbeats 40000000 in
theorem own_c3 (l : Launch) (Z : State) (a0 : Array Value) (hw : ∀ d ∈ tables_1, d.before a0 Z = true) (ws : List Jvm.Cond) (a1 : Addr) (n : Nat) (f : Nat → Int32) (kc : ClassId) (h0 : Heap) (O0 : Old Z Z.heap.size h0) (hn : n ≤ 4) (hf : ∀ j, j < n → 0 ≤ (f j).toInt ∧ (f j).toInt < 65536) (US : own_US Z) (Vc : Arv Z h0 a1 kc .char (Int32.ofNat n) (own_vals f n) (.int (0 : Int32))) :
    own_Met l Z (⟨"java/lang/StringUTF16", "compress", "([CII)[B"⟩ : MethodName) jdk_52_method_16_code 6 (some (.array .byte)) ws ({ frames := 3, cells := 2, slots := 12, locals := 40 } : Room) #[(.ref a1), (.int (Int32.ofNat 0)), (.int (Int32.ofNat n))] h0 (fun v h L => ∃ t kt, v = some (.ref t) ∧ Fr Z.heap.size L ∧ Keep h0 h [] ∧ h0.size ≤ t ∧ t < h.size ∧ (((∀ j, j < n → ¬ (255 : Int32) < f j) ∧ Arv Z h t kt .byte (Int32.ofNat n) (own_vals (fun j => own_lo (f j)) n) (.int (0 : Int32))) ∨ Arv Z h t kt .byte (Int32.ofNat (2 * n)) (own_vals (own_wide f) (2 * n)) (.int (0 : Int32)))) (({ frames := 3, cells := 2, slots := 12, locals := 40 } : Room)).cells (({ frames := 3, cells := 2, slots := 12, locals := 40 } : Room)).slots := by
  refine own_body (ef := fun m => mkF m 0 #[.val (.ref a1), .val (.int (Int32.ofNat 0)), .val (.int (Int32.ofNat n)), .unset, .unset, .unset] []) (plainFor_of_name own_pn0) (fun m => by first | rfl | (simp [entryFrame, mkF, argsToLocals, Value.category]; done)) ?_
  intro p e s m below meth c T0 hx hZ hby hml hown hnm hret hlk X0 e0
  have N0 := Fr.nil Z.heap.size
  have z0 : Z.heap.size ≤ h0.size := O0.2.1
  have Kr := Keep.refl h0 []
  show own_G _ _ _ _ (T0.setTop (mkF m 0 #[.val (.ref a1), .val (.int (Int32.ofNat 0)), .val (.int (Int32.ofNat n)), .unset, .unset, .unset] []))
  have ltc := own_ltN Vc.lt
  refine own_st (fun _ k => XS.iloadN X0.here hx rfl (hb hby own_d_jdk_52_m16_0) rfl k) ?_
  show own_G _ _ _ _ (T0.setTop (mkF m 1 #[.val (.ref a1), .val (.int (Int32.ofNat 0)), .val (.int (Int32.ofNat n)), .unset, .unset, .unset] [(.int (Int32.ofNat n))]))
  obtain ⟨T1, h1, k1, X1, e1, E1, A1, st1⟩ := newP X0 hx hZ (hw _ (List.mem_of_getElem? (i := 20) rfl)) e0 (g := (mkF m 1 #[.val (.ref a1), .val (.int (Int32.ofNat 0)), .val (.int (Int32.ofNat n)), .unset, .unset, .unset] [(.int (Int32.ofNat n))])) rfl (hb hby own_d_jdk_52_m16_1) rfl (own_nn (by omega)) (cap := 4) (by rw [own_clamp (by omega)]; omega) (by decide) (by decide) (by decide)
  obtain ⟨b1, g1⟩ : ∃ z, z = h0.size := ⟨_, rfl⟩
  rw [← g1] at A1 st1
  refine own_st st1 ?_
  have z2 : h0.size ≤ h1.size := E1.1
  have O3 := Old.ext O0 E1
  have K4 : Keep h0 h1 [] := Kr.ext E1
  have V1 : Arv Z h1 b1 k1 .byte (Int32.ofNat n) [] (.int (0 : Int32)) := Arv.new A1 (own_nn (by omega))
  have lt1 := own_ltN A1.lt
  show own_G _ _ _ _ (T1.setTop (mkF m 3 #[.val (.ref a1), .val (.int (Int32.ofNat 0)), .val (.int (Int32.ofNat n)), .unset, .unset, .unset] [(.ref b1)]))
  refine own_st (fun _ k => XS.astoreN X1.here hx rfl (hb hby own_d_jdk_52_m16_3) rfl rfl (l' := #[.val (.ref a1), .val (.int (Int32.ofNat 0)), .val (.int (Int32.ofNat n)), .val (.ref b1), .unset, .unset]) rfl k) ?_
  show own_G _ _ _ _ (T1.setTop (mkF m 4 #[.val (.ref a1), .val (.int (Int32.ofNat 0)), .val (.int (Int32.ofNat n)), .val (.ref b1), .unset, .unset] []))
  refine own_st (fun _ k => XS.aloadN X1.here hx rfl (hb hby own_d_jdk_52_m16_4) rfl rfl k) ?_
  show own_G _ _ _ _ (T1.setTop (mkF m 5 #[.val (.ref a1), .val (.int (Int32.ofNat 0)), .val (.int (Int32.ofNat n)), .val (.ref b1), .unset, .unset] [(.ref a1)]))
  refine own_st (fun _ k => XS.iloadN X1.here hx rfl (hb hby own_d_jdk_52_m16_5) rfl k) ?_
  show own_G _ _ _ _ (T1.setTop (mkF m 6 #[.val (.ref a1), .val (.int (Int32.ofNat 0)), .val (.int (Int32.ofNat n)), .val (.ref b1), .unset, .unset] [(.int (Int32.ofNat 0)), (.ref a1)]))
  refine own_st (fun _ k => XS.aloadN X1.here hx rfl (hb hby own_d_jdk_52_m16_6) rfl rfl k) ?_
  show own_G _ _ _ _ (T1.setTop (mkF m 7 #[.val (.ref a1), .val (.int (Int32.ofNat 0)), .val (.int (Int32.ofNat n)), .val (.ref b1), .unset, .unset] [(.ref b1), (.int (Int32.ofNat 0)), (.ref a1)]))
  refine own_st (fun _ k => XS.iconst X1.here hx rfl (hb hby own_d_jdk_52_m16_7) k) ?_
  show own_G _ _ _ _ (T1.setTop (mkF m 8 #[.val (.ref a1), .val (.int (Int32.ofNat 0)), .val (.int (Int32.ofNat n)), .val (.ref b1), .unset, .unset] [(.int (0 : Int32)), (.ref b1), (.int (Int32.ofNat 0)), (.ref a1)]))
  refine own_st (fun _ k => XS.iloadN X1.here hx rfl (hb hby own_d_jdk_52_m16_8) rfl k) ?_
  show own_G _ _ _ _ (T1.setTop (mkF m 9 #[.val (.ref a1), .val (.int (Int32.ofNat 0)), .val (.int (Int32.ofNat n)), .val (.ref b1), .unset, .unset] [(.int (Int32.ofNat n)), (.int (0 : Int32)), (.ref b1), (.int (Int32.ofNat 0)), (.ref a1)]))
  have q5 : Arv Z h1 a1 kc .char (Int32.ofNat n) (own_vals f n) (.int (0 : Int32)) := (Vc.ext E1)
  obtain ⟨_, _, ⟨T6, L6, k6, n6⟩, -, X6, ⟨Lc6, hQ6, l6, y6, z6⟩, st6⟩ := Jvm.LawKit.callS X1 hx (y := (⟨"java/lang/StringUTF16", "compress", "([CI[BII)I"⟩ : MethodName)) hown (mvT hZ (hw _ (List.mem_of_getElem? (i := 21) rfl))) (mvT hZ (hw _ (List.mem_of_getElem? (i := 22) rfl))) (mvT hZ (hw _ (List.mem_of_getElem? (i := 18) rfl))) (mvT hZ (hw _ (List.mem_of_getElem? (i := 23) rfl))) (by decide) (own_back (rm := ({ frames := 0, cells := 0, slots := 0, locals := 0 } : Room)) (W := 0) (own_c5 l Z a0 hw [] a1 b1 n f k1 kc h1 O3 hn (by omega) (show @Ne Nat a1 b1 by omega) q5 V1) hZ (hw _ (List.mem_of_getElem? (i := 23) rfl)) (hw _ (List.mem_of_getElem? (i := 18) rfl)) (by decide) (by decide)) (g := (mkF m 9 #[.val (.ref a1), .val (.int (Int32.ofNat 0)), .val (.int (Int32.ofNat n)), .val (.ref b1), .unset, .unset] [(.int (Int32.ofNat n)), (.int (0 : Int32)), (.ref b1), (.int (Int32.ofNat 0)), (.ref a1)])) rfl (by rw [hml]; rfl) (argsL := [(.ref a1), (.int (Int32.ofNat 0)), (.ref b1), (.int (0 : Int32)), (.int (Int32.ofNat n))]) (rest := []) (lenOf own_pd124 rfl) rfl (by show 2 * 0 + _ ≤ _; exact Nat.le_of_eq rfl) (hb hby own_d_jdk_52_m16_9) (fun _ _ => ⟨rfl, e1, (by decide : 0 + 1 + 0 ≤ _), (by decide : 0 + 4 + 0 ≤ _)⟩)
  dsimp only [Pt.U, Pt.locs, Pt.cells, Pt.slots] at X6 l6 y6 z6 st6 hQ6
  subst l6 y6 z6
  obtain ⟨r, rfl, N6q, K6_, c6⟩ := hQ6
  have N6 := Fr.app N0 N6q
  refine own_st st6 ?_
  have z7 : h1.size ≤ T6.heap.size := K6_.1
  have O8 := Old.keep O3 K6_ (allS (by omega) all0)
  have K9 : Keep h0 T6.heap [] := K4.trans K6_ (allS (Or.inr (by omega)) all0)
  show own_G _ _ _ _ (T6.setTop (mkF m 12 #[.val (.ref a1), .val (.int (Int32.ofNat 0)), .val (.int (Int32.ofNat n)), .val (.ref b1), .unset, .unset] [(.int (Int32.ofNat r))]))
  refine own_st (fun _ k => XS.istore X6.here hx rfl (hb hby own_d_jdk_52_m16_12) rfl (l' := #[.val (.ref a1), .val (.int (Int32.ofNat 0)), .val (.int (Int32.ofNat n)), .val (.ref b1), .val (.int (Int32.ofNat r)), .unset]) rfl k) ?_
  show own_G _ _ _ _ (T6.setTop (mkF m 14 #[.val (.ref a1), .val (.int (Int32.ofNat 0)), .val (.int (Int32.ofNat n)), .val (.ref b1), .val (.int (Int32.ofNat r)), .unset] []))
  refine own_st (fun _ k => XS.iload X6.here hx rfl (hb hby own_d_jdk_52_m16_14) rfl k) ?_
  show own_G _ _ _ _ (T6.setTop (mkF m 16 #[.val (.ref a1), .val (.int (Int32.ofNat 0)), .val (.int (Int32.ofNat n)), .val (.ref b1), .val (.int (Int32.ofNat r)), .unset] [(.int (Int32.ofNat r))]))
  refine own_st (fun _ k => XS.iloadN X6.here hx rfl (hb hby own_d_jdk_52_m16_16) rfl k) ?_
  show own_G _ _ _ _ (T6.setTop (mkF m 17 #[.val (.ref a1), .val (.int (Int32.ofNat 0)), .val (.int (Int32.ofNat n)), .val (.ref b1), .val (.int (Int32.ofNat r)), .unset] [(.int (Int32.ofNat n)), (.int (Int32.ofNat r))]))
  rcases c6 with ⟨hrn, hall, Vl⟩ | ⟨hr, hbig⟩
  · skip
    refine own_st (fun _ k => XS.icmpYes X6.here hx rfl (pc0 := 17) (pc' := 57) rfl (hb hby own_d_jdk_52_m16_17) rfl (teq (by rw [hrn])).1 (by decide) (by decide) k) ?_
    show own_G _ _ _ _ (T6.setTop (mkF m 57 #[.val (.ref a1), .val (.int (Int32.ofNat 0)), .val (.int (Int32.ofNat n)), .val (.ref b1), .val (.int (Int32.ofNat r)), .unset] []))
    refine own_st (fun _ k => XS.aloadN X6.here hx rfl (hb hby own_d_jdk_52_m16_57) rfl rfl k) ?_
    show own_G _ _ _ _ (T6.setTop (mkF m 58 #[.val (.ref a1), .val (.int (Int32.ofNat 0)), .val (.int (Int32.ofNat n)), .val (.ref b1), .val (.int (Int32.ofNat r)), .unset] [(.ref b1)]))
    exact own_retA X6 hx hret rfl rfl hlk (hb hby own_d_jdk_52_m16_58) ⟨b1, k1, rfl, N6, K9, by omega, Vl.lt, Or.inl ⟨hall, Vl⟩⟩ (by decide) (by decide)
  · skip
    refine own_st (fun _ k => XS.icmpNo X6.here hx rfl (hb hby own_d_jdk_52_m16_17) rfl (feq (fun q => by have := congrArg Int32.toInt q; rw [own_nat (by omega), own_nat (by omega)] at this; omega)).1 k) ?_
    show own_G _ _ _ _ (T6.setTop (mkF m 20 #[.val (.ref a1), .val (.int (Int32.ofNat 0)), .val (.int (Int32.ofNat n)), .val (.ref b1), .val (.int (Int32.ofNat r)), .unset] []))
    refine own_st (fun _ k => XS.aloadN X6.here hx rfl (hb hby own_d_jdk_52_m16_20) rfl rfl k) ?_
    show own_G _ _ _ _ (T6.setTop (mkF m 21 #[.val (.ref a1), .val (.int (Int32.ofNat 0)), .val (.int (Int32.ofNat n)), .val (.ref b1), .val (.int (Int32.ofNat r)), .unset] [(.ref a1)]))
    refine own_st (fun _ k => XS.iloadN X6.here hx rfl (hb hby own_d_jdk_52_m16_21) rfl k) ?_
    show own_G _ _ _ _ (T6.setTop (mkF m 22 #[.val (.ref a1), .val (.int (Int32.ofNat 0)), .val (.int (Int32.ofNat n)), .val (.ref b1), .val (.int (Int32.ofNat r)), .unset] [(.int (Int32.ofNat 0)), (.ref a1)]))
    refine own_st (fun _ k => XS.iloadN X6.here hx rfl (hb hby own_d_jdk_52_m16_22) rfl k) ?_
    show own_G _ _ _ _ (T6.setTop (mkF m 23 #[.val (.ref a1), .val (.int (Int32.ofNat 0)), .val (.int (Int32.ofNat n)), .val (.ref b1), .val (.int (Int32.ofNat r)), .unset] [(.int (Int32.ofNat n)), (.int (Int32.ofNat 0)), (.ref a1)]))
    have q10 : Arv Z T6.heap a1 kc .char (Int32.ofNat n) (own_vals f n) (.int (0 : Int32)) := (q5.keep K6_ (ninS (show @Ne Nat a1 b1 by omega) nin0))
    obtain ⟨_, _, ⟨T11, L11, k11, n11⟩, -, X11, ⟨Lc11, hQ11, l11, y11, z11⟩, st11⟩ := Jvm.LawKit.callS X6 hx (y := (⟨"java/lang/StringUTF16", "toBytes", "([CII)[B"⟩ : MethodName)) hown (mvT hZ (hw _ (List.mem_of_getElem? (i := 47) rfl))) (mvT hZ (hw _ (List.mem_of_getElem? (i := 48) rfl))) (mvT hZ (hw _ (List.mem_of_getElem? (i := 18) rfl))) (mvT hZ (hw _ (List.mem_of_getElem? (i := 49) rfl))) (by decide) (own_back (rm := ({ frames := 2, cells := 1, slots := 8, locals := 24 } : Room)) (W := 0) (own_toBytes l Z a0 hw [] a1 n f kc T6.heap O8 hn US q10) hZ (hw _ (List.mem_of_getElem? (i := 49) rfl)) (hw _ (List.mem_of_getElem? (i := 18) rfl)) (by decide) (by decide)) (g := (mkF m 23 #[.val (.ref a1), .val (.int (Int32.ofNat 0)), .val (.int (Int32.ofNat n)), .val (.ref b1), .val (.int (Int32.ofNat r)), .unset] [(.int (Int32.ofNat n)), (.int (Int32.ofNat 0)), (.ref a1)])) rfl (by rw [hml]; rfl) (argsL := [(.ref a1), (.int (Int32.ofNat 0)), (.int (Int32.ofNat n))]) (rest := []) (lenOf own_pd135 rfl) rfl (by show 2 * 0 + _ ≤ _; exact Nat.le_of_eq rfl) (hb hby own_d_jdk_52_m16_23) (fun _ _ => ⟨rfl, rfl, (by decide : 0 + 1 + 0 + 1 ≤ _), (by decide : 0 + 4 + 0 + 8 ≤ _)⟩)
    dsimp only [Pt.U, Pt.locs, Pt.cells, Pt.slots] at X11 l11 y11 z11 st11 hQ11
    subst l11 y11 z11
    obtain ⟨t, kt, rfl, N11q, K11_, gt, ltt, Vt⟩ := hQ11
    have N11 := Fr.app N6 N11q
    refine own_st st11 ?_
    have z12 : T6.heap.size ≤ T11.heap.size := K11_.1
    have O13 := Old.keep O8 K11_ all0
    have K14 : Keep h0 T11.heap [] := K9.trans K11_ all0
    show own_G _ _ _ _ (T11.setTop (mkF m 26 #[.val (.ref a1), .val (.int (Int32.ofNat 0)), .val (.int (Int32.ofNat n)), .val (.ref b1), .val (.int (Int32.ofNat r)), .unset] [(.ref t)]))
    refine own_st (fun _ k => XS.astore X11.here hx rfl (hb hby own_d_jdk_52_m16_26) rfl rfl (l' := #[.val (.ref a1), .val (.int (Int32.ofNat 0)), .val (.int (Int32.ofNat n)), .val (.ref b1), .val (.int (Int32.ofNat r)), .val (.ref t)]) rfl k) ?_
    show own_G _ _ _ _ (T11.setTop (mkF m 28 #[.val (.ref a1), .val (.int (Int32.ofNat 0)), .val (.int (Int32.ofNat n)), .val (.ref b1), .val (.int (Int32.ofNat r)), .val (.ref t)] []))
    refine own_st (fun _ k => XS.aload X11.here hx rfl (hb hby own_d_jdk_52_m16_28) rfl rfl k) ?_
    show own_G _ _ _ _ (T11.setTop (mkF m 30 #[.val (.ref a1), .val (.int (Int32.ofNat 0)), .val (.int (Int32.ofNat n)), .val (.ref b1), .val (.int (Int32.ofNat r)), .val (.ref t)] [(.ref t)]))
    refine own_st (fun _ k => XS.iload X11.here hx rfl (hb hby own_d_jdk_52_m16_30) rfl k) ?_
    show own_G _ _ _ _ (T11.setTop (mkF m 32 #[.val (.ref a1), .val (.int (Int32.ofNat 0)), .val (.int (Int32.ofNat n)), .val (.ref b1), .val (.int (Int32.ofNat r)), .val (.ref t)] [(.int (Int32.ofNat r)), (.ref t)]))
    obtain ⟨_, _, ⟨T15, L15, k15, n15⟩, -, X15, ⟨Lc15, hQ15, l15, y15, z15⟩, st15⟩ := Jvm.LawKit.callS X11 hx (y := (⟨"java/lang/StringUTF16", "getChar", "([BI)C"⟩ : MethodName)) hown (mvT hZ (hw _ (List.mem_of_getElem? (i := 63) rfl))) (mvT hZ (hw _ (List.mem_of_getElem? (i := 64) rfl))) (mvT hZ (hw _ (List.mem_of_getElem? (i := 18) rfl))) (mvT hZ (hw _ (List.mem_of_getElem? (i := 65) rfl))) (by decide) (own_back (rm := ({ frames := 0, cells := 0, slots := 0, locals := 0 } : Room)) (W := 0) (own_getChar l Z a0 hw [] t r n f kt T11.heap O13 hr hn (hf r hr) US Vt) hZ (hw _ (List.mem_of_getElem? (i := 65) rfl)) (hw _ (List.mem_of_getElem? (i := 18) rfl)) (by decide) (by decide)) (g := (mkF m 32 #[.val (.ref a1), .val (.int (Int32.ofNat 0)), .val (.int (Int32.ofNat n)), .val (.ref b1), .val (.int (Int32.ofNat r)), .val (.ref t)] [(.int (Int32.ofNat r)), (.ref t)])) rfl (by rw [hml]; rfl) (argsL := [(.ref t), (.int (Int32.ofNat r))]) (rest := []) (lenOf own_pd140 rfl) rfl (by show 2 * 0 + _ ≤ _; exact Nat.le_of_eq rfl) (hb hby own_d_jdk_52_m16_32) (fun _ _ => ⟨rfl, rfl, (by decide : 0 + 1 + 0 + 1 + 0 ≤ _), (by decide : 0 + 4 + 0 + 8 + 0 ≤ _)⟩)
    dsimp only [Pt.U, Pt.locs, Pt.cells, Pt.slots] at X15 l15 y15 z15 st15 hQ15
    subst l15 y15 z15
    obtain ⟨rfl, N15q, eh15⟩ := hQ15
    have N15 := Fr.app N11 N15q
    refine own_st st15 ?_
    show own_G _ _ _ _ (T15.setTop (mkF m 35 #[.val (.ref a1), .val (.int (Int32.ofNat 0)), .val (.int (Int32.ofNat n)), .val (.ref b1), .val (.int (Int32.ofNat r)), .val (.ref t)] [(.int (f r))]))
    refine own_st (fun _ k => XS.sipush X15.here hx rfl (hb hby own_d_jdk_52_m16_35) k) ?_
    show own_G _ _ _ _ (T15.setTop (mkF m 38 #[.val (.ref a1), .val (.int (Int32.ofNat 0)), .val (.int (Int32.ofNat n)), .val (.ref b1), .val (.int (Int32.ofNat r)), .val (.ref t)] [(.int (255 : Int32)), (.int (f r))]))
    refine own_st (fun _ k => XS.icmpYes X15.here hx rfl (pc0 := 38) (pc' := 54) rfl (hb hby own_d_jdk_52_m16_38) rfl (tlt hbig).2.2.1 (by decide) (by decide) k) ?_
    show own_G _ _ _ _ (T15.setTop (mkF m 54 #[.val (.ref a1), .val (.int (Int32.ofNat 0)), .val (.int (Int32.ofNat n)), .val (.ref b1), .val (.int (Int32.ofNat r)), .val (.ref t)] []))
    refine own_st (fun _ k => XS.aload X15.here hx rfl (hb hby own_d_jdk_52_m16_54) rfl rfl k) ?_
    show own_G _ _ _ _ (T15.setTop (mkF m 56 #[.val (.ref a1), .val (.int (Int32.ofNat 0)), .val (.int (Int32.ofNat n)), .val (.ref b1), .val (.int (Int32.ofNat r)), .val (.ref t)] [(.ref t)]))
    exact own_retA X15 hx hret rfl rfl hlk (hb hby own_d_jdk_52_m16_56) (by rw [eh15]; exact ⟨t, kt, rfl, N15, K14, by omega, ltt, Or.inr Vt⟩) (by decide) (by decide)
theorem own_cd {n : Nat} (h1 : 1 ≤ n) (h2 : n ≤ 4) : nar .byte (((((Int32.ofNat n) - (Int32.ofNat (2 * n))).toUInt32 >>> ((31 : Int32) &&& 31).toUInt32).toInt32).toInt8.toInt32) = (1 : Int32) := by
  have : n = 1 ∨ n = 2 ∨ n = 3 ∨ n = 4 := by omega
  rcases this with rfl | rfl | rfl | rfl <;> rfl
theorem own_pn145 : plainName "java/lang/String" = true := by first | (simp [plainName, overriddenIn]; done) | decide +kernel
theorem own_d_jdk_42_m149_0 : decode jdk_42_method_149_code 0 = .ok (.aload_n 0, 1) := by decide +kernel
theorem own_d_jdk_42_m149_1 : decode jdk_42_method_149_code 1 = .ok (.invokespecial 1, 3) := by decide +kernel
theorem own_d_jdk_42_m149_4 : decode jdk_42_method_149_code 4 = .ok (.iload_n 3, 1) := by decide +kernel
theorem own_d_jdk_42_m149_5 : decode jdk_42_method_149_code 5 = .ok (.ifCond .ne 22, 3) := by decide +kernel
theorem own_d_jdk_42_m149_27 : decode jdk_42_method_149_code 27 = .ok (.getstatic 38, 3) := by decide +kernel
theorem own_d_jdk_42_m149_30 : decode jdk_42_method_149_code 30 = .ok (.ifCond .eq 28, 3) := by decide +kernel
theorem own_d_jdk_42_m149_33 : decode jdk_42_method_149_code 33 = .ok (.aload_n 1, 1) := by decide +kernel
theorem own_d_jdk_42_m149_34 : decode jdk_42_method_149_code 34 = .ok (.iload_n 2, 1) := by decide +kernel
theorem own_d_jdk_42_m149_35 : decode jdk_42_method_149_code 35 = .ok (.iload_n 3, 1) := by decide +kernel
theorem own_d_jdk_42_m149_36 : decode jdk_42_method_149_code 36 = .ok (.invokestatic 177, 3) := by decide +kernel
theorem own_d_jdk_42_m149_39 : decode jdk_42_method_149_code 39 = .ok (.astore 5, 2) := by decide +kernel
theorem own_d_jdk_42_m149_41 : decode jdk_42_method_149_code 41 = .ok (.aload_n 0, 1) := by decide +kernel
theorem own_d_jdk_42_m149_42 : decode jdk_42_method_149_code 42 = .ok (.aload 5, 2) := by decide +kernel
theorem own_d_jdk_42_m149_44 : decode jdk_42_method_149_code 44 = .ok (.iload_n 3, 1) := by decide +kernel
theorem own_d_jdk_42_m149_45 : decode jdk_42_method_149_code 45 = .ok (.invokestatic 47, 3) := by decide +kernel
theorem own_pd161 : parseMethodDescriptor "([BI)B" = some ⟨[(.array .byte), .int], some .byte⟩ := by decide +kernel
theorem own_d_jdk_42_m149_48 : decode jdk_42_method_149_code 48 = .ok (.putfield 15, 3) := by decide +kernel
theorem own_d_jdk_42_m149_51 : decode jdk_42_method_149_code 51 = .ok (.aload_n 0, 1) := by decide +kernel
theorem own_d_jdk_42_m149_52 : decode jdk_42_method_149_code 52 = .ok (.aload 5, 2) := by decide +kernel
theorem own_d_jdk_42_m149_54 : decode jdk_42_method_149_code 54 = .ok (.putfield 9, 3) := by decide +kernel
theorem own_d_jdk_42_m149_57 : decode jdk_42_method_149_code 57 = .ok (.return_, 1) := by decide +kernel
set_option maxRecDepth 65536 in
set_option maxHeartbeats 40000000 in
theorem own_i4 (l : Launch) (Z : State) (a0 : Array Value) (hw : ∀ d ∈ tables_1, d.before a0 Z = true) (ws : List Jvm.Cond) (a1 : Addr) (a2 : Addr) (n : Nat) (f : Nat → Int32) (kc : ClassId) (w1 : Int32) (u1 u2 : Value) (h0 : Heap) (O0 : Old Z Z.heap.size h0) (hn1 : 1 ≤ n) (hn : n ≤ 4) (hf : ∀ j, j < n → 0 ≤ (f j).toInt ∧ (f j).toInt < 65536) (US : own_US Z) (S1 : Sta Z Z.heap "java/lang/String" "COMPACT_STRINGS" "Z" (.int w1)) (hw1 : ¬ (w1 = (0 : Int32))) (ga : Z.heap.size ≤ a1) (hne : a1 ≠ a2) (Ea : Exa Z h0 a1 "java/lang/String") (Fv : Fld Z h0 a1 "java/lang/String" "value" "[B" u1) (Fc : Fld Z h0 a1 "java/lang/String" "coder" "B" u2) (Vc : Arv Z h0 a2 kc .char (Int32.ofNat n) (own_vals f n) (.int (0 : Int32))) :
    own_Met l Z (⟨"java/lang/String", "<init>", "([CIILjava/lang/Void;)V"⟩ : MethodName) jdk_42_method_149_code 6 none ws ({ frames := 4, cells := 2, slots := 12, locals := 57 } : Room) #[(.ref a1), (.ref a2), (.int (Int32.ofNat 0)), (.int (Int32.ofNat n)), .null] h0 (fun v h L => v = none ∧ Fr Z.heap.size L ∧ Keep h0 h [a1] ∧ ∃ t kt, h0.size ≤ t ∧ own_Str Z h a1 t kt f n) (({ frames := 4, cells := 2, slots := 12, locals := 57 } : Room)).cells (({ frames := 4, cells := 2, slots := 12, locals := 57 } : Room)).slots := by
  refine own_body (ef := fun m => mkF m 0 #[.val (.ref a1), .val (.ref a2), .val (.int (Int32.ofNat 0)), .val (.int (Int32.ofNat n)), .val .null, .unset] []) (plainFor_of_name own_pn145) (fun m => by first | rfl | (simp [entryFrame, mkF, argsToLocals, Value.category]; done)) ?_
  intro p e s m below meth c T0 hx hZ hby hml hown hnm hret hlk X0 e0
  have N0 := Fr.nil Z.heap.size
  have z0 : Z.heap.size ≤ h0.size := O0.2.1
  have Kr := Keep.refl h0 [a1]
  show own_G _ _ _ _ (T0.setTop (mkF m 0 #[.val (.ref a1), .val (.ref a2), .val (.int (Int32.ofNat 0)), .val (.int (Int32.ofNat n)), .val .null, .unset] []))
  have ltc := own_ltN Vc.lt
  have lta := own_ltN Ea.lt
  refine own_st (fun _ k => XS.aloadN X0.here hx rfl (hb hby own_d_jdk_42_m149_0) rfl rfl k) ?_
  show own_G _ _ _ _ (T0.setTop (mkF m 1 #[.val (.ref a1), .val (.ref a2), .val (.int (Int32.ofNat 0)), .val (.int (Int32.ofNat n)), .val .null, .unset] [(.ref a1)]))
  obtain ⟨T1, X1, e1, st1⟩ := initO X0 hx hZ hown (hw _ (List.mem_of_getElem? (i := 12) rfl)) (hw _ (List.mem_of_getElem? (i := 13) rfl)) (hw _ (List.mem_of_getElem? (i := 14) rfl)) e0 (g := (mkF m 1 #[.val (.ref a1), .val (.ref a2), .val (.int (Int32.ofNat 0)), .val (.int (Int32.ofNat n)), .val .null, .unset] [(.ref a1)])) rfl (by rw [hml]; rfl) rfl (hb hby own_d_jdk_42_m149_1) (by decide) (W := 0) (by show 2 * 0 + _ ≤ _; exact Nat.le_of_eq rfl) (by decide)
  refine own_st st1 ?_
  show own_G _ _ _ _ (T1.setTop (mkF m 4 #[.val (.ref a1), .val (.ref a2), .val (.int (Int32.ofNat 0)), .val (.int (Int32.ofNat n)), .val .null, .unset] []))
  refine own_st (fun _ k => XS.iloadN X1.here hx rfl (hb hby own_d_jdk_42_m149_4) rfl k) ?_
  show own_G _ _ _ _ (T1.setTop (mkF m 5 #[.val (.ref a1), .val (.ref a2), .val (.int (Int32.ofNat 0)), .val (.int (Int32.ofNat n)), .val .null, .unset] [(.int (Int32.ofNat n))]))
  refine own_st (fun _ k => XS.ifYes X1.here hx rfl (pc0 := 5) (pc' := 27) rfl (hb hby own_d_jdk_42_m149_5) rfl ((if0 _ _).trans (feq (fun q => by have := congrArg Int32.toInt q; rw [own_nat (by omega), show (0 : Int32).toInt = 0 from rfl] at this; omega)).2) (by decide) (by decide) k) ?_
  show own_G _ _ _ _ (T1.setTop (mkF m 27 #[.val (.ref a1), .val (.ref a2), .val (.int (Int32.ofNat 0)), .val (.int (Int32.ofNat n)), .val .null, .unset] []))
  obtain ⟨T2, X2, e2, st2⟩ := getS2 X1 hx hZ hown (host := "") (Or.inl (hw _ (List.mem_of_getElem? (i := 15) rfl))) Via.refl e1 (Sta.ext O0.2 S1) (g := (mkF m 27 #[.val (.ref a1), .val (.ref a2), .val (.int (Int32.ofNat 0)), .val (.int (Int32.ofNat n)), .val .null, .unset] [])) rfl (hb hby own_d_jdk_42_m149_27)
  refine own_st st2 ?_
  show own_G _ _ _ _ (T2.setTop (mkF m 30 #[.val (.ref a1), .val (.ref a2), .val (.int (Int32.ofNat 0)), .val (.int (Int32.ofNat n)), .val .null, .unset] [(.int w1)]))
  refine own_st (fun _ k => XS.ifNo X2.here hx rfl (hb hby own_d_jdk_42_m149_30) rfl ((if0 _ _).trans (feq hw1).1) k) ?_
  show own_G _ _ _ _ (T2.setTop (mkF m 33 #[.val (.ref a1), .val (.ref a2), .val (.int (Int32.ofNat 0)), .val (.int (Int32.ofNat n)), .val .null, .unset] []))
  refine own_st (fun _ k => XS.aloadN X2.here hx rfl (hb hby own_d_jdk_42_m149_33) rfl rfl k) ?_
  show own_G _ _ _ _ (T2.setTop (mkF m 34 #[.val (.ref a1), .val (.ref a2), .val (.int (Int32.ofNat 0)), .val (.int (Int32.ofNat n)), .val .null, .unset] [(.ref a2)]))
  refine own_st (fun _ k => XS.iloadN X2.here hx rfl (hb hby own_d_jdk_42_m149_34) rfl k) ?_
  show own_G _ _ _ _ (T2.setTop (mkF m 35 #[.val (.ref a1), .val (.ref a2), .val (.int (Int32.ofNat 0)), .val (.int (Int32.ofNat n)), .val .null, .unset] [(.int (Int32.ofNat 0)), (.ref a2)]))
  refine own_st (fun _ k => XS.iloadN X2.here hx rfl (hb hby own_d_jdk_42_m149_35) rfl k) ?_
  show own_G _ _ _ _ (T2.setTop (mkF m 36 #[.val (.ref a1), .val (.ref a2), .val (.int (Int32.ofNat 0)), .val (.int (Int32.ofNat n)), .val .null, .unset] [(.int (Int32.ofNat n)), (.int (Int32.ofNat 0)), (.ref a2)]))
  obtain ⟨_, _, ⟨T3, L3, k3, n3⟩, -, X3, ⟨Lc3, hQ3, l3, y3, z3⟩, st3⟩ := Jvm.LawKit.callS X2 hx (y := (⟨"java/lang/StringUTF16", "compress", "([CII)[B"⟩ : MethodName)) hown (mvT hZ (hw _ (List.mem_of_getElem? (i := 16) rfl))) (mvT hZ (hw _ (List.mem_of_getElem? (i := 17) rfl))) (mvT hZ (hw _ (List.mem_of_getElem? (i := 18) rfl))) (mvT hZ (hw _ (List.mem_of_getElem? (i := 19) rfl))) (by decide) (own_back (rm := ({ frames := 3, cells := 2, slots := 12, locals := 40 } : Room)) (W := 0) (own_c3 l Z a0 hw [] a2 n f kc h0 O0 hn hf US Vc) hZ (hw _ (List.mem_of_getElem? (i := 19) rfl)) (hw _ (List.mem_of_getElem? (i := 18) rfl)) (by decide) (by decide)) (g := (mkF m 36 #[.val (.ref a1), .val (.ref a2), .val (.int (Int32.ofNat 0)), .val (.int (Int32.ofNat n)), .val .null, .unset] [(.int (Int32.ofNat n)), (.int (Int32.ofNat 0)), (.ref a2)])) rfl (by rw [hml]; rfl) (argsL := [(.ref a2), (.int (Int32.ofNat 0)), (.int (Int32.ofNat n))]) (rest := []) (lenOf own_pd135 rfl) rfl (by show 2 * 0 + _ ≤ _; exact Nat.le_of_eq rfl) (hb hby own_d_jdk_42_m149_36) (fun _ _ => ⟨rfl, e2, (by decide : 0 + 2 ≤ _), (by decide : 0 + 12 ≤ _)⟩)
  dsimp only [Pt.U, Pt.locs, Pt.cells, Pt.slots] at X3 l3 y3 z3 st3 hQ3
  subst l3 y3 z3
  obtain ⟨t, kt, rfl, N3q, K3_, gt, ltt, c3⟩ := hQ3
  have N3 := Fr.app N0 N3q
  refine own_st st3 ?_
  have z4 : h0.size ≤ T3.heap.size := K3_.1
  have O5 := Old.keep O0 K3_ all0
  have K6 : Keep h0 T3.heap [a1] := Kr.trans K3_ all0
  show own_G _ _ _ _ (T3.setTop (mkF m 39 #[.val (.ref a1), .val (.ref a2), .val (.int (Int32.ofNat 0)), .val (.int (Int32.ofNat n)), .val .null, .unset] [(.ref t)]))
  refine own_st (fun _ k => XS.astore X3.here hx rfl (hb hby own_d_jdk_42_m149_39) rfl rfl (l' := #[.val (.ref a1), .val (.ref a2), .val (.int (Int32.ofNat 0)), .val (.int (Int32.ofNat n)), .val .null, .val (.ref t)]) rfl k) ?_
  show own_G _ _ _ _ (T3.setTop (mkF m 41 #[.val (.ref a1), .val (.ref a2), .val (.int (Int32.ofNat 0)), .val (.int (Int32.ofNat n)), .val .null, .val (.ref t)] []))
  refine own_st (fun _ k => XS.aloadN X3.here hx rfl (hb hby own_d_jdk_42_m149_41) rfl rfl k) ?_
  show own_G _ _ _ _ (T3.setTop (mkF m 42 #[.val (.ref a1), .val (.ref a2), .val (.int (Int32.ofNat 0)), .val (.int (Int32.ofNat n)), .val .null, .val (.ref t)] [(.ref a1)]))
  refine own_st (fun _ k => XS.aload X3.here hx rfl (hb hby own_d_jdk_42_m149_42) rfl rfl k) ?_
  show own_G _ _ _ _ (T3.setTop (mkF m 44 #[.val (.ref a1), .val (.ref a2), .val (.int (Int32.ofNat 0)), .val (.int (Int32.ofNat n)), .val .null, .val (.ref t)] [(.ref t), (.ref a1)]))
  refine own_st (fun _ k => XS.iloadN X3.here hx rfl (hb hby own_d_jdk_42_m149_44) rfl k) ?_
  show own_G _ _ _ _ (T3.setTop (mkF m 45 #[.val (.ref a1), .val (.ref a2), .val (.int (Int32.ofNat 0)), .val (.int (Int32.ofNat n)), .val .null, .val (.ref t)] [(.int (Int32.ofNat n)), (.ref t), (.ref a1)]))
  rcases c3 with ⟨hall, Vt⟩ | Vt
  · skip
    obtain ⟨_, _, ⟨T7, L7, k7, n7⟩, -, X7, ⟨Lc7, hQ7, l7, y7, z7⟩, st7⟩ := Jvm.LawKit.callS X3 hx (y := (⟨"java/lang/StringUTF16", "coderFromArrayLen", "([BI)B"⟩ : MethodName)) hown (mvT hZ (hw _ (List.mem_of_getElem? (i := 24) rfl))) (mvT hZ (hw _ (List.mem_of_getElem? (i := 25) rfl))) (mvT hZ (hw _ (List.mem_of_getElem? (i := 18) rfl))) (mvT hZ (hw _ (List.mem_of_getElem? (i := 26) rfl))) (by decide) (own_back (rm := ({ frames := 0, cells := 0, slots := 0, locals := 0 } : Room)) (W := 1) (own_cod l Z a0 hw [] t n (Int32.ofNat n) (0 : Int32) (own_vals (fun j => own_lo (f j)) n) kt T3.heap O5 Vt (by rw [Int32.sub_self]; rfl)) hZ (hw _ (List.mem_of_getElem? (i := 26) rfl)) (hw _ (List.mem_of_getElem? (i := 18) rfl)) (by decide) (by decide)) (g := (mkF m 45 #[.val (.ref a1), .val (.ref a2), .val (.int (Int32.ofNat 0)), .val (.int (Int32.ofNat n)), .val .null, .val (.ref t)] [(.int (Int32.ofNat n)), (.ref t), (.ref a1)])) rfl (by rw [hml]; rfl) (argsL := [(.ref t), (.int (Int32.ofNat n))]) (rest := [(.ref a1)]) (lenOf own_pd161 rfl) rfl (by show 2 * 0 + _ ≤ _; exact Nat.le_of_eq rfl) (hb hby own_d_jdk_42_m149_45) (fun _ _ => ⟨rfl, rfl, (by decide : 0 + 2 + 0 ≤ _), (by decide : 0 + 12 + 0 ≤ _)⟩)
    dsimp only [Pt.U, Pt.locs, Pt.cells, Pt.slots] at X7 l7 y7 z7 st7 hQ7
    subst l7 y7 z7
    obtain ⟨rfl, N7q, eh7⟩ := hQ7
    have N7 := Fr.app N3 N7q
    refine own_st st7 ?_
    show own_G _ _ _ _ (T7.setTop (mkF m 48 #[.val (.ref a1), .val (.ref a2), .val (.int (Int32.ofNat 0)), .val (.int (Int32.ofNat n)), .val .null, .val (.ref t)] [(.int (0 : Int32)), (.ref a1)]))
    have q8 : Exa Z T3.heap a1 "java/lang/String" := (Ea.keep K3_)
    have q9 : Fld Z T3.heap a1 "java/lang/String" "coder" "B" u2 := (Fc.keep K3_ nin0)
    obtain ⟨T10, h10, X10, e10, W10, st10⟩ := putFN X7 hx hZ hown (hw _ (List.mem_of_getElem? (i := 27) rfl)) Via.refl eh7 q9 q8 (Or.inr ⟨(hw _ (List.mem_of_getElem? (i := 28) rfl)), rfl, hnm⟩) (hw _ (List.mem_of_getElem? (i := 3) rfl)) (ty := .byte) (v' := (.int (nar .byte (0 : Int32)))) (by decide) rfl (fits_nar_byte _) (g := (mkF m 48 #[.val (.ref a1), .val (.ref a2), .val (.int (Int32.ofNat 0)), .val (.int (Int32.ofNat n)), .val .null, .val (.ref t)] [(.int (0 : Int32)), (.ref a1)])) rfl rfl (hb hby own_d_jdk_42_m149_48)
    refine own_st st10 ?_
    have z11 : h10.size = T3.heap.size := W10.size
    have O12 := Old.wr O5 W10 (by omega)
    have K13 : Keep h0 h10 [a1] := K6.wr W10 (Or.inl (by simp))
    have N10 := Fr.snoc X10 N7 (by omega : Z.heap.size ≤ a1)
    have F10 := q9.same W10
    show own_G _ _ _ _ (T10.setTop (mkF m 51 #[.val (.ref a1), .val (.ref a2), .val (.int (Int32.ofNat 0)), .val (.int (Int32.ofNat n)), .val .null, .val (.ref t)] []))
    refine own_st (fun _ k => XS.aloadN X10.here hx rfl (hb hby own_d_jdk_42_m149_51) rfl rfl k) ?_
    show own_G _ _ _ _ (T10.setTop (mkF m 52 #[.val (.ref a1), .val (.ref a2), .val (.int (Int32.ofNat 0)), .val (.int (Int32.ofNat n)), .val .null, .val (.ref t)] [(.ref a1)]))
    refine own_st (fun _ k => XS.aload X10.here hx rfl (hb hby own_d_jdk_42_m149_52) rfl rfl k) ?_
    show own_G _ _ _ _ (T10.setTop (mkF m 54 #[.val (.ref a1), .val (.ref a2), .val (.int (Int32.ofNat 0)), .val (.int (Int32.ofNat n)), .val .null, .val (.ref t)] [(.ref t), (.ref a1)]))
    have q14 : Exa Z h10 a1 "java/lang/String" := (q8.wr W10)
    have q15 : Fld Z h10 a1 "java/lang/String" "value" "[B" u1 := ((Fv.keep K3_ nin0).other W10 (Or.inr (slot_ne (Or.inr (hw _ (List.mem_of_getElem? (i := 30) rfl))) (Or.inr (hw _ (List.mem_of_getElem? (i := 28) rfl))) (by decide) (t := (.array .byte)) (t' := .byte) (by decide) (by decide))))
    obtain ⟨T16, h16, X16, e16, W16, st16⟩ := putF X10 hx hZ hown (host := "") (Or.inl (hw _ (List.mem_of_getElem? (i := 29) rfl))) Via.refl e10 q15 q14 (Or.inr ⟨(hw _ (List.mem_of_getElem? (i := 30) rfl)), rfl, hnm⟩) (hw _ (List.mem_of_getElem? (i := 3) rfl)) (ty := (.array .byte)) (by decide) rfl rfl (g := (mkF m 54 #[.val (.ref a1), .val (.ref a2), .val (.int (Int32.ofNat 0)), .val (.int (Int32.ofNat n)), .val .null, .val (.ref t)] [(.ref t), (.ref a1)])) rfl rfl (hb hby own_d_jdk_42_m149_54)
    refine own_st st16 ?_
    have z17 : h16.size = h10.size := W16.size
    have O18 := Old.wr O12 W16 (by omega)
    have K19 : Keep h0 h16 [a1] := K13.wr W16 (Or.inl (by simp))
    have N16 := Fr.snoc X16 N10 (by omega : Z.heap.size ≤ a1)
    have F16 := q15.same W16
    show own_G _ _ _ _ (T16.setTop (mkF m 57 #[.val (.ref a1), .val (.ref a2), .val (.int (Int32.ofNat 0)), .val (.int (Int32.ofNat n)), .val .null, .val (.ref t)] []))
    have q20 : Exa Z h16 a1 "java/lang/String" := (q14.wr W16)
    have q21 : Fld Z h16 a1 "java/lang/String" "coder" "B" (.int (nar .byte (0 : Int32))) := (F10.other W16 (Or.inr (slot_ne (Or.inr (hw _ (List.mem_of_getElem? (i := 28) rfl))) (Or.inr (hw _ (List.mem_of_getElem? (i := 30) rfl))) (by decide) (t := .byte) (t' := (.array .byte)) (by decide) (by decide))))
    have q22 : Arv Z h16 t kt .byte (Int32.ofNat n) (own_vals (fun j => own_lo (f j)) n) (.int (0 : Int32)) := ((Vt.other W10 (show @Ne Nat t a1 by omega)).other W16 (show @Ne Nat t a1 by omega))
    exact own_ret0 X16 hx hret hlk (hb hby own_d_jdk_42_m149_57) (by rw [e16]; exact ⟨rfl, N16, K19, t, kt, by omega, ⟨q20, (0 : Int32), q21, F16, Or.inl ⟨rfl, hall, q22⟩⟩⟩) (by decide) (by decide)
  · skip
    obtain ⟨_, _, ⟨T23, L23, k23, n23⟩, -, X23, ⟨Lc23, hQ23, l23, y23, z23⟩, st23⟩ := Jvm.LawKit.callS X3 hx (y := (⟨"java/lang/StringUTF16", "coderFromArrayLen", "([BI)B"⟩ : MethodName)) hown (mvT hZ (hw _ (List.mem_of_getElem? (i := 24) rfl))) (mvT hZ (hw _ (List.mem_of_getElem? (i := 25) rfl))) (mvT hZ (hw _ (List.mem_of_getElem? (i := 18) rfl))) (mvT hZ (hw _ (List.mem_of_getElem? (i := 26) rfl))) (by decide) (own_back (rm := ({ frames := 0, cells := 0, slots := 0, locals := 0 } : Room)) (W := 1) (own_cod l Z a0 hw [] t n (Int32.ofNat (2 * n)) (1 : Int32) (own_vals (own_wide f) (2 * n)) kt T3.heap O5 Vt (own_cd hn1 hn)) hZ (hw _ (List.mem_of_getElem? (i := 26) rfl)) (hw _ (List.mem_of_getElem? (i := 18) rfl)) (by decide) (by decide)) (g := (mkF m 45 #[.val (.ref a1), .val (.ref a2), .val (.int (Int32.ofNat 0)), .val (.int (Int32.ofNat n)), .val .null, .val (.ref t)] [(.int (Int32.ofNat n)), (.ref t), (.ref a1)])) rfl (by rw [hml]; rfl) (argsL := [(.ref t), (.int (Int32.ofNat n))]) (rest := [(.ref a1)]) (lenOf own_pd161 rfl) rfl (by show 2 * 0 + _ ≤ _; exact Nat.le_of_eq rfl) (hb hby own_d_jdk_42_m149_45) (fun _ _ => ⟨rfl, rfl, (by decide : 0 + 2 + 0 ≤ _), (by decide : 0 + 12 + 0 ≤ _)⟩)
    dsimp only [Pt.U, Pt.locs, Pt.cells, Pt.slots] at X23 l23 y23 z23 st23 hQ23
    subst l23 y23 z23
    obtain ⟨rfl, N23q, eh23⟩ := hQ23
    have N23 := Fr.app N3 N23q
    refine own_st st23 ?_
    show own_G _ _ _ _ (T23.setTop (mkF m 48 #[.val (.ref a1), .val (.ref a2), .val (.int (Int32.ofNat 0)), .val (.int (Int32.ofNat n)), .val .null, .val (.ref t)] [(.int (1 : Int32)), (.ref a1)]))
    have q24 : Exa Z T3.heap a1 "java/lang/String" := (Ea.keep K3_)
    have q25 : Fld Z T3.heap a1 "java/lang/String" "coder" "B" u2 := (Fc.keep K3_ nin0)
    obtain ⟨T26, h26, X26, e26, W26, st26⟩ := putFN X23 hx hZ hown (hw _ (List.mem_of_getElem? (i := 27) rfl)) Via.refl eh23 q25 q24 (Or.inr ⟨(hw _ (List.mem_of_getElem? (i := 28) rfl)), rfl, hnm⟩) (hw _ (List.mem_of_getElem? (i := 3) rfl)) (ty := .byte) (v' := (.int (nar .byte (1 : Int32)))) (by decide) rfl (fits_nar_byte _) (g := (mkF m 48 #[.val (.ref a1), .val (.ref a2), .val (.int (Int32.ofNat 0)), .val (.int (Int32.ofNat n)), .val .null, .val (.ref t)] [(.int (1 : Int32)), (.ref a1)])) rfl rfl (hb hby own_d_jdk_42_m149_48)
    refine own_st st26 ?_
    have z27 : h26.size = T3.heap.size := W26.size
    have O28 := Old.wr O5 W26 (by omega)
    have K29 : Keep h0 h26 [a1] := K6.wr W26 (Or.inl (by simp))
    have N26 := Fr.snoc X26 N23 (by omega : Z.heap.size ≤ a1)
    have F26 := q25.same W26
    show own_G _ _ _ _ (T26.setTop (mkF m 51 #[.val (.ref a1), .val (.ref a2), .val (.int (Int32.ofNat 0)), .val (.int (Int32.ofNat n)), .val .null, .val (.ref t)] []))
    refine own_st (fun _ k => XS.aloadN X26.here hx rfl (hb hby own_d_jdk_42_m149_51) rfl rfl k) ?_
    show own_G _ _ _ _ (T26.setTop (mkF m 52 #[.val (.ref a1), .val (.ref a2), .val (.int (Int32.ofNat 0)), .val (.int (Int32.ofNat n)), .val .null, .val (.ref t)] [(.ref a1)]))
    refine own_st (fun _ k => XS.aload X26.here hx rfl (hb hby own_d_jdk_42_m149_52) rfl rfl k) ?_
    show own_G _ _ _ _ (T26.setTop (mkF m 54 #[.val (.ref a1), .val (.ref a2), .val (.int (Int32.ofNat 0)), .val (.int (Int32.ofNat n)), .val .null, .val (.ref t)] [(.ref t), (.ref a1)]))
    have q30 : Exa Z h26 a1 "java/lang/String" := (q24.wr W26)
    have q31 : Fld Z h26 a1 "java/lang/String" "value" "[B" u1 := ((Fv.keep K3_ nin0).other W26 (Or.inr (slot_ne (Or.inr (hw _ (List.mem_of_getElem? (i := 30) rfl))) (Or.inr (hw _ (List.mem_of_getElem? (i := 28) rfl))) (by decide) (t := (.array .byte)) (t' := .byte) (by decide) (by decide))))
    obtain ⟨T32, h32, X32, e32, W32, st32⟩ := putF X26 hx hZ hown (host := "") (Or.inl (hw _ (List.mem_of_getElem? (i := 29) rfl))) Via.refl e26 q31 q30 (Or.inr ⟨(hw _ (List.mem_of_getElem? (i := 30) rfl)), rfl, hnm⟩) (hw _ (List.mem_of_getElem? (i := 3) rfl)) (ty := (.array .byte)) (by decide) rfl rfl (g := (mkF m 54 #[.val (.ref a1), .val (.ref a2), .val (.int (Int32.ofNat 0)), .val (.int (Int32.ofNat n)), .val .null, .val (.ref t)] [(.ref t), (.ref a1)])) rfl rfl (hb hby own_d_jdk_42_m149_54)
    refine own_st st32 ?_
    have z33 : h32.size = h26.size := W32.size
    have O34 := Old.wr O28 W32 (by omega)
    have K35 : Keep h0 h32 [a1] := K29.wr W32 (Or.inl (by simp))
    have N32 := Fr.snoc X32 N26 (by omega : Z.heap.size ≤ a1)
    have F32 := q31.same W32
    show own_G _ _ _ _ (T32.setTop (mkF m 57 #[.val (.ref a1), .val (.ref a2), .val (.int (Int32.ofNat 0)), .val (.int (Int32.ofNat n)), .val .null, .val (.ref t)] []))
    have q36 : Exa Z h32 a1 "java/lang/String" := (q30.wr W32)
    have q37 : Fld Z h32 a1 "java/lang/String" "coder" "B" (.int (nar .byte (1 : Int32))) := (F26.other W32 (Or.inr (slot_ne (Or.inr (hw _ (List.mem_of_getElem? (i := 28) rfl))) (Or.inr (hw _ (List.mem_of_getElem? (i := 30) rfl))) (by decide) (t := .byte) (t' := (.array .byte)) (by decide) (by decide))))
    have q38 : Arv Z h32 t kt .byte (Int32.ofNat (2 * n)) (own_vals (own_wide f) (2 * n)) (.int (0 : Int32)) := ((Vt.other W26 (show @Ne Nat t a1 by omega)).other W32 (show @Ne Nat t a1 by omega))
    exact own_ret0 X32 hx hret hlk (hb hby own_d_jdk_42_m149_57) (by rw [e32]; exact ⟨rfl, N32, K35, t, kt, by omega, ⟨q36, (1 : Int32), q37, F32, Or.inr ⟨rfl, q38⟩⟩⟩) (by decide) (by decide)
theorem own_d_jdk_42_m3_0 : decode jdk_42_method_3_code 0 = .ok (.aload_n 0, 1) := by decide +kernel
theorem own_d_jdk_42_m3_1 : decode jdk_42_method_3_code 1 = .ok (.aload_n 1, 1) := by decide +kernel
theorem own_d_jdk_42_m3_2 : decode jdk_42_method_3_code 2 = .ok (.iconst 0, 1) := by decide +kernel
theorem own_d_jdk_42_m3_3 : decode jdk_42_method_3_code 3 = .ok (.aload_n 1, 1) := by decide +kernel
theorem own_d_jdk_42_m3_4 : decode jdk_42_method_3_code 4 = .ok (.arraylength, 1) := by decide +kernel
theorem own_d_jdk_42_m3_5 : decode jdk_42_method_3_code 5 = .ok (.aconst_null, 1) := by decide +kernel
theorem own_d_jdk_42_m3_6 : decode jdk_42_method_3_code 6 = .ok (.invokespecial 27, 3) := by decide +kernel
theorem own_pd174 : parseMethodDescriptor "([CIILjava/lang/Void;)V" = some ⟨[(.array .char), .int, .int, (.object "java/lang/Void")], none⟩ := by decide +kernel
theorem own_d_jdk_42_m3_9 : decode jdk_42_method_3_code 9 = .ok (.return_, 1) := by decide +kernel
set_option maxRecDepth 65536 in
set_option maxHeartbeats 40000000 in
theorem own_newS (l : Launch) (Z : State) (a0 : Array Value) (hw : ∀ d ∈ tables_1, d.before a0 Z = true) (ws : List Jvm.Cond) (a1 : Addr) (a2 : Addr) (n : Nat) (f : Nat → Int32) (kc : ClassId) (w1 : Int32) (u1 u2 : Value) (h0 : Heap) (O0 : Old Z Z.heap.size h0) (hn1 : 1 ≤ n) (hn : n ≤ 4) (hf : ∀ j, j < n → 0 ≤ (f j).toInt ∧ (f j).toInt < 65536) (US : own_US Z) (S1 : Sta Z Z.heap "java/lang/String" "COMPACT_STRINGS" "Z" (.int w1)) (hw1 : ¬ (w1 = (0 : Int32))) (ga : Z.heap.size ≤ a1) (hne : a1 ≠ a2) (Ea : Exa Z h0 a1 "java/lang/String") (Fv : Fld Z h0 a1 "java/lang/String" "value" "[B" u1) (Fc : Fld Z h0 a1 "java/lang/String" "coder" "B" u2) (Vc : Arv Z h0 a2 kc .char (Int32.ofNat n) (own_vals f n) (.int (0 : Int32))) :
    own_Met l Z (⟨"java/lang/String", "<init>", "([C)V"⟩ : MethodName) jdk_42_method_3_code 2 none ws ({ frames := 5, cells := 2, slots := 12, locals := 74 } : Room) #[(.ref a1), (.ref a2)] h0 (fun v h L => v = none ∧ Fr Z.heap.size L ∧ Keep h0 h [a1] ∧ ∃ t kt, h0.size ≤ t ∧ own_Str Z h a1 t kt f n) (({ frames := 5, cells := 2, slots := 12, locals := 74 } : Room)).cells (({ frames := 5, cells := 2, slots := 12, locals := 74 } : Room)).slots := by
  refine own_body (ef := fun m => mkF m 0 #[.val (.ref a1), .val (.ref a2)] []) (plainFor_of_name own_pn145) (fun m => by first | rfl | (simp [entryFrame, mkF, argsToLocals, Value.category]; done)) ?_
  intro p e s m below meth c T0 hx hZ hby hml hown hnm hret hlk X0 e0
  have N0 := Fr.nil Z.heap.size
  have z0 : Z.heap.size ≤ h0.size := O0.2.1
  have Kr := Keep.refl h0 [a1]
  show own_G _ _ _ _ (T0.setTop (mkF m 0 #[.val (.ref a1), .val (.ref a2)] []))
  have lta := own_ltN Ea.lt
  refine own_st (fun _ k => XS.aloadN X0.here hx rfl (hb hby own_d_jdk_42_m3_0) rfl rfl k) ?_
  show own_G _ _ _ _ (T0.setTop (mkF m 1 #[.val (.ref a1), .val (.ref a2)] [(.ref a1)]))
  refine own_st (fun _ k => XS.aloadN X0.here hx rfl (hb hby own_d_jdk_42_m3_1) rfl rfl k) ?_
  show own_G _ _ _ _ (T0.setTop (mkF m 2 #[.val (.ref a1), .val (.ref a2)] [(.ref a2), (.ref a1)]))
  refine own_st (fun _ k => XS.iconst X0.here hx rfl (hb hby own_d_jdk_42_m3_2) k) ?_
  show own_G _ _ _ _ (T0.setTop (mkF m 3 #[.val (.ref a1), .val (.ref a2)] [(.int (0 : Int32)), (.ref a2), (.ref a1)]))
  refine own_st (fun _ k => XS.aloadN X0.here hx rfl (hb hby own_d_jdk_42_m3_3) rfl rfl k) ?_
  show own_G _ _ _ _ (T0.setTop (mkF m 4 #[.val (.ref a1), .val (.ref a2)] [(.ref a2), (.int (0 : Int32)), (.ref a2), (.ref a1)]))
  obtain ⟨cl1, Ar1, qk1, Sz1, Mz1, Hz1, Uz1⟩ := id Vc
  refine own_st (X0.arraylength hx (by rw [e0]; exact Ar1.1) (State.isArrayOf_alike hZ.alike Ar1.2.1) (g := (mkF m 4 #[.val (.ref a1), .val (.ref a2)] [(.ref a2), (.int (0 : Int32)), (.ref a2), (.ref a1)])) rfl rfl (hb hby own_d_jdk_42_m3_4)) ?_
  rw [len_of Sz1 Mz1]
  show own_G _ _ _ _ (T0.setTop (mkF m 5 #[.val (.ref a1), .val (.ref a2)] [(.int (Int32.ofNat n)), (.int (0 : Int32)), (.ref a2), (.ref a1)]))
  refine own_st (fun _ k => XS.aconstNull X0.here hx rfl (hb hby own_d_jdk_42_m3_5) k) ?_
  show own_G _ _ _ _ (T0.setTop (mkF m 6 #[.val (.ref a1), .val (.ref a2)] [.null, (.int (Int32.ofNat n)), (.int (0 : Int32)), (.ref a2), (.ref a1)]))
  obtain ⟨_, _, ⟨T2, L2, k2, n2⟩, -, X2, ⟨Lc2, hQ2, l2, y2, z2⟩, st2⟩ := X0.specialBack hx (y := (⟨"java/lang/String", "<init>", "([CIILjava/lang/Void;)V"⟩ : MethodName)) rfl hown (mvT hZ (hw _ (List.mem_of_getElem? (i := 8) rfl))) (mvT hZ (hw _ (List.mem_of_getElem? (i := 9) rfl))) (mvT hZ (hw _ (List.mem_of_getElem? (i := 11) rfl))) (by decide) (own_back (rm := ({ frames := 4, cells := 2, slots := 12, locals := 57 } : Room)) (W := 0) (own_i4 l Z a0 hw [] a1 a2 n f kc w1 u1 u2 h0 O0 hn1 hn hf US S1 hw1 ga hne Ea Fv Fc Vc) hZ (hw _ (List.mem_of_getElem? (i := 11) rfl)) (hw _ (List.mem_of_getElem? (i := 4) rfl)) (by decide) (by decide)) (g := (mkF m 6 #[.val (.ref a1), .val (.ref a2)] [.null, (.int (Int32.ofNat n)), (.int (0 : Int32)), (.ref a2), (.ref a1)])) rfl (by rw [hml]; rfl) (Steps.refl _) (a := a1) (argsL := [(.ref a2), (.int (0 : Int32)), (.int (Int32.ofNat n)), .null]) (rest := []) (lenOf own_pd174 rfl) rfl (by show 2 * 0 + _ ≤ _; exact Nat.le_of_eq rfl) (hb hby own_d_jdk_42_m3_6) (fun _ _ => ⟨rfl, e0, (by decide : 0 + 2 ≤ _), (by decide : 0 + 12 ≤ _)⟩)
  dsimp only [Pt.U, Pt.locs, Pt.cells, Pt.slots] at X2 l2 y2 z2 st2 hQ2
  subst l2 y2 z2
  obtain ⟨rfl, N2q, K2_, Q2⟩ := hQ2
  have N2 := Fr.app N0 N2q
  refine own_tr st2 ?_
  have z3 : h0.size ≤ T2.heap.size := K2_.1
  have O4 := Old.keep O0 K2_ (allS (by omega) all0)
  have K5 : Keep h0 T2.heap [a1] := Kr.trans K2_ (allS (Or.inl (by simp)) all0)
  show own_G _ _ _ _ (T2.setTop (mkF m 9 #[.val (.ref a1), .val (.ref a2)] []))
  exact own_ret0 X2 hx hret hlk (hb hby own_d_jdk_42_m3_9) ⟨rfl, N2, K5, Q2⟩ (by decide) (by decide)
theorem own_d_jdk_42_m55_0 : decode jdk_42_method_55_code 0 = .ok (.aload_n 0, 1) := by decide +kernel
theorem own_d_jdk_42_m55_1 : decode jdk_42_method_55_code 1 = .ok (.getfield 9, 3) := by decide +kernel
theorem own_d_jdk_42_m55_4 : decode jdk_42_method_55_code 4 = .ok (.arraylength, 1) := by decide +kernel
theorem own_d_jdk_42_m55_5 : decode jdk_42_method_55_code 5 = .ok (.ifCond .ne 7, 3) := by decide +kernel
theorem own_d_jdk_42_m55_12 : decode jdk_42_method_55_code 12 = .ok (.iconst 0, 1) := by decide +kernel
theorem own_d_jdk_42_m55_13 : decode jdk_42_method_55_code 13 = .ok (.ireturn, 1) := by decide +kernel
set_option maxRecDepth 65536 in
set_option maxHeartbeats 40000000 in
theorem own_isEmpty (l : Launch) (Z : State) (a0 : Array Value) (hw : ∀ d ∈ tables_1, d.before a0 Z = true) (ws : List Jvm.Cond) (a1 : Addr) (t : Addr) (kt : ClassId) (n : Nat) (f : Nat → Int32) (h0 : Heap) (O0 : Old Z Z.heap.size h0) (hn1 : 1 ≤ n) (hn : n ≤ 4) (Hs : own_Str Z h0 a1 t kt f n) :
    own_Met l Z (⟨"java/lang/String", "isEmpty", "()Z"⟩ : MethodName) jdk_42_method_55_code 1 (some .boolean) ws ({ frames := 0, cells := 0, slots := 0, locals := 0 } : Room) #[(.ref a1)] h0 (fun v h L => v = some (.int 0) ∧ Fr Z.heap.size L ∧ h = h0) (({ frames := 0, cells := 0, slots := 0, locals := 0 } : Room)).cells (({ frames := 0, cells := 0, slots := 0, locals := 0 } : Room)).slots := by
  refine own_body (ef := fun m => mkF m 0 #[.val (.ref a1)] []) (plainFor_of_name own_pn145) (fun m => by first | rfl | (simp [entryFrame, mkF, argsToLocals, Value.category]; done)) ?_
  intro p e s m below meth c T0 hx hZ hby hml hown hnm hret hlk X0 e0
  have N0 := Fr.nil Z.heap.size
  have z0 : Z.heap.size ≤ h0.size := O0.2.1
  have Kr := Keep.refl h0 []
  show own_G _ _ _ _ (T0.setTop (mkF m 0 #[.val (.ref a1)] []))
  obtain ⟨Ea, cd, Fc, Fv, c0⟩ := Hs
  rcases c0 with ⟨-, -, Vt⟩ | ⟨-, Vt⟩
  · skip
    refine own_st (fun _ k => XS.aloadN X0.here hx rfl (hb hby own_d_jdk_42_m55_0) rfl rfl k) ?_
    show own_G _ _ _ _ (T0.setTop (mkF m 1 #[.val (.ref a1)] [(.ref a1)]))
    obtain ⟨T1, X1, e1, st1⟩ := getF X0 hx hZ hown (host := "") (Or.inl (hw _ (List.mem_of_getElem? (i := 29) rfl))) Via.refl e0 Fv (g := (mkF m 1 #[.val (.ref a1)] [(.ref a1)])) rfl rfl (hb hby own_d_jdk_42_m55_1)
    refine own_st st1 ?_
    show own_G _ _ _ _ (T1.setTop (mkF m 4 #[.val (.ref a1)] [(.ref t)]))
    obtain ⟨cl2, Ar2, qk2, Sz2, Mz2, Hz2, Uz2⟩ := id Vt
    refine own_st (X1.arraylength hx (by rw [e1]; exact Ar2.1) (State.isArrayOf_alike hZ.alike Ar2.2.1) (g := (mkF m 4 #[.val (.ref a1)] [(.ref t)])) rfl rfl (hb hby own_d_jdk_42_m55_4)) ?_
    rw [len_of Sz2 Mz2]
    show own_G _ _ _ _ (T1.setTop (mkF m 5 #[.val (.ref a1)] [(.int (Int32.ofNat n))]))
    refine own_st (fun _ k => XS.ifYes X1.here hx rfl (pc0 := 5) (pc' := 12) rfl (hb hby own_d_jdk_42_m55_5) rfl ((if0 _ _).trans (feq (fun q => by have := congrArg Int32.toInt q; rw [own_nat (by omega), show (0 : Int32).toInt = 0 from rfl] at this; omega)).2) (by decide) (by decide) k) ?_
    show own_G _ _ _ _ (T1.setTop (mkF m 12 #[.val (.ref a1)] []))
    refine own_st (fun _ k => XS.iconst X1.here hx rfl (hb hby own_d_jdk_42_m55_12) k) ?_
    show own_G _ _ _ _ (T1.setTop (mkF m 13 #[.val (.ref a1)] [(.int (0 : Int32))]))
    exact own_retN X1 hx hret hlk (by simp) (hb hby own_d_jdk_42_m55_13) (by rw [e1]; exact ⟨rfl, N0, rfl⟩) (by decide) (by decide)
  · skip
    refine own_st (fun _ k => XS.aloadN X0.here hx rfl (hb hby own_d_jdk_42_m55_0) rfl rfl k) ?_
    show own_G _ _ _ _ (T0.setTop (mkF m 1 #[.val (.ref a1)] [(.ref a1)]))
    obtain ⟨T3, X3, e3, st3⟩ := getF X0 hx hZ hown (host := "") (Or.inl (hw _ (List.mem_of_getElem? (i := 29) rfl))) Via.refl e0 Fv (g := (mkF m 1 #[.val (.ref a1)] [(.ref a1)])) rfl rfl (hb hby own_d_jdk_42_m55_1)
    refine own_st st3 ?_
    show own_G _ _ _ _ (T3.setTop (mkF m 4 #[.val (.ref a1)] [(.ref t)]))
    obtain ⟨cl4, Ar4, qk4, Sz4, Mz4, Hz4, Uz4⟩ := id Vt
    refine own_st (X3.arraylength hx (by rw [e3]; exact Ar4.1) (State.isArrayOf_alike hZ.alike Ar4.2.1) (g := (mkF m 4 #[.val (.ref a1)] [(.ref t)])) rfl rfl (hb hby own_d_jdk_42_m55_4)) ?_
    rw [len_of Sz4 Mz4]
    show own_G _ _ _ _ (T3.setTop (mkF m 5 #[.val (.ref a1)] [(.int (Int32.ofNat (2 * n)))]))
    refine own_st (fun _ k => XS.ifYes X3.here hx rfl (pc0 := 5) (pc' := 12) rfl (hb hby own_d_jdk_42_m55_5) rfl ((if0 _ _).trans (feq (fun q => by have := congrArg Int32.toInt q; rw [own_nat (by omega), show (0 : Int32).toInt = 0 from rfl] at this; omega)).2) (by decide) (by decide) k) ?_
    show own_G _ _ _ _ (T3.setTop (mkF m 12 #[.val (.ref a1)] []))
    refine own_st (fun _ k => XS.iconst X3.here hx rfl (hb hby own_d_jdk_42_m55_12) k) ?_
    show own_G _ _ _ _ (T3.setTop (mkF m 13 #[.val (.ref a1)] [(.int (0 : Int32))]))
    exact own_retN X3 hx hret hlk (by simp) (hb hby own_d_jdk_42_m55_13) (by rw [e3]; exact ⟨rfl, N0, rfl⟩) (by decide) (by decide)
theorem own_pn182 : plainName "java/util/Objects" = true := by first | (simp [plainName, overriddenIn]; done) | decide +kernel
theorem own_d_jdk_31_m11_0 : decode jdk_31_method_11_code 0 = .ok (.aload_n 0, 1) := by decide +kernel
theorem own_d_jdk_31_m11_1 : decode jdk_31_method_11_code 1 = .ok (.ifnonnull 12, 3) := by decide +kernel
theorem own_d_jdk_31_m11_13 : decode jdk_31_method_11_code 13 = .ok (.aload_n 0, 1) := by decide +kernel
theorem own_d_jdk_31_m11_14 : decode jdk_31_method_11_code 14 = .ok (.areturn, 1) := by decide +kernel
set_option maxRecDepth 65536 in
set_option maxHeartbeats 40000000 in
theorem own_rnn (l : Launch) (Z : State) (a0 : Array Value) (hw : ∀ d ∈ tables_1, d.before a0 Z = true) (ws : List Jvm.Cond) (a1 : Addr) (a2 : Addr)  (h0 : Heap) (O0 : Old Z Z.heap.size h0)  :
    own_Met l Z (⟨"java/util/Objects", "requireNonNull", "(Ljava/lang/Object;Ljava/lang/String;)Ljava/lang/Object;"⟩ : MethodName) jdk_31_method_11_code 2 (some (.object "java/lang/Object")) ws ({ frames := 0, cells := 0, slots := 0, locals := 0 } : Room) #[(.ref a1), (.ref a2)] h0 (fun v h L => v = some (.ref a1) ∧ Fr Z.heap.size L ∧ h = h0) (({ frames := 0, cells := 0, slots := 0, locals := 0 } : Room)).cells (({ frames := 0, cells := 0, slots := 0, locals := 0 } : Room)).slots := by
  refine own_body (ef := fun m => mkF m 0 #[.val (.ref a1), .val (.ref a2)] []) (plainFor_of_name own_pn182) (fun m => by first | rfl | (simp [entryFrame, mkF, argsToLocals, Value.category]; done)) ?_
  intro p e s m below meth c T0 hx hZ hby hml hown hnm hret hlk X0 e0
  have N0 := Fr.nil Z.heap.size
  have z0 : Z.heap.size ≤ h0.size := O0.2.1
  have Kr := Keep.refl h0 []
  show own_G _ _ _ _ (T0.setTop (mkF m 0 #[.val (.ref a1), .val (.ref a2)] []))
  refine own_st (fun _ k => XS.aloadN X0.here hx rfl (hb hby own_d_jdk_31_m11_0) rfl rfl k) ?_
  show own_G _ _ _ _ (T0.setTop (mkF m 1 #[.val (.ref a1), .val (.ref a2)] [(.ref a1)]))
  refine own_st (fun _ k => XS.ifnonnullYes X0.here hx rfl (pc0 := 1) (pc' := 13) rfl (hb hby own_d_jdk_31_m11_1) rfl (by decide) (by decide) k) ?_
  show own_G _ _ _ _ (T0.setTop (mkF m 13 #[.val (.ref a1), .val (.ref a2)] []))
  refine own_st (fun _ k => XS.aloadN X0.here hx rfl (hb hby own_d_jdk_31_m11_13) rfl rfl k) ?_
  show own_G _ _ _ _ (T0.setTop (mkF m 14 #[.val (.ref a1), .val (.ref a2)] [(.ref a1)]))
  exact own_retA X0 hx hret rfl rfl hlk (hb hby own_d_jdk_31_m11_14) (by rw [e0]; exact ⟨rfl, N0, rfl⟩) (by decide) (by decide)
theorem own_Str_ext {Z : State} {h h' : Heap} {a t : Addr} {kb : ClassId} {f : Nat → Int32} {n : Nat} (H : own_Str Z h a t kb f n) (E : Ext h h') : own_Str Z h' a t kb f n := by
  obtain ⟨H1, cd, H2, H3, H4⟩ := H
  exact ⟨H1.ext E, cd, H2.ext E, H3.ext E, H4.imp (fun q => ⟨q.1, q.2.1, q.2.2.ext E⟩) (fun q => ⟨q.1, q.2.ext E⟩)⟩
theorem own_pn187 : plainName "com/example/atomic_bracket/atomicbracket/Bracket" = true := by first | (simp [plainName, overriddenIn]; done) | decide +kernel
theorem own_d_prog_1_m4_0 : decode prog_1_method_4_code 0 = .ok (.aload_n 0, 1) := by decide +kernel
theorem own_d_prog_1_m4_1 : decode prog_1_method_4_code 1 = .ok (.ldc 88, 2) := by decide +kernel
theorem own_d_prog_1_m4_3 : decode prog_1_method_4_code 3 = .ok (.invokestatic 64, 3) := by decide +kernel
theorem own_pd191 : parseMethodDescriptor "(Ljava/lang/Object;Ljava/lang/String;)Ljava/lang/Object;" = some ⟨[(.object "java/lang/Object"), (.object "java/lang/String")], some (.object "java/lang/Object")⟩ := by decide +kernel
theorem own_d_prog_1_m4_6 : decode prog_1_method_4_code 6 = .ok (.pop, 1) := by decide +kernel
theorem own_d_prog_1_m4_7 : decode prog_1_method_4_code 7 = .ok (.aload_n 0, 1) := by decide +kernel
theorem own_d_prog_1_m4_8 : decode prog_1_method_4_code 8 = .ok (.invokevirtual 90, 3) := by decide +kernel
theorem own_pd195 : parseMethodDescriptor "()Z" = some ⟨[], some .boolean⟩ := by decide +kernel
theorem own_d_prog_1_m4_11 : decode prog_1_method_4_code 11 = .ok (.ifCond .eq 13, 3) := by decide +kernel
theorem own_d_prog_1_m4_24 : decode prog_1_method_4_code 24 = .ok (.aload_n 0, 1) := by decide +kernel
theorem own_d_prog_1_m4_25 : decode prog_1_method_4_code 25 = .ok (.areturn, 1) := by decide +kernel
set_option maxRecDepth 65536 in
set_option maxHeartbeats 40000000 in
theorem own_cn (l : Launch) (Z : State) (a0 : Array Value) (hw : ∀ d ∈ tables_1, d.before a0 Z = true) (ws : List Jvm.Cond) (a1 : Addr) (t : Addr) (kt : ClassId) (n : Nat) (f : Nat → Int32) (h0 : Heap) (O0 : Old Z Z.heap.size h0) (hn1 : 1 ≤ n) (hn : n ≤ 4) (Hs : own_Str Z h0 a1 t kt f n) :
    own_MetW l Z (⟨"com/example/atomic_bracket/atomicbracket/Bracket", "checkedName", "(Ljava/lang/String;)Ljava/lang/String;"⟩ : MethodName) prog_1_method_4_code 1 (some (.object "java/lang/String")) ws ({ frames := 1, cells := 2, slots := 24, locals := 20 } : Room) #[(.ref a1)] h0 (fun v h L => v = some (.ref a1) ∧ Fr Z.heap.size L ∧ Keep h0 h []) (({ frames := 1, cells := 2, slots := 24, locals := 20 } : Room)).cells (({ frames := 1, cells := 2, slots := 24, locals := 20 } : Room)).slots := by
  refine own_bodyW (ef := fun m => mkF m 0 #[.val (.ref a1)] []) (plainFor_of_name own_pn187) (fun m => by first | rfl | (simp [entryFrame, mkF, argsToLocals, Value.category]; done)) ?_
  intro p e s m below meth c T0 hx hZ hby hml hown hnm hret hlk X0 e0 hS0
  have N0 := Fr.nil Z.heap.size
  have z0 : Z.heap.size ≤ h0.size := O0.2.1
  have Kr := Keep.refl h0 []
  show own_G _ _ _ _ (T0.setTop (mkF m 0 #[.val (.ref a1)] []))
  have X0w : Stand p l e _ (s.setVm s.vm) m _ below meth c T0 _ _ _ := X0
  have hZw : Z.Warmed39 (s.setVm s.vm).vm := hZ
  have hownw : (s.setVm s.vm).vm.findClass "com/example/atomic_bracket/atomicbracket/Bracket" = some m.cls := hown
  refine own_st (fun _ k => XS.aloadN X0w.here hx rfl (hb hby own_d_prog_1_m4_0) rfl rfl k) ?_
  show own_G _ _ _ _ (T0.setTop (mkF m 1 #[.val (.ref a1)] [(.ref a1)]))
  obtain ⟨sl1, T1, h1, k1, X1, e1, E1, hS1, hk1, hZ1, hown1, st1⟩ := ldcS (s := s) X0w hx hZw hownw (hw _ (List.mem_of_getElem? (i := 35) rfl)) (fun d hd => by
        simp only [Bundle.stringAtoms, List.mem_cons, List.not_mem_nil, or_false] at hd
        rcases hd with rfl | rfl | rfl | rfl | rfl | rfl | rfl
        · exact (hw _ (List.mem_of_getElem? (i := 4) rfl))
        · exact (hw _ (List.mem_of_getElem? (i := 3) rfl))
        · exact (hw _ (List.mem_of_getElem? (i := 20) rfl))
        · exact (hw _ (List.mem_of_getElem? (i := 30) rfl))
        · exact (hw _ (List.mem_of_getElem? (i := 28) rfl))
        · exact (hw _ (List.mem_of_getElem? (i := 36) rfl))
        · exact (hw _ (List.mem_of_getElem? (i := 37) rfl))) e0 hS0 (Nat.zero_le _) (g := (mkF m 1 #[.val (.ref a1)] [(.ref a1)])) rfl (hb hby own_d_prog_1_m4_1) (n := 20) (by first | decide | decide +kernel | simp) (by decide) (by decide) (by decide)
  refine own_st st1 ?_
  have z2 : h0.size ≤ h1.size := E1.1
  have O3 := Old.ext O0 E1
  have K4 : Keep h0 h1 [] := Kr.ext E1
  show own_G _ _ _ _ (T1.setTop (mkF m 3 #[.val (.ref a1)] [(.ref sl1), (.ref a1)]))
  obtain ⟨_, _, ⟨T5, L5, k5, n5⟩, -, X5, ⟨Lc5, hQ5, l5, y5, z5⟩, st5⟩ := Jvm.LawKit.callS X1 hx (y := (⟨"java/util/Objects", "requireNonNull", "(Ljava/lang/Object;Ljava/lang/String;)Ljava/lang/Object;"⟩ : MethodName)) hown1 (mvT hZ1 (hw _ (List.mem_of_getElem? (i := 38) rfl))) (mvT hZ1 (hw _ (List.mem_of_getElem? (i := 39) rfl))) (mvT hZ1 (hw _ (List.mem_of_getElem? (i := 40) rfl))) (mvT hZ1 (hw _ (List.mem_of_getElem? (i := 41) rfl))) (by decide) (own_back (rm := ({ frames := 0, cells := 0, slots := 0, locals := 0 } : Room)) (W := 0) (own_rnn l Z a0 hw [] a1 sl1 h1 O3) hZ1 (hw _ (List.mem_of_getElem? (i := 41) rfl)) (hw _ (List.mem_of_getElem? (i := 40) rfl)) (by decide) (by decide)) (g := (mkF m 3 #[.val (.ref a1)] [(.ref sl1), (.ref a1)])) rfl (by rw [hml]; rfl) (argsL := [(.ref a1), (.ref sl1)]) (rest := []) (lenOf own_pd191 rfl) rfl (by show 2 * 0 + _ ≤ _; exact Nat.le_of_eq rfl) (hb hby own_d_prog_1_m4_3) (fun _ _ => ⟨rfl, e1, (by decide : 0 + 2 + 0 ≤ _), (by decide : 0 + 24 + 0 ≤ _)⟩)
  dsimp only [Pt.U, Pt.locs, Pt.cells, Pt.slots] at X5 l5 y5 z5 st5 hQ5
  subst l5 y5 z5
  obtain ⟨rfl, N5q, eh5⟩ := hQ5
  have N5 := Fr.app N0 N5q
  refine own_st st5 ?_
  show own_G _ _ _ _ (T5.setTop (mkF m 6 #[.val (.ref a1)] [(.ref a1)]))
  refine own_st (fun _ k => XS.pop X5.here hx rfl (hb hby own_d_prog_1_m4_6) rfl rfl k) ?_
  show own_G _ _ _ _ (T5.setTop (mkF m 7 #[.val (.ref a1)] []))
  refine own_st (fun _ k => XS.aloadN X5.here hx rfl (hb hby own_d_prog_1_m4_7) rfl rfl k) ?_
  show own_G _ _ _ _ (T5.setTop (mkF m 8 #[.val (.ref a1)] [(.ref a1)]))
  have Hs' := own_Str_ext Hs E1
  obtain ⟨cq6, kq6, q6a, q6b, q6c⟩ := isOf hZ1 eh5 Hs'.1
  obtain ⟨_, _, ⟨T6, L6, k6, n6⟩, -, X6, ⟨Lc6, hQ6, l6, y6, z6⟩, st6⟩ := X5.virtualBack hx (y := (⟨"java/lang/String", "isEmpty", "()Z"⟩ : MethodName)) (z := (⟨"java/lang/String", "isEmpty", "()Z"⟩ : MethodName)) hown1 (mvT hZ1 (hw _ (List.mem_of_getElem? (i := 42) rfl))) (mvT hZ1 (hw _ (List.mem_of_getElem? (i := 43) rfl))) (notFace_of_selects (args := #[]) (mvT hZ1 (hw _ (List.mem_of_getElem? (i := 45) rfl)))) (mvT hZ1 (hw _ (List.mem_of_getElem? (i := 45) rfl))) (mvT hZ1 (hw _ (List.mem_of_getElem? (i := 44) rfl))) (by decide) (own_back (rm := ({ frames := 0, cells := 0, slots := 0, locals := 0 } : Room)) (W := 0) (own_isEmpty l Z a0 hw [] a1 t kt n f h1 O3 hn1 hn Hs') hZ1 (hw _ (List.mem_of_getElem? (i := 46) rfl)) (hw _ (List.mem_of_getElem? (i := 4) rfl)) (by decide) (by decide)) q6a q6c (g := (mkF m 8 #[.val (.ref a1)] [(.ref a1)])) rfl (by rw [hml]; rfl) (Steps.refl _) (argsL := []) (rest := []) (lenOf own_pd195 rfl) rfl (by show 2 * 0 + _ ≤ _; exact Nat.le_of_eq rfl) (hb hby own_d_prog_1_m4_8) (fun _ _ => ⟨rfl, eh5, (by decide : 0 + 2 + 0 + 0 ≤ _), (by decide : 0 + 24 + 0 + 0 ≤ _)⟩)
  dsimp only [Pt.U, Pt.locs, Pt.cells, Pt.slots] at X6 l6 y6 z6 st6 hQ6
  subst l6 y6 z6
  obtain ⟨rfl, N6q, eh6⟩ := hQ6
  have N6 := Fr.app N5 N6q
  refine own_tr st6 ?_
  show own_G _ _ _ _ (T6.setTop (mkF m 11 #[.val (.ref a1)] [(.int (0 : Int32))]))
  refine own_st (fun _ k => XS.ifYes X6.here hx rfl (pc0 := 11) (pc' := 24) rfl (hb hby own_d_prog_1_m4_11) rfl ((if0 _ _).trans (teq rfl).1) (by decide) (by decide) k) ?_
  show own_G _ _ _ _ (T6.setTop (mkF m 24 #[.val (.ref a1)] []))
  refine own_st (fun _ k => XS.aloadN X6.here hx rfl (hb hby own_d_prog_1_m4_24) rfl rfl k) ?_
  show own_G _ _ _ _ (T6.setTop (mkF m 25 #[.val (.ref a1)] [(.ref a1)]))
  exact own_retAW X6 hS1 (by have hSz : T6.heap = h1 := eh6; rw [hSz]; omega) hx hret rfl rfl hlk (hb hby own_d_prog_1_m4_25) (by rw [eh6]; exact ⟨rfl, N6, K4⟩) (by decide) (by decide)
def own_ch (x : Int32) : Int32 := nar .char ((x &&& (65535 : Int32)).toUInt32.toUInt16.toUInt32.toInt32)
theorem own_ch_rng (x : Int32) : 0 ≤ (own_ch x).toInt ∧ (own_ch x).toInt < 65536 := (c_i2c _).2
def own_f (p1 p2 p3 p4 : Int32) (j : Nat) : Int32 := if j = 0 then own_ch p1 else if j = 1 then own_ch p2 else if j = 2 then own_ch p3 else own_ch p4
theorem own_f_rng (p1 p2 p3 p4 : Int32) (j : Nat) : 0 ≤ (own_f p1 p2 p3 p4 j).toInt ∧ (own_f p1 p2 p3 p4 j).toInt < 65536 := by
  unfold own_f
  split
  · exact own_ch_rng _
  · split
    · exact own_ch_rng _
    · split <;> exact own_ch_rng _
theorem own_len4 (x : Int32) : ((x &&& (3 : Int32)) + (1 : Int32) = 1) ∨ ((x &&& (3 : Int32)) + (1 : Int32) = 2) ∨ ((x &&& (3 : Int32)) + (1 : Int32) = 3) ∨ ((x &&& (3 : Int32)) + (1 : Int32) = 4) := by
  have h := c_mask x 3 2 (by decide) rfl
  have h2 := c_iadd (x &&& 3) 1
  have h3 := rng32 ((x &&& 3) + 1)
  have h4 : (1 : Int32).toInt = 1 := rfl
  rw [h4] at h2
  have : ((x &&& (3 : Int32)) + 1).toInt = 1 ∨ ((x &&& (3 : Int32)) + 1).toInt = 2 ∨ ((x &&& (3 : Int32)) + 1).toInt = 3 ∨ ((x &&& (3 : Int32)) + 1).toInt = 4 := by omega
  rcases this with q | q | q | q
  · exact Or.inl (Int32.toInt_inj.mp q)
  · exact Or.inr (Or.inl (Int32.toInt_inj.mp q))
  · exact Or.inr (Or.inr (Or.inl (Int32.toInt_inj.mp q)))
  · exact Or.inr (Or.inr (Or.inr (Int32.toInt_inj.mp q)))
theorem own_pn199 : plainName "com/example/atomic_bracket/atomicbracket/BracketCheckedNamePinLaw" = true := by first | (simp [plainName, overriddenIn]; done) | decide +kernel
theorem own_pd285 : parseMethodDescriptor "([C)V" = some ⟨[(.array .char)], none⟩ := by decide +kernel
theorem own_pd290 : parseMethodDescriptor "(Ljava/lang/String;)Ljava/lang/String;" = some ⟨[(.object "java/lang/String")], some (.object "java/lang/String")⟩ := by decide +kernel
set_option maxRecDepth 65536 in
set_option maxHeartbeats 40000000 in
theorem own_law (l : Launch) (Z : State) (a0 : Array Value) (hw : ∀ d ∈ tables_1, d.before a0 Z = true) (ws : List Jvm.Cond) (p0 : Int32) (p1 : Int32) (p2 : Int32) (p3 : Int32) (p4 : Int32) (w1 : Int32) (h0 : Heap) (O0 : Old Z Z.heap.size h0) (US : own_US Z) (S1 : Sta Z Z.heap "java/lang/String" "COMPACT_STRINGS" "Z" (.int w1)) (hw1 : ¬ (w1 = (0 : Int32))) :
    own_MetW l Z x code maxLocals ret ws room_1 #[(.int p0), (.int p1), (.int p2), (.int p3), (.int p4)] h0 (fun v h L => v = some (.int 1) ∧ Fr Z.heap.size L) 24 1152 := by
  refine own_bodyW (ef := fun m => mkF m 0 #[.val (.int p0), .val (.int p1), .val (.int p2), .val (.int p3), .val (.int p4), .unset, .unset, .unset, .unset, .unset, .unset, .unset, .unset, .unset, .unset, .unset] []) (plainFor_of_name own_pn199) (fun m => by first | rfl | (simp [entryFrame, mkF, argsToLocals, Value.category, maxLocals]; done)) ?_
  intro p e s m below meth c T0 hx hZ hby hml hown hnm hret hlk X0 e0 hS0
  have N0 := Fr.nil Z.heap.size
  have z0 : Z.heap.size ≤ h0.size := O0.2.1
  have Kr := Keep.refl h0 []
  show own_G _ _ _ _ (T0.setTop (mkF m 0 #[.val (.int p0), .val (.int p1), .val (.int p2), .val (.int p3), .val (.int p4), .unset, .unset, .unset, .unset, .unset, .unset, .unset, .unset, .unset, .unset, .unset] []))
  refine own_st (fun _ k => XS.iloadN X0.here hx rfl (hb hby at_0) rfl k) ?_
  show own_G _ _ _ _ (T0.setTop (mkF m 1 #[.val (.int p0), .val (.int p1), .val (.int p2), .val (.int p3), .val (.int p4), .unset, .unset, .unset, .unset, .unset, .unset, .unset, .unset, .unset, .unset, .unset] [(.int p1)]))
  refine own_st (X0.ldcInt hx hown (mvT hZ (hw _ (List.mem_of_getElem? (i := 0) rfl))) (g := (mkF m 1 #[.val (.int p0), .val (.int p1), .val (.int p2), .val (.int p3), .val (.int p4), .unset, .unset, .unset, .unset, .unset, .unset, .unset, .unset, .unset, .unset, .unset] [(.int p1)])) rfl (hb hby at_1)) ?_
  show own_G _ _ _ _ (T0.setTop (mkF m 3 #[.val (.int p0), .val (.int p1), .val (.int p2), .val (.int p3), .val (.int p4), .unset, .unset, .unset, .unset, .unset, .unset, .unset, .unset, .unset, .unset, .unset] [(.int (65535 : Int32)), (.int p1)]))
  refine own_st (fun _ k => XS.iand X0.here hx rfl (hb hby at_3) rfl k) ?_
  show own_G _ _ _ _ (T0.setTop (mkF m 4 #[.val (.int p0), .val (.int p1), .val (.int p2), .val (.int p3), .val (.int p4), .unset, .unset, .unset, .unset, .unset, .unset, .unset, .unset, .unset, .unset, .unset] [(.int (p1 &&& (65535 : Int32)))]))
  refine own_st (fun _ k => XS.i2c X0.here hx rfl (hb hby at_4) rfl k) ?_
  show own_G _ _ _ _ (T0.setTop (mkF m 5 #[.val (.int p0), .val (.int p1), .val (.int p2), .val (.int p3), .val (.int p4), .unset, .unset, .unset, .unset, .unset, .unset, .unset, .unset, .unset, .unset, .unset] [(.int ((p1 &&& (65535 : Int32)).toUInt32.toUInt16.toUInt32.toInt32))]))
  refine own_st (fun _ k => XS.istore X0.here hx rfl (hb hby at_5) rfl (l' := #[.val (.int p0), .val (.int p1), .val (.int p2), .val (.int p3), .val (.int p4), .val (.int ((p1 &&& (65535 : Int32)).toUInt32.toUInt16.toUInt32.toInt32)), .unset, .unset, .unset, .unset, .unset, .unset, .unset, .unset, .unset, .unset]) rfl k) ?_
  show own_G _ _ _ _ (T0.setTop (mkF m 7 #[.val (.int p0), .val (.int p1), .val (.int p2), .val (.int p3), .val (.int p4), .val (.int ((p1 &&& (65535 : Int32)).toUInt32.toUInt16.toUInt32.toInt32)), .unset, .unset, .unset, .unset, .unset, .unset, .unset, .unset, .unset, .unset] []))
  refine own_st (fun _ k => XS.iloadN X0.here hx rfl (hb hby at_7) rfl k) ?_
  show own_G _ _ _ _ (T0.setTop (mkF m 8 #[.val (.int p0), .val (.int p1), .val (.int p2), .val (.int p3), .val (.int p4), .val (.int ((p1 &&& (65535 : Int32)).toUInt32.toUInt16.toUInt32.toInt32)), .unset, .unset, .unset, .unset, .unset, .unset, .unset, .unset, .unset, .unset] [(.int p2)]))
  refine own_st (X0.ldcInt hx hown (mvT hZ (hw _ (List.mem_of_getElem? (i := 0) rfl))) (g := (mkF m 8 #[.val (.int p0), .val (.int p1), .val (.int p2), .val (.int p3), .val (.int p4), .val (.int ((p1 &&& (65535 : Int32)).toUInt32.toUInt16.toUInt32.toInt32)), .unset, .unset, .unset, .unset, .unset, .unset, .unset, .unset, .unset, .unset] [(.int p2)])) rfl (hb hby at_8)) ?_
  show own_G _ _ _ _ (T0.setTop (mkF m 10 #[.val (.int p0), .val (.int p1), .val (.int p2), .val (.int p3), .val (.int p4), .val (.int ((p1 &&& (65535 : Int32)).toUInt32.toUInt16.toUInt32.toInt32)), .unset, .unset, .unset, .unset, .unset, .unset, .unset, .unset, .unset, .unset] [(.int (65535 : Int32)), (.int p2)]))
  refine own_st (fun _ k => XS.iand X0.here hx rfl (hb hby at_10) rfl k) ?_
  show own_G _ _ _ _ (T0.setTop (mkF m 11 #[.val (.int p0), .val (.int p1), .val (.int p2), .val (.int p3), .val (.int p4), .val (.int ((p1 &&& (65535 : Int32)).toUInt32.toUInt16.toUInt32.toInt32)), .unset, .unset, .unset, .unset, .unset, .unset, .unset, .unset, .unset, .unset] [(.int (p2 &&& (65535 : Int32)))]))
  refine own_st (fun _ k => XS.i2c X0.here hx rfl (hb hby at_11) rfl k) ?_
  show own_G _ _ _ _ (T0.setTop (mkF m 12 #[.val (.int p0), .val (.int p1), .val (.int p2), .val (.int p3), .val (.int p4), .val (.int ((p1 &&& (65535 : Int32)).toUInt32.toUInt16.toUInt32.toInt32)), .unset, .unset, .unset, .unset, .unset, .unset, .unset, .unset, .unset, .unset] [(.int ((p2 &&& (65535 : Int32)).toUInt32.toUInt16.toUInt32.toInt32))]))
  refine own_st (fun _ k => XS.istore X0.here hx rfl (hb hby at_12) rfl (l' := #[.val (.int p0), .val (.int p1), .val (.int p2), .val (.int p3), .val (.int p4), .val (.int ((p1 &&& (65535 : Int32)).toUInt32.toUInt16.toUInt32.toInt32)), .val (.int ((p2 &&& (65535 : Int32)).toUInt32.toUInt16.toUInt32.toInt32)), .unset, .unset, .unset, .unset, .unset, .unset, .unset, .unset, .unset]) rfl k) ?_
  show own_G _ _ _ _ (T0.setTop (mkF m 14 #[.val (.int p0), .val (.int p1), .val (.int p2), .val (.int p3), .val (.int p4), .val (.int ((p1 &&& (65535 : Int32)).toUInt32.toUInt16.toUInt32.toInt32)), .val (.int ((p2 &&& (65535 : Int32)).toUInt32.toUInt16.toUInt32.toInt32)), .unset, .unset, .unset, .unset, .unset, .unset, .unset, .unset, .unset] []))
  refine own_st (fun _ k => XS.iloadN X0.here hx rfl (hb hby at_14) rfl k) ?_
  show own_G _ _ _ _ (T0.setTop (mkF m 15 #[.val (.int p0), .val (.int p1), .val (.int p2), .val (.int p3), .val (.int p4), .val (.int ((p1 &&& (65535 : Int32)).toUInt32.toUInt16.toUInt32.toInt32)), .val (.int ((p2 &&& (65535 : Int32)).toUInt32.toUInt16.toUInt32.toInt32)), .unset, .unset, .unset, .unset, .unset, .unset, .unset, .unset, .unset] [(.int p3)]))
  refine own_st (X0.ldcInt hx hown (mvT hZ (hw _ (List.mem_of_getElem? (i := 0) rfl))) (g := (mkF m 15 #[.val (.int p0), .val (.int p1), .val (.int p2), .val (.int p3), .val (.int p4), .val (.int ((p1 &&& (65535 : Int32)).toUInt32.toUInt16.toUInt32.toInt32)), .val (.int ((p2 &&& (65535 : Int32)).toUInt32.toUInt16.toUInt32.toInt32)), .unset, .unset, .unset, .unset, .unset, .unset, .unset, .unset, .unset] [(.int p3)])) rfl (hb hby at_15)) ?_
  show own_G _ _ _ _ (T0.setTop (mkF m 17 #[.val (.int p0), .val (.int p1), .val (.int p2), .val (.int p3), .val (.int p4), .val (.int ((p1 &&& (65535 : Int32)).toUInt32.toUInt16.toUInt32.toInt32)), .val (.int ((p2 &&& (65535 : Int32)).toUInt32.toUInt16.toUInt32.toInt32)), .unset, .unset, .unset, .unset, .unset, .unset, .unset, .unset, .unset] [(.int (65535 : Int32)), (.int p3)]))
  refine own_st (fun _ k => XS.iand X0.here hx rfl (hb hby at_17) rfl k) ?_
  show own_G _ _ _ _ (T0.setTop (mkF m 18 #[.val (.int p0), .val (.int p1), .val (.int p2), .val (.int p3), .val (.int p4), .val (.int ((p1 &&& (65535 : Int32)).toUInt32.toUInt16.toUInt32.toInt32)), .val (.int ((p2 &&& (65535 : Int32)).toUInt32.toUInt16.toUInt32.toInt32)), .unset, .unset, .unset, .unset, .unset, .unset, .unset, .unset, .unset] [(.int (p3 &&& (65535 : Int32)))]))
  refine own_st (fun _ k => XS.i2c X0.here hx rfl (hb hby at_18) rfl k) ?_
  show own_G _ _ _ _ (T0.setTop (mkF m 19 #[.val (.int p0), .val (.int p1), .val (.int p2), .val (.int p3), .val (.int p4), .val (.int ((p1 &&& (65535 : Int32)).toUInt32.toUInt16.toUInt32.toInt32)), .val (.int ((p2 &&& (65535 : Int32)).toUInt32.toUInt16.toUInt32.toInt32)), .unset, .unset, .unset, .unset, .unset, .unset, .unset, .unset, .unset] [(.int ((p3 &&& (65535 : Int32)).toUInt32.toUInt16.toUInt32.toInt32))]))
  refine own_st (fun _ k => XS.istore X0.here hx rfl (hb hby at_19) rfl (l' := #[.val (.int p0), .val (.int p1), .val (.int p2), .val (.int p3), .val (.int p4), .val (.int ((p1 &&& (65535 : Int32)).toUInt32.toUInt16.toUInt32.toInt32)), .val (.int ((p2 &&& (65535 : Int32)).toUInt32.toUInt16.toUInt32.toInt32)), .val (.int ((p3 &&& (65535 : Int32)).toUInt32.toUInt16.toUInt32.toInt32)), .unset, .unset, .unset, .unset, .unset, .unset, .unset, .unset]) rfl k) ?_
  show own_G _ _ _ _ (T0.setTop (mkF m 21 #[.val (.int p0), .val (.int p1), .val (.int p2), .val (.int p3), .val (.int p4), .val (.int ((p1 &&& (65535 : Int32)).toUInt32.toUInt16.toUInt32.toInt32)), .val (.int ((p2 &&& (65535 : Int32)).toUInt32.toUInt16.toUInt32.toInt32)), .val (.int ((p3 &&& (65535 : Int32)).toUInt32.toUInt16.toUInt32.toInt32)), .unset, .unset, .unset, .unset, .unset, .unset, .unset, .unset] []))
  refine own_st (fun _ k => XS.iload X0.here hx rfl (hb hby at_21) rfl k) ?_
  show own_G _ _ _ _ (T0.setTop (mkF m 23 #[.val (.int p0), .val (.int p1), .val (.int p2), .val (.int p3), .val (.int p4), .val (.int ((p1 &&& (65535 : Int32)).toUInt32.toUInt16.toUInt32.toInt32)), .val (.int ((p2 &&& (65535 : Int32)).toUInt32.toUInt16.toUInt32.toInt32)), .val (.int ((p3 &&& (65535 : Int32)).toUInt32.toUInt16.toUInt32.toInt32)), .unset, .unset, .unset, .unset, .unset, .unset, .unset, .unset] [(.int p4)]))
  refine own_st (X0.ldcInt hx hown (mvT hZ (hw _ (List.mem_of_getElem? (i := 0) rfl))) (g := (mkF m 23 #[.val (.int p0), .val (.int p1), .val (.int p2), .val (.int p3), .val (.int p4), .val (.int ((p1 &&& (65535 : Int32)).toUInt32.toUInt16.toUInt32.toInt32)), .val (.int ((p2 &&& (65535 : Int32)).toUInt32.toUInt16.toUInt32.toInt32)), .val (.int ((p3 &&& (65535 : Int32)).toUInt32.toUInt16.toUInt32.toInt32)), .unset, .unset, .unset, .unset, .unset, .unset, .unset, .unset] [(.int p4)])) rfl (hb hby at_23)) ?_
  show own_G _ _ _ _ (T0.setTop (mkF m 25 #[.val (.int p0), .val (.int p1), .val (.int p2), .val (.int p3), .val (.int p4), .val (.int ((p1 &&& (65535 : Int32)).toUInt32.toUInt16.toUInt32.toInt32)), .val (.int ((p2 &&& (65535 : Int32)).toUInt32.toUInt16.toUInt32.toInt32)), .val (.int ((p3 &&& (65535 : Int32)).toUInt32.toUInt16.toUInt32.toInt32)), .unset, .unset, .unset, .unset, .unset, .unset, .unset, .unset] [(.int (65535 : Int32)), (.int p4)]))
  refine own_st (fun _ k => XS.iand X0.here hx rfl (hb hby at_25) rfl k) ?_
  show own_G _ _ _ _ (T0.setTop (mkF m 26 #[.val (.int p0), .val (.int p1), .val (.int p2), .val (.int p3), .val (.int p4), .val (.int ((p1 &&& (65535 : Int32)).toUInt32.toUInt16.toUInt32.toInt32)), .val (.int ((p2 &&& (65535 : Int32)).toUInt32.toUInt16.toUInt32.toInt32)), .val (.int ((p3 &&& (65535 : Int32)).toUInt32.toUInt16.toUInt32.toInt32)), .unset, .unset, .unset, .unset, .unset, .unset, .unset, .unset] [(.int (p4 &&& (65535 : Int32)))]))
  refine own_st (fun _ k => XS.i2c X0.here hx rfl (hb hby at_26) rfl k) ?_
  show own_G _ _ _ _ (T0.setTop (mkF m 27 #[.val (.int p0), .val (.int p1), .val (.int p2), .val (.int p3), .val (.int p4), .val (.int ((p1 &&& (65535 : Int32)).toUInt32.toUInt16.toUInt32.toInt32)), .val (.int ((p2 &&& (65535 : Int32)).toUInt32.toUInt16.toUInt32.toInt32)), .val (.int ((p3 &&& (65535 : Int32)).toUInt32.toUInt16.toUInt32.toInt32)), .unset, .unset, .unset, .unset, .unset, .unset, .unset, .unset] [(.int ((p4 &&& (65535 : Int32)).toUInt32.toUInt16.toUInt32.toInt32))]))
  refine own_st (fun _ k => XS.istore X0.here hx rfl (hb hby at_27) rfl (l' := #[.val (.int p0), .val (.int p1), .val (.int p2), .val (.int p3), .val (.int p4), .val (.int ((p1 &&& (65535 : Int32)).toUInt32.toUInt16.toUInt32.toInt32)), .val (.int ((p2 &&& (65535 : Int32)).toUInt32.toUInt16.toUInt32.toInt32)), .val (.int ((p3 &&& (65535 : Int32)).toUInt32.toUInt16.toUInt32.toInt32)), .val (.int ((p4 &&& (65535 : Int32)).toUInt32.toUInt16.toUInt32.toInt32)), .unset, .unset, .unset, .unset, .unset, .unset, .unset]) rfl k) ?_
  show own_G _ _ _ _ (T0.setTop (mkF m 29 #[.val (.int p0), .val (.int p1), .val (.int p2), .val (.int p3), .val (.int p4), .val (.int ((p1 &&& (65535 : Int32)).toUInt32.toUInt16.toUInt32.toInt32)), .val (.int ((p2 &&& (65535 : Int32)).toUInt32.toUInt16.toUInt32.toInt32)), .val (.int ((p3 &&& (65535 : Int32)).toUInt32.toUInt16.toUInt32.toInt32)), .val (.int ((p4 &&& (65535 : Int32)).toUInt32.toUInt16.toUInt32.toInt32)), .unset, .unset, .unset, .unset, .unset, .unset, .unset] []))
  refine own_st (fun _ k => XS.iconst X0.here hx rfl (hb hby at_29) k) ?_
  show own_G _ _ _ _ (T0.setTop (mkF m 30 #[.val (.int p0), .val (.int p1), .val (.int p2), .val (.int p3), .val (.int p4), .val (.int ((p1 &&& (65535 : Int32)).toUInt32.toUInt16.toUInt32.toInt32)), .val (.int ((p2 &&& (65535 : Int32)).toUInt32.toUInt16.toUInt32.toInt32)), .val (.int ((p3 &&& (65535 : Int32)).toUInt32.toUInt16.toUInt32.toInt32)), .val (.int ((p4 &&& (65535 : Int32)).toUInt32.toUInt16.toUInt32.toInt32)), .unset, .unset, .unset, .unset, .unset, .unset, .unset] [(.int (1 : Int32))]))
  obtain ⟨T1, h1, k1, X1, e1, E1, A1, st1⟩ := newP X0 hx hZ (hw _ (List.mem_of_getElem? (i := 1) rfl)) e0 (g := (mkF m 30 #[.val (.int p0), .val (.int p1), .val (.int p2), .val (.int p3), .val (.int p4), .val (.int ((p1 &&& (65535 : Int32)).toUInt32.toUInt16.toUInt32.toInt32)), .val (.int ((p2 &&& (65535 : Int32)).toUInt32.toUInt16.toUInt32.toInt32)), .val (.int ((p3 &&& (65535 : Int32)).toUInt32.toUInt16.toUInt32.toInt32)), .val (.int ((p4 &&& (65535 : Int32)).toUInt32.toUInt16.toUInt32.toInt32)), .unset, .unset, .unset, .unset, .unset, .unset, .unset] [(.int (1 : Int32))])) rfl (hb hby at_30) rfl (by decide) (cap := 1) (by decide) (by decide) (by decide) (by decide)
  obtain ⟨b1, g1⟩ : ∃ z, z = h0.size := ⟨_, rfl⟩
  rw [← g1] at A1 st1
  refine own_st st1 ?_
  have z2 : h0.size ≤ h1.size := E1.1
  have O3 := Old.ext O0 E1
  have K4 : Keep h0 h1 [] := Kr.ext E1
  have V1 : Arv Z h1 b1 k1 .char (1 : Int32) [(.int (0 : Int32))] (.int (0 : Int32)) := (Arv.new A1 (by decide)).pad (pad_rep [] (.int (0 : Int32)) 1)
  have lt1 := own_ltN A1.lt
  show own_G _ _ _ _ (T1.setTop (mkF m 32 #[.val (.int p0), .val (.int p1), .val (.int p2), .val (.int p3), .val (.int p4), .val (.int ((p1 &&& (65535 : Int32)).toUInt32.toUInt16.toUInt32.toInt32)), .val (.int ((p2 &&& (65535 : Int32)).toUInt32.toUInt16.toUInt32.toInt32)), .val (.int ((p3 &&& (65535 : Int32)).toUInt32.toUInt16.toUInt32.toInt32)), .val (.int ((p4 &&& (65535 : Int32)).toUInt32.toUInt16.toUInt32.toInt32)), .unset, .unset, .unset, .unset, .unset, .unset, .unset] [(.ref b1)]))
  refine own_st (fun _ k => XS.dup X1.here hx rfl (hb hby at_32) rfl rfl k) ?_
  show own_G _ _ _ _ (T1.setTop (mkF m 33 #[.val (.int p0), .val (.int p1), .val (.int p2), .val (.int p3), .val (.int p4), .val (.int ((p1 &&& (65535 : Int32)).toUInt32.toUInt16.toUInt32.toInt32)), .val (.int ((p2 &&& (65535 : Int32)).toUInt32.toUInt16.toUInt32.toInt32)), .val (.int ((p3 &&& (65535 : Int32)).toUInt32.toUInt16.toUInt32.toInt32)), .val (.int ((p4 &&& (65535 : Int32)).toUInt32.toUInt16.toUInt32.toInt32)), .unset, .unset, .unset, .unset, .unset, .unset, .unset] [(.ref b1), (.ref b1)]))
  refine own_st (fun _ k => XS.iconst X1.here hx rfl (hb hby at_33) k) ?_
  show own_G _ _ _ _ (T1.setTop (mkF m 34 #[.val (.int p0), .val (.int p1), .val (.int p2), .val (.int p3), .val (.int p4), .val (.int ((p1 &&& (65535 : Int32)).toUInt32.toUInt16.toUInt32.toInt32)), .val (.int ((p2 &&& (65535 : Int32)).toUInt32.toUInt16.toUInt32.toInt32)), .val (.int ((p3 &&& (65535 : Int32)).toUInt32.toUInt16.toUInt32.toInt32)), .val (.int ((p4 &&& (65535 : Int32)).toUInt32.toUInt16.toUInt32.toInt32)), .unset, .unset, .unset, .unset, .unset, .unset, .unset] [(.int (0 : Int32)), (.ref b1), (.ref b1)]))
  refine own_st (fun _ k => XS.iload X1.here hx rfl (hb hby at_34) rfl k) ?_
  show own_G _ _ _ _ (T1.setTop (mkF m 36 #[.val (.int p0), .val (.int p1), .val (.int p2), .val (.int p3), .val (.int p4), .val (.int ((p1 &&& (65535 : Int32)).toUInt32.toUInt16.toUInt32.toInt32)), .val (.int ((p2 &&& (65535 : Int32)).toUInt32.toUInt16.toUInt32.toInt32)), .val (.int ((p3 &&& (65535 : Int32)).toUInt32.toUInt16.toUInt32.toInt32)), .val (.int ((p4 &&& (65535 : Int32)).toUInt32.toUInt16.toUInt32.toInt32)), .unset, .unset, .unset, .unset, .unset, .unset, .unset] [(.int ((p1 &&& (65535 : Int32)).toUInt32.toUInt16.toUInt32.toInt32)), (.int (0 : Int32)), (.ref b1), (.ref b1)]))
  obtain ⟨cl5, Ar5, qk5, Sz5, Mz5, Hz5, Uz5⟩ := id V1
  obtain ⟨T6, h6, X6, e6, W6, st6⟩ := stC X1 hx hZ e1 Ar5 (j := (0 : Int32)) (inb_of Sz5 ⟨by decide, by decide⟩) (g := (mkF m 36 #[.val (.int p0), .val (.int p1), .val (.int p2), .val (.int p3), .val (.int p4), .val (.int ((p1 &&& (65535 : Int32)).toUInt32.toUInt16.toUInt32.toInt32)), .val (.int ((p2 &&& (65535 : Int32)).toUInt32.toUInt16.toUInt32.toInt32)), .val (.int ((p3 &&& (65535 : Int32)).toUInt32.toUInt16.toUInt32.toInt32)), .val (.int ((p4 &&& (65535 : Int32)).toUInt32.toUInt16.toUInt32.toInt32)), .unset, .unset, .unset, .unset, .unset, .unset, .unset] [(.int ((p1 &&& (65535 : Int32)).toUInt32.toUInt16.toUInt32.toInt32)), (.int (0 : Int32)), (.ref b1), (.ref b1)])) rfl rfl (hb hby at_36)
  refine own_st st6 ?_
  have V6 := Arv.set Ar5 qk5 Sz5 Mz5 Hz5 Uz5 (fits_nar_char _) W6 0 rfl (Nat.le_of_ble_eq_true rfl)
  have z7 : h6.size = h1.size := W6.size
  have O8 := Old.wr O3 W6 (by omega)
  have K9 : Keep h0 h6 [] := K4.wr W6 (Or.inr (by omega))
  have N6 := Fr.snoc X6 N0 (by omega : Z.heap.size ≤ b1)
  have V6' : Arv Z h6 b1 k1 .char (1 : Int32) [(.int (nar .char ((p1 &&& (65535 : Int32)).toUInt32.toUInt16.toUInt32.toInt32)))] (.int (0 : Int32)) := V6
  show own_G _ _ _ _ (T6.setTop (mkF m 37 #[.val (.int p0), .val (.int p1), .val (.int p2), .val (.int p3), .val (.int p4), .val (.int ((p1 &&& (65535 : Int32)).toUInt32.toUInt16.toUInt32.toInt32)), .val (.int ((p2 &&& (65535 : Int32)).toUInt32.toUInt16.toUInt32.toInt32)), .val (.int ((p3 &&& (65535 : Int32)).toUInt32.toUInt16.toUInt32.toInt32)), .val (.int ((p4 &&& (65535 : Int32)).toUInt32.toUInt16.toUInt32.toInt32)), .unset, .unset, .unset, .unset, .unset, .unset, .unset] [(.ref b1)]))
  refine own_st (fun _ k => XS.astore X6.here hx rfl (hb hby at_37) rfl rfl (l' := #[.val (.int p0), .val (.int p1), .val (.int p2), .val (.int p3), .val (.int p4), .val (.int ((p1 &&& (65535 : Int32)).toUInt32.toUInt16.toUInt32.toInt32)), .val (.int ((p2 &&& (65535 : Int32)).toUInt32.toUInt16.toUInt32.toInt32)), .val (.int ((p3 &&& (65535 : Int32)).toUInt32.toUInt16.toUInt32.toInt32)), .val (.int ((p4 &&& (65535 : Int32)).toUInt32.toUInt16.toUInt32.toInt32)), .val (.ref b1), .unset, .unset, .unset, .unset, .unset, .unset]) rfl k) ?_
  show own_G _ _ _ _ (T6.setTop (mkF m 39 #[.val (.int p0), .val (.int p1), .val (.int p2), .val (.int p3), .val (.int p4), .val (.int ((p1 &&& (65535 : Int32)).toUInt32.toUInt16.toUInt32.toInt32)), .val (.int ((p2 &&& (65535 : Int32)).toUInt32.toUInt16.toUInt32.toInt32)), .val (.int ((p3 &&& (65535 : Int32)).toUInt32.toUInt16.toUInt32.toInt32)), .val (.int ((p4 &&& (65535 : Int32)).toUInt32.toUInt16.toUInt32.toInt32)), .val (.ref b1), .unset, .unset, .unset, .unset, .unset, .unset] []))
  refine own_st (fun _ k => XS.iconst X6.here hx rfl (hb hby at_39) k) ?_
  show own_G _ _ _ _ (T6.setTop (mkF m 40 #[.val (.int p0), .val (.int p1), .val (.int p2), .val (.int p3), .val (.int p4), .val (.int ((p1 &&& (65535 : Int32)).toUInt32.toUInt16.toUInt32.toInt32)), .val (.int ((p2 &&& (65535 : Int32)).toUInt32.toUInt16.toUInt32.toInt32)), .val (.int ((p3 &&& (65535 : Int32)).toUInt32.toUInt16.toUInt32.toInt32)), .val (.int ((p4 &&& (65535 : Int32)).toUInt32.toUInt16.toUInt32.toInt32)), .val (.ref b1), .unset, .unset, .unset, .unset, .unset, .unset] [(.int (2 : Int32))]))
  obtain ⟨T10, h10, k10, X10, e10, E10, A10, st10⟩ := newP X6 hx hZ (hw _ (List.mem_of_getElem? (i := 1) rfl)) e6 (g := (mkF m 40 #[.val (.int p0), .val (.int p1), .val (.int p2), .val (.int p3), .val (.int p4), .val (.int ((p1 &&& (65535 : Int32)).toUInt32.toUInt16.toUInt32.toInt32)), .val (.int ((p2 &&& (65535 : Int32)).toUInt32.toUInt16.toUInt32.toInt32)), .val (.int ((p3 &&& (65535 : Int32)).toUInt32.toUInt16.toUInt32.toInt32)), .val (.int ((p4 &&& (65535 : Int32)).toUInt32.toUInt16.toUInt32.toInt32)), .val (.ref b1), .unset, .unset, .unset, .unset, .unset, .unset] [(.int (2 : Int32))])) rfl (hb hby at_40) rfl (by decide) (cap := 2) (by decide) (by decide) (by decide) (by decide)
  obtain ⟨b10, g10⟩ : ∃ z, z = h6.size := ⟨_, rfl⟩
  rw [← g10] at A10 st10
  refine own_st st10 ?_
  have z11 : h6.size ≤ h10.size := E10.1
  have O12 := Old.ext O8 E10
  have K13 : Keep h0 h10 [] := K9.ext E10
  have V10 : Arv Z h10 b10 k10 .char (2 : Int32) [(.int (0 : Int32)), (.int (0 : Int32))] (.int (0 : Int32)) := (Arv.new A10 (by decide)).pad (pad_rep [] (.int (0 : Int32)) 2)
  have lt10 := own_ltN A10.lt
  show own_G _ _ _ _ (T10.setTop (mkF m 42 #[.val (.int p0), .val (.int p1), .val (.int p2), .val (.int p3), .val (.int p4), .val (.int ((p1 &&& (65535 : Int32)).toUInt32.toUInt16.toUInt32.toInt32)), .val (.int ((p2 &&& (65535 : Int32)).toUInt32.toUInt16.toUInt32.toInt32)), .val (.int ((p3 &&& (65535 : Int32)).toUInt32.toUInt16.toUInt32.toInt32)), .val (.int ((p4 &&& (65535 : Int32)).toUInt32.toUInt16.toUInt32.toInt32)), .val (.ref b1), .unset, .unset, .unset, .unset, .unset, .unset] [(.ref b10)]))
  refine own_st (fun _ k => XS.dup X10.here hx rfl (hb hby at_42) rfl rfl k) ?_
  show own_G _ _ _ _ (T10.setTop (mkF m 43 #[.val (.int p0), .val (.int p1), .val (.int p2), .val (.int p3), .val (.int p4), .val (.int ((p1 &&& (65535 : Int32)).toUInt32.toUInt16.toUInt32.toInt32)), .val (.int ((p2 &&& (65535 : Int32)).toUInt32.toUInt16.toUInt32.toInt32)), .val (.int ((p3 &&& (65535 : Int32)).toUInt32.toUInt16.toUInt32.toInt32)), .val (.int ((p4 &&& (65535 : Int32)).toUInt32.toUInt16.toUInt32.toInt32)), .val (.ref b1), .unset, .unset, .unset, .unset, .unset, .unset] [(.ref b10), (.ref b10)]))
  refine own_st (fun _ k => XS.iconst X10.here hx rfl (hb hby at_43) k) ?_
  show own_G _ _ _ _ (T10.setTop (mkF m 44 #[.val (.int p0), .val (.int p1), .val (.int p2), .val (.int p3), .val (.int p4), .val (.int ((p1 &&& (65535 : Int32)).toUInt32.toUInt16.toUInt32.toInt32)), .val (.int ((p2 &&& (65535 : Int32)).toUInt32.toUInt16.toUInt32.toInt32)), .val (.int ((p3 &&& (65535 : Int32)).toUInt32.toUInt16.toUInt32.toInt32)), .val (.int ((p4 &&& (65535 : Int32)).toUInt32.toUInt16.toUInt32.toInt32)), .val (.ref b1), .unset, .unset, .unset, .unset, .unset, .unset] [(.int (0 : Int32)), (.ref b10), (.ref b10)]))
  refine own_st (fun _ k => XS.iload X10.here hx rfl (hb hby at_44) rfl k) ?_
  show own_G _ _ _ _ (T10.setTop (mkF m 46 #[.val (.int p0), .val (.int p1), .val (.int p2), .val (.int p3), .val (.int p4), .val (.int ((p1 &&& (65535 : Int32)).toUInt32.toUInt16.toUInt32.toInt32)), .val (.int ((p2 &&& (65535 : Int32)).toUInt32.toUInt16.toUInt32.toInt32)), .val (.int ((p3 &&& (65535 : Int32)).toUInt32.toUInt16.toUInt32.toInt32)), .val (.int ((p4 &&& (65535 : Int32)).toUInt32.toUInt16.toUInt32.toInt32)), .val (.ref b1), .unset, .unset, .unset, .unset, .unset, .unset] [(.int ((p1 &&& (65535 : Int32)).toUInt32.toUInt16.toUInt32.toInt32)), (.int (0 : Int32)), (.ref b10), (.ref b10)]))
  obtain ⟨cl14, Ar14, qk14, Sz14, Mz14, Hz14, Uz14⟩ := id V10
  obtain ⟨T15, h15, X15, e15, W15, st15⟩ := stC X10 hx hZ e10 Ar14 (j := (0 : Int32)) (inb_of Sz14 ⟨by decide, by decide⟩) (g := (mkF m 46 #[.val (.int p0), .val (.int p1), .val (.int p2), .val (.int p3), .val (.int p4), .val (.int ((p1 &&& (65535 : Int32)).toUInt32.toUInt16.toUInt32.toInt32)), .val (.int ((p2 &&& (65535 : Int32)).toUInt32.toUInt16.toUInt32.toInt32)), .val (.int ((p3 &&& (65535 : Int32)).toUInt32.toUInt16.toUInt32.toInt32)), .val (.int ((p4 &&& (65535 : Int32)).toUInt32.toUInt16.toUInt32.toInt32)), .val (.ref b1), .unset, .unset, .unset, .unset, .unset, .unset] [(.int ((p1 &&& (65535 : Int32)).toUInt32.toUInt16.toUInt32.toInt32)), (.int (0 : Int32)), (.ref b10), (.ref b10)])) rfl rfl (hb hby at_46)
  refine own_st st15 ?_
  have V15 := Arv.set Ar14 qk14 Sz14 Mz14 Hz14 Uz14 (fits_nar_char _) W15 0 rfl (Nat.le_of_ble_eq_true rfl)
  have z16 : h15.size = h10.size := W15.size
  have O17 := Old.wr O12 W15 (by omega)
  have K18 : Keep h0 h15 [] := K13.wr W15 (Or.inr (by omega))
  have N15 := Fr.snoc X15 N6 (by omega : Z.heap.size ≤ b10)
  have V15' : Arv Z h15 b10 k10 .char (2 : Int32) [(.int (nar .char ((p1 &&& (65535 : Int32)).toUInt32.toUInt16.toUInt32.toInt32))), (.int (0 : Int32))] (.int (0 : Int32)) := V15
  show own_G _ _ _ _ (T15.setTop (mkF m 47 #[.val (.int p0), .val (.int p1), .val (.int p2), .val (.int p3), .val (.int p4), .val (.int ((p1 &&& (65535 : Int32)).toUInt32.toUInt16.toUInt32.toInt32)), .val (.int ((p2 &&& (65535 : Int32)).toUInt32.toUInt16.toUInt32.toInt32)), .val (.int ((p3 &&& (65535 : Int32)).toUInt32.toUInt16.toUInt32.toInt32)), .val (.int ((p4 &&& (65535 : Int32)).toUInt32.toUInt16.toUInt32.toInt32)), .val (.ref b1), .unset, .unset, .unset, .unset, .unset, .unset] [(.ref b10)]))
  refine own_st (fun _ k => XS.dup X15.here hx rfl (hb hby at_47) rfl rfl k) ?_
  show own_G _ _ _ _ (T15.setTop (mkF m 48 #[.val (.int p0), .val (.int p1), .val (.int p2), .val (.int p3), .val (.int p4), .val (.int ((p1 &&& (65535 : Int32)).toUInt32.toUInt16.toUInt32.toInt32)), .val (.int ((p2 &&& (65535 : Int32)).toUInt32.toUInt16.toUInt32.toInt32)), .val (.int ((p3 &&& (65535 : Int32)).toUInt32.toUInt16.toUInt32.toInt32)), .val (.int ((p4 &&& (65535 : Int32)).toUInt32.toUInt16.toUInt32.toInt32)), .val (.ref b1), .unset, .unset, .unset, .unset, .unset, .unset] [(.ref b10), (.ref b10)]))
  refine own_st (fun _ k => XS.iconst X15.here hx rfl (hb hby at_48) k) ?_
  show own_G _ _ _ _ (T15.setTop (mkF m 49 #[.val (.int p0), .val (.int p1), .val (.int p2), .val (.int p3), .val (.int p4), .val (.int ((p1 &&& (65535 : Int32)).toUInt32.toUInt16.toUInt32.toInt32)), .val (.int ((p2 &&& (65535 : Int32)).toUInt32.toUInt16.toUInt32.toInt32)), .val (.int ((p3 &&& (65535 : Int32)).toUInt32.toUInt16.toUInt32.toInt32)), .val (.int ((p4 &&& (65535 : Int32)).toUInt32.toUInt16.toUInt32.toInt32)), .val (.ref b1), .unset, .unset, .unset, .unset, .unset, .unset] [(.int (1 : Int32)), (.ref b10), (.ref b10)]))
  refine own_st (fun _ k => XS.iload X15.here hx rfl (hb hby at_49) rfl k) ?_
  show own_G _ _ _ _ (T15.setTop (mkF m 51 #[.val (.int p0), .val (.int p1), .val (.int p2), .val (.int p3), .val (.int p4), .val (.int ((p1 &&& (65535 : Int32)).toUInt32.toUInt16.toUInt32.toInt32)), .val (.int ((p2 &&& (65535 : Int32)).toUInt32.toUInt16.toUInt32.toInt32)), .val (.int ((p3 &&& (65535 : Int32)).toUInt32.toUInt16.toUInt32.toInt32)), .val (.int ((p4 &&& (65535 : Int32)).toUInt32.toUInt16.toUInt32.toInt32)), .val (.ref b1), .unset, .unset, .unset, .unset, .unset, .unset] [(.int ((p2 &&& (65535 : Int32)).toUInt32.toUInt16.toUInt32.toInt32)), (.int (1 : Int32)), (.ref b10), (.ref b10)]))
  obtain ⟨cl19, Ar19, qk19, Sz19, Mz19, Hz19, Uz19⟩ := id V15'
  obtain ⟨T20, h20, X20, e20, W20, st20⟩ := stC X15 hx hZ e15 Ar19 (j := (1 : Int32)) (inb_of Sz19 ⟨by decide, by decide⟩) (g := (mkF m 51 #[.val (.int p0), .val (.int p1), .val (.int p2), .val (.int p3), .val (.int p4), .val (.int ((p1 &&& (65535 : Int32)).toUInt32.toUInt16.toUInt32.toInt32)), .val (.int ((p2 &&& (65535 : Int32)).toUInt32.toUInt16.toUInt32.toInt32)), .val (.int ((p3 &&& (65535 : Int32)).toUInt32.toUInt16.toUInt32.toInt32)), .val (.int ((p4 &&& (65535 : Int32)).toUInt32.toUInt16.toUInt32.toInt32)), .val (.ref b1), .unset, .unset, .unset, .unset, .unset, .unset] [(.int ((p2 &&& (65535 : Int32)).toUInt32.toUInt16.toUInt32.toInt32)), (.int (1 : Int32)), (.ref b10), (.ref b10)])) rfl rfl (hb hby at_51)
  refine own_st st20 ?_
  have V20 := Arv.set Ar19 qk19 Sz19 Mz19 Hz19 Uz19 (fits_nar_char _) W20 1 rfl (Nat.le_of_ble_eq_true rfl)
  have z21 : h20.size = h15.size := W20.size
  have O22 := Old.wr O17 W20 (by omega)
  have K23 : Keep h0 h20 [] := K18.wr W20 (Or.inr (by omega))
  have N20 := Fr.snoc X20 N15 (by omega : Z.heap.size ≤ b10)
  have V20' : Arv Z h20 b10 k10 .char (2 : Int32) [(.int (nar .char ((p1 &&& (65535 : Int32)).toUInt32.toUInt16.toUInt32.toInt32))), (.int (nar .char ((p2 &&& (65535 : Int32)).toUInt32.toUInt16.toUInt32.toInt32)))] (.int (0 : Int32)) := V20
  show own_G _ _ _ _ (T20.setTop (mkF m 52 #[.val (.int p0), .val (.int p1), .val (.int p2), .val (.int p3), .val (.int p4), .val (.int ((p1 &&& (65535 : Int32)).toUInt32.toUInt16.toUInt32.toInt32)), .val (.int ((p2 &&& (65535 : Int32)).toUInt32.toUInt16.toUInt32.toInt32)), .val (.int ((p3 &&& (65535 : Int32)).toUInt32.toUInt16.toUInt32.toInt32)), .val (.int ((p4 &&& (65535 : Int32)).toUInt32.toUInt16.toUInt32.toInt32)), .val (.ref b1), .unset, .unset, .unset, .unset, .unset, .unset] [(.ref b10)]))
  refine own_st (fun _ k => XS.astore X20.here hx rfl (hb hby at_52) rfl rfl (l' := #[.val (.int p0), .val (.int p1), .val (.int p2), .val (.int p3), .val (.int p4), .val (.int ((p1 &&& (65535 : Int32)).toUInt32.toUInt16.toUInt32.toInt32)), .val (.int ((p2 &&& (65535 : Int32)).toUInt32.toUInt16.toUInt32.toInt32)), .val (.int ((p3 &&& (65535 : Int32)).toUInt32.toUInt16.toUInt32.toInt32)), .val (.int ((p4 &&& (65535 : Int32)).toUInt32.toUInt16.toUInt32.toInt32)), .val (.ref b1), .val (.ref b10), .unset, .unset, .unset, .unset, .unset]) rfl k) ?_
  show own_G _ _ _ _ (T20.setTop (mkF m 54 #[.val (.int p0), .val (.int p1), .val (.int p2), .val (.int p3), .val (.int p4), .val (.int ((p1 &&& (65535 : Int32)).toUInt32.toUInt16.toUInt32.toInt32)), .val (.int ((p2 &&& (65535 : Int32)).toUInt32.toUInt16.toUInt32.toInt32)), .val (.int ((p3 &&& (65535 : Int32)).toUInt32.toUInt16.toUInt32.toInt32)), .val (.int ((p4 &&& (65535 : Int32)).toUInt32.toUInt16.toUInt32.toInt32)), .val (.ref b1), .val (.ref b10), .unset, .unset, .unset, .unset, .unset] []))
  refine own_st (fun _ k => XS.iconst X20.here hx rfl (hb hby at_54) k) ?_
  show own_G _ _ _ _ (T20.setTop (mkF m 55 #[.val (.int p0), .val (.int p1), .val (.int p2), .val (.int p3), .val (.int p4), .val (.int ((p1 &&& (65535 : Int32)).toUInt32.toUInt16.toUInt32.toInt32)), .val (.int ((p2 &&& (65535 : Int32)).toUInt32.toUInt16.toUInt32.toInt32)), .val (.int ((p3 &&& (65535 : Int32)).toUInt32.toUInt16.toUInt32.toInt32)), .val (.int ((p4 &&& (65535 : Int32)).toUInt32.toUInt16.toUInt32.toInt32)), .val (.ref b1), .val (.ref b10), .unset, .unset, .unset, .unset, .unset] [(.int (3 : Int32))]))
  obtain ⟨T24, h24, k24, X24, e24, E24, A24, st24⟩ := newP X20 hx hZ (hw _ (List.mem_of_getElem? (i := 1) rfl)) e20 (g := (mkF m 55 #[.val (.int p0), .val (.int p1), .val (.int p2), .val (.int p3), .val (.int p4), .val (.int ((p1 &&& (65535 : Int32)).toUInt32.toUInt16.toUInt32.toInt32)), .val (.int ((p2 &&& (65535 : Int32)).toUInt32.toUInt16.toUInt32.toInt32)), .val (.int ((p3 &&& (65535 : Int32)).toUInt32.toUInt16.toUInt32.toInt32)), .val (.int ((p4 &&& (65535 : Int32)).toUInt32.toUInt16.toUInt32.toInt32)), .val (.ref b1), .val (.ref b10), .unset, .unset, .unset, .unset, .unset] [(.int (3 : Int32))])) rfl (hb hby at_55) rfl (by decide) (cap := 3) (by decide) (by decide) (by decide) (by decide)
  obtain ⟨b24, g24⟩ : ∃ z, z = h20.size := ⟨_, rfl⟩
  rw [← g24] at A24 st24
  refine own_st st24 ?_
  have z25 : h20.size ≤ h24.size := E24.1
  have O26 := Old.ext O22 E24
  have K27 : Keep h0 h24 [] := K23.ext E24
  have V24 : Arv Z h24 b24 k24 .char (3 : Int32) [(.int (0 : Int32)), (.int (0 : Int32)), (.int (0 : Int32))] (.int (0 : Int32)) := (Arv.new A24 (by decide)).pad (pad_rep [] (.int (0 : Int32)) 3)
  have lt24 := own_ltN A24.lt
  show own_G _ _ _ _ (T24.setTop (mkF m 57 #[.val (.int p0), .val (.int p1), .val (.int p2), .val (.int p3), .val (.int p4), .val (.int ((p1 &&& (65535 : Int32)).toUInt32.toUInt16.toUInt32.toInt32)), .val (.int ((p2 &&& (65535 : Int32)).toUInt32.toUInt16.toUInt32.toInt32)), .val (.int ((p3 &&& (65535 : Int32)).toUInt32.toUInt16.toUInt32.toInt32)), .val (.int ((p4 &&& (65535 : Int32)).toUInt32.toUInt16.toUInt32.toInt32)), .val (.ref b1), .val (.ref b10), .unset, .unset, .unset, .unset, .unset] [(.ref b24)]))
  refine own_st (fun _ k => XS.dup X24.here hx rfl (hb hby at_57) rfl rfl k) ?_
  show own_G _ _ _ _ (T24.setTop (mkF m 58 #[.val (.int p0), .val (.int p1), .val (.int p2), .val (.int p3), .val (.int p4), .val (.int ((p1 &&& (65535 : Int32)).toUInt32.toUInt16.toUInt32.toInt32)), .val (.int ((p2 &&& (65535 : Int32)).toUInt32.toUInt16.toUInt32.toInt32)), .val (.int ((p3 &&& (65535 : Int32)).toUInt32.toUInt16.toUInt32.toInt32)), .val (.int ((p4 &&& (65535 : Int32)).toUInt32.toUInt16.toUInt32.toInt32)), .val (.ref b1), .val (.ref b10), .unset, .unset, .unset, .unset, .unset] [(.ref b24), (.ref b24)]))
  refine own_st (fun _ k => XS.iconst X24.here hx rfl (hb hby at_58) k) ?_
  show own_G _ _ _ _ (T24.setTop (mkF m 59 #[.val (.int p0), .val (.int p1), .val (.int p2), .val (.int p3), .val (.int p4), .val (.int ((p1 &&& (65535 : Int32)).toUInt32.toUInt16.toUInt32.toInt32)), .val (.int ((p2 &&& (65535 : Int32)).toUInt32.toUInt16.toUInt32.toInt32)), .val (.int ((p3 &&& (65535 : Int32)).toUInt32.toUInt16.toUInt32.toInt32)), .val (.int ((p4 &&& (65535 : Int32)).toUInt32.toUInt16.toUInt32.toInt32)), .val (.ref b1), .val (.ref b10), .unset, .unset, .unset, .unset, .unset] [(.int (0 : Int32)), (.ref b24), (.ref b24)]))
  refine own_st (fun _ k => XS.iload X24.here hx rfl (hb hby at_59) rfl k) ?_
  show own_G _ _ _ _ (T24.setTop (mkF m 61 #[.val (.int p0), .val (.int p1), .val (.int p2), .val (.int p3), .val (.int p4), .val (.int ((p1 &&& (65535 : Int32)).toUInt32.toUInt16.toUInt32.toInt32)), .val (.int ((p2 &&& (65535 : Int32)).toUInt32.toUInt16.toUInt32.toInt32)), .val (.int ((p3 &&& (65535 : Int32)).toUInt32.toUInt16.toUInt32.toInt32)), .val (.int ((p4 &&& (65535 : Int32)).toUInt32.toUInt16.toUInt32.toInt32)), .val (.ref b1), .val (.ref b10), .unset, .unset, .unset, .unset, .unset] [(.int ((p1 &&& (65535 : Int32)).toUInt32.toUInt16.toUInt32.toInt32)), (.int (0 : Int32)), (.ref b24), (.ref b24)]))
  obtain ⟨cl28, Ar28, qk28, Sz28, Mz28, Hz28, Uz28⟩ := id V24
  obtain ⟨T29, h29, X29, e29, W29, st29⟩ := stC X24 hx hZ e24 Ar28 (j := (0 : Int32)) (inb_of Sz28 ⟨by decide, by decide⟩) (g := (mkF m 61 #[.val (.int p0), .val (.int p1), .val (.int p2), .val (.int p3), .val (.int p4), .val (.int ((p1 &&& (65535 : Int32)).toUInt32.toUInt16.toUInt32.toInt32)), .val (.int ((p2 &&& (65535 : Int32)).toUInt32.toUInt16.toUInt32.toInt32)), .val (.int ((p3 &&& (65535 : Int32)).toUInt32.toUInt16.toUInt32.toInt32)), .val (.int ((p4 &&& (65535 : Int32)).toUInt32.toUInt16.toUInt32.toInt32)), .val (.ref b1), .val (.ref b10), .unset, .unset, .unset, .unset, .unset] [(.int ((p1 &&& (65535 : Int32)).toUInt32.toUInt16.toUInt32.toInt32)), (.int (0 : Int32)), (.ref b24), (.ref b24)])) rfl rfl (hb hby at_61)
  refine own_st st29 ?_
  have V29 := Arv.set Ar28 qk28 Sz28 Mz28 Hz28 Uz28 (fits_nar_char _) W29 0 rfl (Nat.le_of_ble_eq_true rfl)
  have z30 : h29.size = h24.size := W29.size
  have O31 := Old.wr O26 W29 (by omega)
  have K32 : Keep h0 h29 [] := K27.wr W29 (Or.inr (by omega))
  have N29 := Fr.snoc X29 N20 (by omega : Z.heap.size ≤ b24)
  have V29' : Arv Z h29 b24 k24 .char (3 : Int32) [(.int (nar .char ((p1 &&& (65535 : Int32)).toUInt32.toUInt16.toUInt32.toInt32))), (.int (0 : Int32)), (.int (0 : Int32))] (.int (0 : Int32)) := V29
  show own_G _ _ _ _ (T29.setTop (mkF m 62 #[.val (.int p0), .val (.int p1), .val (.int p2), .val (.int p3), .val (.int p4), .val (.int ((p1 &&& (65535 : Int32)).toUInt32.toUInt16.toUInt32.toInt32)), .val (.int ((p2 &&& (65535 : Int32)).toUInt32.toUInt16.toUInt32.toInt32)), .val (.int ((p3 &&& (65535 : Int32)).toUInt32.toUInt16.toUInt32.toInt32)), .val (.int ((p4 &&& (65535 : Int32)).toUInt32.toUInt16.toUInt32.toInt32)), .val (.ref b1), .val (.ref b10), .unset, .unset, .unset, .unset, .unset] [(.ref b24)]))
  refine own_st (fun _ k => XS.dup X29.here hx rfl (hb hby at_62) rfl rfl k) ?_
  show own_G _ _ _ _ (T29.setTop (mkF m 63 #[.val (.int p0), .val (.int p1), .val (.int p2), .val (.int p3), .val (.int p4), .val (.int ((p1 &&& (65535 : Int32)).toUInt32.toUInt16.toUInt32.toInt32)), .val (.int ((p2 &&& (65535 : Int32)).toUInt32.toUInt16.toUInt32.toInt32)), .val (.int ((p3 &&& (65535 : Int32)).toUInt32.toUInt16.toUInt32.toInt32)), .val (.int ((p4 &&& (65535 : Int32)).toUInt32.toUInt16.toUInt32.toInt32)), .val (.ref b1), .val (.ref b10), .unset, .unset, .unset, .unset, .unset] [(.ref b24), (.ref b24)]))
  refine own_st (fun _ k => XS.iconst X29.here hx rfl (hb hby at_63) k) ?_
  show own_G _ _ _ _ (T29.setTop (mkF m 64 #[.val (.int p0), .val (.int p1), .val (.int p2), .val (.int p3), .val (.int p4), .val (.int ((p1 &&& (65535 : Int32)).toUInt32.toUInt16.toUInt32.toInt32)), .val (.int ((p2 &&& (65535 : Int32)).toUInt32.toUInt16.toUInt32.toInt32)), .val (.int ((p3 &&& (65535 : Int32)).toUInt32.toUInt16.toUInt32.toInt32)), .val (.int ((p4 &&& (65535 : Int32)).toUInt32.toUInt16.toUInt32.toInt32)), .val (.ref b1), .val (.ref b10), .unset, .unset, .unset, .unset, .unset] [(.int (1 : Int32)), (.ref b24), (.ref b24)]))
  refine own_st (fun _ k => XS.iload X29.here hx rfl (hb hby at_64) rfl k) ?_
  show own_G _ _ _ _ (T29.setTop (mkF m 66 #[.val (.int p0), .val (.int p1), .val (.int p2), .val (.int p3), .val (.int p4), .val (.int ((p1 &&& (65535 : Int32)).toUInt32.toUInt16.toUInt32.toInt32)), .val (.int ((p2 &&& (65535 : Int32)).toUInt32.toUInt16.toUInt32.toInt32)), .val (.int ((p3 &&& (65535 : Int32)).toUInt32.toUInt16.toUInt32.toInt32)), .val (.int ((p4 &&& (65535 : Int32)).toUInt32.toUInt16.toUInt32.toInt32)), .val (.ref b1), .val (.ref b10), .unset, .unset, .unset, .unset, .unset] [(.int ((p2 &&& (65535 : Int32)).toUInt32.toUInt16.toUInt32.toInt32)), (.int (1 : Int32)), (.ref b24), (.ref b24)]))
  obtain ⟨cl33, Ar33, qk33, Sz33, Mz33, Hz33, Uz33⟩ := id V29'
  obtain ⟨T34, h34, X34, e34, W34, st34⟩ := stC X29 hx hZ e29 Ar33 (j := (1 : Int32)) (inb_of Sz33 ⟨by decide, by decide⟩) (g := (mkF m 66 #[.val (.int p0), .val (.int p1), .val (.int p2), .val (.int p3), .val (.int p4), .val (.int ((p1 &&& (65535 : Int32)).toUInt32.toUInt16.toUInt32.toInt32)), .val (.int ((p2 &&& (65535 : Int32)).toUInt32.toUInt16.toUInt32.toInt32)), .val (.int ((p3 &&& (65535 : Int32)).toUInt32.toUInt16.toUInt32.toInt32)), .val (.int ((p4 &&& (65535 : Int32)).toUInt32.toUInt16.toUInt32.toInt32)), .val (.ref b1), .val (.ref b10), .unset, .unset, .unset, .unset, .unset] [(.int ((p2 &&& (65535 : Int32)).toUInt32.toUInt16.toUInt32.toInt32)), (.int (1 : Int32)), (.ref b24), (.ref b24)])) rfl rfl (hb hby at_66)
  refine own_st st34 ?_
  have V34 := Arv.set Ar33 qk33 Sz33 Mz33 Hz33 Uz33 (fits_nar_char _) W34 1 rfl (Nat.le_of_ble_eq_true rfl)
  have z35 : h34.size = h29.size := W34.size
  have O36 := Old.wr O31 W34 (by omega)
  have K37 : Keep h0 h34 [] := K32.wr W34 (Or.inr (by omega))
  have N34 := Fr.snoc X34 N29 (by omega : Z.heap.size ≤ b24)
  have V34' : Arv Z h34 b24 k24 .char (3 : Int32) [(.int (nar .char ((p1 &&& (65535 : Int32)).toUInt32.toUInt16.toUInt32.toInt32))), (.int (nar .char ((p2 &&& (65535 : Int32)).toUInt32.toUInt16.toUInt32.toInt32))), (.int (0 : Int32))] (.int (0 : Int32)) := V34
  show own_G _ _ _ _ (T34.setTop (mkF m 67 #[.val (.int p0), .val (.int p1), .val (.int p2), .val (.int p3), .val (.int p4), .val (.int ((p1 &&& (65535 : Int32)).toUInt32.toUInt16.toUInt32.toInt32)), .val (.int ((p2 &&& (65535 : Int32)).toUInt32.toUInt16.toUInt32.toInt32)), .val (.int ((p3 &&& (65535 : Int32)).toUInt32.toUInt16.toUInt32.toInt32)), .val (.int ((p4 &&& (65535 : Int32)).toUInt32.toUInt16.toUInt32.toInt32)), .val (.ref b1), .val (.ref b10), .unset, .unset, .unset, .unset, .unset] [(.ref b24)]))
  refine own_st (fun _ k => XS.dup X34.here hx rfl (hb hby at_67) rfl rfl k) ?_
  show own_G _ _ _ _ (T34.setTop (mkF m 68 #[.val (.int p0), .val (.int p1), .val (.int p2), .val (.int p3), .val (.int p4), .val (.int ((p1 &&& (65535 : Int32)).toUInt32.toUInt16.toUInt32.toInt32)), .val (.int ((p2 &&& (65535 : Int32)).toUInt32.toUInt16.toUInt32.toInt32)), .val (.int ((p3 &&& (65535 : Int32)).toUInt32.toUInt16.toUInt32.toInt32)), .val (.int ((p4 &&& (65535 : Int32)).toUInt32.toUInt16.toUInt32.toInt32)), .val (.ref b1), .val (.ref b10), .unset, .unset, .unset, .unset, .unset] [(.ref b24), (.ref b24)]))
  refine own_st (fun _ k => XS.iconst X34.here hx rfl (hb hby at_68) k) ?_
  show own_G _ _ _ _ (T34.setTop (mkF m 69 #[.val (.int p0), .val (.int p1), .val (.int p2), .val (.int p3), .val (.int p4), .val (.int ((p1 &&& (65535 : Int32)).toUInt32.toUInt16.toUInt32.toInt32)), .val (.int ((p2 &&& (65535 : Int32)).toUInt32.toUInt16.toUInt32.toInt32)), .val (.int ((p3 &&& (65535 : Int32)).toUInt32.toUInt16.toUInt32.toInt32)), .val (.int ((p4 &&& (65535 : Int32)).toUInt32.toUInt16.toUInt32.toInt32)), .val (.ref b1), .val (.ref b10), .unset, .unset, .unset, .unset, .unset] [(.int (2 : Int32)), (.ref b24), (.ref b24)]))
  refine own_st (fun _ k => XS.iload X34.here hx rfl (hb hby at_69) rfl k) ?_
  show own_G _ _ _ _ (T34.setTop (mkF m 71 #[.val (.int p0), .val (.int p1), .val (.int p2), .val (.int p3), .val (.int p4), .val (.int ((p1 &&& (65535 : Int32)).toUInt32.toUInt16.toUInt32.toInt32)), .val (.int ((p2 &&& (65535 : Int32)).toUInt32.toUInt16.toUInt32.toInt32)), .val (.int ((p3 &&& (65535 : Int32)).toUInt32.toUInt16.toUInt32.toInt32)), .val (.int ((p4 &&& (65535 : Int32)).toUInt32.toUInt16.toUInt32.toInt32)), .val (.ref b1), .val (.ref b10), .unset, .unset, .unset, .unset, .unset] [(.int ((p3 &&& (65535 : Int32)).toUInt32.toUInt16.toUInt32.toInt32)), (.int (2 : Int32)), (.ref b24), (.ref b24)]))
  obtain ⟨cl38, Ar38, qk38, Sz38, Mz38, Hz38, Uz38⟩ := id V34'
  obtain ⟨T39, h39, X39, e39, W39, st39⟩ := stC X34 hx hZ e34 Ar38 (j := (2 : Int32)) (inb_of Sz38 ⟨by decide, by decide⟩) (g := (mkF m 71 #[.val (.int p0), .val (.int p1), .val (.int p2), .val (.int p3), .val (.int p4), .val (.int ((p1 &&& (65535 : Int32)).toUInt32.toUInt16.toUInt32.toInt32)), .val (.int ((p2 &&& (65535 : Int32)).toUInt32.toUInt16.toUInt32.toInt32)), .val (.int ((p3 &&& (65535 : Int32)).toUInt32.toUInt16.toUInt32.toInt32)), .val (.int ((p4 &&& (65535 : Int32)).toUInt32.toUInt16.toUInt32.toInt32)), .val (.ref b1), .val (.ref b10), .unset, .unset, .unset, .unset, .unset] [(.int ((p3 &&& (65535 : Int32)).toUInt32.toUInt16.toUInt32.toInt32)), (.int (2 : Int32)), (.ref b24), (.ref b24)])) rfl rfl (hb hby at_71)
  refine own_st st39 ?_
  have V39 := Arv.set Ar38 qk38 Sz38 Mz38 Hz38 Uz38 (fits_nar_char _) W39 2 rfl (Nat.le_of_ble_eq_true rfl)
  have z40 : h39.size = h34.size := W39.size
  have O41 := Old.wr O36 W39 (by omega)
  have K42 : Keep h0 h39 [] := K37.wr W39 (Or.inr (by omega))
  have N39 := Fr.snoc X39 N34 (by omega : Z.heap.size ≤ b24)
  have V39' : Arv Z h39 b24 k24 .char (3 : Int32) [(.int (nar .char ((p1 &&& (65535 : Int32)).toUInt32.toUInt16.toUInt32.toInt32))), (.int (nar .char ((p2 &&& (65535 : Int32)).toUInt32.toUInt16.toUInt32.toInt32))), (.int (nar .char ((p3 &&& (65535 : Int32)).toUInt32.toUInt16.toUInt32.toInt32)))] (.int (0 : Int32)) := V39
  show own_G _ _ _ _ (T39.setTop (mkF m 72 #[.val (.int p0), .val (.int p1), .val (.int p2), .val (.int p3), .val (.int p4), .val (.int ((p1 &&& (65535 : Int32)).toUInt32.toUInt16.toUInt32.toInt32)), .val (.int ((p2 &&& (65535 : Int32)).toUInt32.toUInt16.toUInt32.toInt32)), .val (.int ((p3 &&& (65535 : Int32)).toUInt32.toUInt16.toUInt32.toInt32)), .val (.int ((p4 &&& (65535 : Int32)).toUInt32.toUInt16.toUInt32.toInt32)), .val (.ref b1), .val (.ref b10), .unset, .unset, .unset, .unset, .unset] [(.ref b24)]))
  refine own_st (fun _ k => XS.astore X39.here hx rfl (hb hby at_72) rfl rfl (l' := #[.val (.int p0), .val (.int p1), .val (.int p2), .val (.int p3), .val (.int p4), .val (.int ((p1 &&& (65535 : Int32)).toUInt32.toUInt16.toUInt32.toInt32)), .val (.int ((p2 &&& (65535 : Int32)).toUInt32.toUInt16.toUInt32.toInt32)), .val (.int ((p3 &&& (65535 : Int32)).toUInt32.toUInt16.toUInt32.toInt32)), .val (.int ((p4 &&& (65535 : Int32)).toUInt32.toUInt16.toUInt32.toInt32)), .val (.ref b1), .val (.ref b10), .val (.ref b24), .unset, .unset, .unset, .unset]) rfl k) ?_
  show own_G _ _ _ _ (T39.setTop (mkF m 74 #[.val (.int p0), .val (.int p1), .val (.int p2), .val (.int p3), .val (.int p4), .val (.int ((p1 &&& (65535 : Int32)).toUInt32.toUInt16.toUInt32.toInt32)), .val (.int ((p2 &&& (65535 : Int32)).toUInt32.toUInt16.toUInt32.toInt32)), .val (.int ((p3 &&& (65535 : Int32)).toUInt32.toUInt16.toUInt32.toInt32)), .val (.int ((p4 &&& (65535 : Int32)).toUInt32.toUInt16.toUInt32.toInt32)), .val (.ref b1), .val (.ref b10), .val (.ref b24), .unset, .unset, .unset, .unset] []))
  refine own_st (fun _ k => XS.iconst X39.here hx rfl (hb hby at_74) k) ?_
  show own_G _ _ _ _ (T39.setTop (mkF m 75 #[.val (.int p0), .val (.int p1), .val (.int p2), .val (.int p3), .val (.int p4), .val (.int ((p1 &&& (65535 : Int32)).toUInt32.toUInt16.toUInt32.toInt32)), .val (.int ((p2 &&& (65535 : Int32)).toUInt32.toUInt16.toUInt32.toInt32)), .val (.int ((p3 &&& (65535 : Int32)).toUInt32.toUInt16.toUInt32.toInt32)), .val (.int ((p4 &&& (65535 : Int32)).toUInt32.toUInt16.toUInt32.toInt32)), .val (.ref b1), .val (.ref b10), .val (.ref b24), .unset, .unset, .unset, .unset] [(.int (4 : Int32))]))
  obtain ⟨T43, h43, k43, X43, e43, E43, A43, st43⟩ := newP X39 hx hZ (hw _ (List.mem_of_getElem? (i := 1) rfl)) e39 (g := (mkF m 75 #[.val (.int p0), .val (.int p1), .val (.int p2), .val (.int p3), .val (.int p4), .val (.int ((p1 &&& (65535 : Int32)).toUInt32.toUInt16.toUInt32.toInt32)), .val (.int ((p2 &&& (65535 : Int32)).toUInt32.toUInt16.toUInt32.toInt32)), .val (.int ((p3 &&& (65535 : Int32)).toUInt32.toUInt16.toUInt32.toInt32)), .val (.int ((p4 &&& (65535 : Int32)).toUInt32.toUInt16.toUInt32.toInt32)), .val (.ref b1), .val (.ref b10), .val (.ref b24), .unset, .unset, .unset, .unset] [(.int (4 : Int32))])) rfl (hb hby at_75) rfl (by decide) (cap := 4) (by decide) (by decide) (by decide) (by decide)
  obtain ⟨b43, g43⟩ : ∃ z, z = h39.size := ⟨_, rfl⟩
  rw [← g43] at A43 st43
  refine own_st st43 ?_
  have z44 : h39.size ≤ h43.size := E43.1
  have O45 := Old.ext O41 E43
  have K46 : Keep h0 h43 [] := K42.ext E43
  have V43 : Arv Z h43 b43 k43 .char (4 : Int32) [(.int (0 : Int32)), (.int (0 : Int32)), (.int (0 : Int32)), (.int (0 : Int32))] (.int (0 : Int32)) := (Arv.new A43 (by decide)).pad (pad_rep [] (.int (0 : Int32)) 4)
  have lt43 := own_ltN A43.lt
  show own_G _ _ _ _ (T43.setTop (mkF m 77 #[.val (.int p0), .val (.int p1), .val (.int p2), .val (.int p3), .val (.int p4), .val (.int ((p1 &&& (65535 : Int32)).toUInt32.toUInt16.toUInt32.toInt32)), .val (.int ((p2 &&& (65535 : Int32)).toUInt32.toUInt16.toUInt32.toInt32)), .val (.int ((p3 &&& (65535 : Int32)).toUInt32.toUInt16.toUInt32.toInt32)), .val (.int ((p4 &&& (65535 : Int32)).toUInt32.toUInt16.toUInt32.toInt32)), .val (.ref b1), .val (.ref b10), .val (.ref b24), .unset, .unset, .unset, .unset] [(.ref b43)]))
  refine own_st (fun _ k => XS.dup X43.here hx rfl (hb hby at_77) rfl rfl k) ?_
  show own_G _ _ _ _ (T43.setTop (mkF m 78 #[.val (.int p0), .val (.int p1), .val (.int p2), .val (.int p3), .val (.int p4), .val (.int ((p1 &&& (65535 : Int32)).toUInt32.toUInt16.toUInt32.toInt32)), .val (.int ((p2 &&& (65535 : Int32)).toUInt32.toUInt16.toUInt32.toInt32)), .val (.int ((p3 &&& (65535 : Int32)).toUInt32.toUInt16.toUInt32.toInt32)), .val (.int ((p4 &&& (65535 : Int32)).toUInt32.toUInt16.toUInt32.toInt32)), .val (.ref b1), .val (.ref b10), .val (.ref b24), .unset, .unset, .unset, .unset] [(.ref b43), (.ref b43)]))
  refine own_st (fun _ k => XS.iconst X43.here hx rfl (hb hby at_78) k) ?_
  show own_G _ _ _ _ (T43.setTop (mkF m 79 #[.val (.int p0), .val (.int p1), .val (.int p2), .val (.int p3), .val (.int p4), .val (.int ((p1 &&& (65535 : Int32)).toUInt32.toUInt16.toUInt32.toInt32)), .val (.int ((p2 &&& (65535 : Int32)).toUInt32.toUInt16.toUInt32.toInt32)), .val (.int ((p3 &&& (65535 : Int32)).toUInt32.toUInt16.toUInt32.toInt32)), .val (.int ((p4 &&& (65535 : Int32)).toUInt32.toUInt16.toUInt32.toInt32)), .val (.ref b1), .val (.ref b10), .val (.ref b24), .unset, .unset, .unset, .unset] [(.int (0 : Int32)), (.ref b43), (.ref b43)]))
  refine own_st (fun _ k => XS.iload X43.here hx rfl (hb hby at_79) rfl k) ?_
  show own_G _ _ _ _ (T43.setTop (mkF m 81 #[.val (.int p0), .val (.int p1), .val (.int p2), .val (.int p3), .val (.int p4), .val (.int ((p1 &&& (65535 : Int32)).toUInt32.toUInt16.toUInt32.toInt32)), .val (.int ((p2 &&& (65535 : Int32)).toUInt32.toUInt16.toUInt32.toInt32)), .val (.int ((p3 &&& (65535 : Int32)).toUInt32.toUInt16.toUInt32.toInt32)), .val (.int ((p4 &&& (65535 : Int32)).toUInt32.toUInt16.toUInt32.toInt32)), .val (.ref b1), .val (.ref b10), .val (.ref b24), .unset, .unset, .unset, .unset] [(.int ((p1 &&& (65535 : Int32)).toUInt32.toUInt16.toUInt32.toInt32)), (.int (0 : Int32)), (.ref b43), (.ref b43)]))
  obtain ⟨cl47, Ar47, qk47, Sz47, Mz47, Hz47, Uz47⟩ := id V43
  obtain ⟨T48, h48, X48, e48, W48, st48⟩ := stC X43 hx hZ e43 Ar47 (j := (0 : Int32)) (inb_of Sz47 ⟨by decide, by decide⟩) (g := (mkF m 81 #[.val (.int p0), .val (.int p1), .val (.int p2), .val (.int p3), .val (.int p4), .val (.int ((p1 &&& (65535 : Int32)).toUInt32.toUInt16.toUInt32.toInt32)), .val (.int ((p2 &&& (65535 : Int32)).toUInt32.toUInt16.toUInt32.toInt32)), .val (.int ((p3 &&& (65535 : Int32)).toUInt32.toUInt16.toUInt32.toInt32)), .val (.int ((p4 &&& (65535 : Int32)).toUInt32.toUInt16.toUInt32.toInt32)), .val (.ref b1), .val (.ref b10), .val (.ref b24), .unset, .unset, .unset, .unset] [(.int ((p1 &&& (65535 : Int32)).toUInt32.toUInt16.toUInt32.toInt32)), (.int (0 : Int32)), (.ref b43), (.ref b43)])) rfl rfl (hb hby at_81)
  refine own_st st48 ?_
  have V48 := Arv.set Ar47 qk47 Sz47 Mz47 Hz47 Uz47 (fits_nar_char _) W48 0 rfl (Nat.le_of_ble_eq_true rfl)
  have z49 : h48.size = h43.size := W48.size
  have O50 := Old.wr O45 W48 (by omega)
  have K51 : Keep h0 h48 [] := K46.wr W48 (Or.inr (by omega))
  have N48 := Fr.snoc X48 N39 (by omega : Z.heap.size ≤ b43)
  have V48' : Arv Z h48 b43 k43 .char (4 : Int32) [(.int (nar .char ((p1 &&& (65535 : Int32)).toUInt32.toUInt16.toUInt32.toInt32))), (.int (0 : Int32)), (.int (0 : Int32)), (.int (0 : Int32))] (.int (0 : Int32)) := V48
  show own_G _ _ _ _ (T48.setTop (mkF m 82 #[.val (.int p0), .val (.int p1), .val (.int p2), .val (.int p3), .val (.int p4), .val (.int ((p1 &&& (65535 : Int32)).toUInt32.toUInt16.toUInt32.toInt32)), .val (.int ((p2 &&& (65535 : Int32)).toUInt32.toUInt16.toUInt32.toInt32)), .val (.int ((p3 &&& (65535 : Int32)).toUInt32.toUInt16.toUInt32.toInt32)), .val (.int ((p4 &&& (65535 : Int32)).toUInt32.toUInt16.toUInt32.toInt32)), .val (.ref b1), .val (.ref b10), .val (.ref b24), .unset, .unset, .unset, .unset] [(.ref b43)]))
  refine own_st (fun _ k => XS.dup X48.here hx rfl (hb hby at_82) rfl rfl k) ?_
  show own_G _ _ _ _ (T48.setTop (mkF m 83 #[.val (.int p0), .val (.int p1), .val (.int p2), .val (.int p3), .val (.int p4), .val (.int ((p1 &&& (65535 : Int32)).toUInt32.toUInt16.toUInt32.toInt32)), .val (.int ((p2 &&& (65535 : Int32)).toUInt32.toUInt16.toUInt32.toInt32)), .val (.int ((p3 &&& (65535 : Int32)).toUInt32.toUInt16.toUInt32.toInt32)), .val (.int ((p4 &&& (65535 : Int32)).toUInt32.toUInt16.toUInt32.toInt32)), .val (.ref b1), .val (.ref b10), .val (.ref b24), .unset, .unset, .unset, .unset] [(.ref b43), (.ref b43)]))
  refine own_st (fun _ k => XS.iconst X48.here hx rfl (hb hby at_83) k) ?_
  show own_G _ _ _ _ (T48.setTop (mkF m 84 #[.val (.int p0), .val (.int p1), .val (.int p2), .val (.int p3), .val (.int p4), .val (.int ((p1 &&& (65535 : Int32)).toUInt32.toUInt16.toUInt32.toInt32)), .val (.int ((p2 &&& (65535 : Int32)).toUInt32.toUInt16.toUInt32.toInt32)), .val (.int ((p3 &&& (65535 : Int32)).toUInt32.toUInt16.toUInt32.toInt32)), .val (.int ((p4 &&& (65535 : Int32)).toUInt32.toUInt16.toUInt32.toInt32)), .val (.ref b1), .val (.ref b10), .val (.ref b24), .unset, .unset, .unset, .unset] [(.int (1 : Int32)), (.ref b43), (.ref b43)]))
  refine own_st (fun _ k => XS.iload X48.here hx rfl (hb hby at_84) rfl k) ?_
  show own_G _ _ _ _ (T48.setTop (mkF m 86 #[.val (.int p0), .val (.int p1), .val (.int p2), .val (.int p3), .val (.int p4), .val (.int ((p1 &&& (65535 : Int32)).toUInt32.toUInt16.toUInt32.toInt32)), .val (.int ((p2 &&& (65535 : Int32)).toUInt32.toUInt16.toUInt32.toInt32)), .val (.int ((p3 &&& (65535 : Int32)).toUInt32.toUInt16.toUInt32.toInt32)), .val (.int ((p4 &&& (65535 : Int32)).toUInt32.toUInt16.toUInt32.toInt32)), .val (.ref b1), .val (.ref b10), .val (.ref b24), .unset, .unset, .unset, .unset] [(.int ((p2 &&& (65535 : Int32)).toUInt32.toUInt16.toUInt32.toInt32)), (.int (1 : Int32)), (.ref b43), (.ref b43)]))
  obtain ⟨cl52, Ar52, qk52, Sz52, Mz52, Hz52, Uz52⟩ := id V48'
  obtain ⟨T53, h53, X53, e53, W53, st53⟩ := stC X48 hx hZ e48 Ar52 (j := (1 : Int32)) (inb_of Sz52 ⟨by decide, by decide⟩) (g := (mkF m 86 #[.val (.int p0), .val (.int p1), .val (.int p2), .val (.int p3), .val (.int p4), .val (.int ((p1 &&& (65535 : Int32)).toUInt32.toUInt16.toUInt32.toInt32)), .val (.int ((p2 &&& (65535 : Int32)).toUInt32.toUInt16.toUInt32.toInt32)), .val (.int ((p3 &&& (65535 : Int32)).toUInt32.toUInt16.toUInt32.toInt32)), .val (.int ((p4 &&& (65535 : Int32)).toUInt32.toUInt16.toUInt32.toInt32)), .val (.ref b1), .val (.ref b10), .val (.ref b24), .unset, .unset, .unset, .unset] [(.int ((p2 &&& (65535 : Int32)).toUInt32.toUInt16.toUInt32.toInt32)), (.int (1 : Int32)), (.ref b43), (.ref b43)])) rfl rfl (hb hby at_86)
  refine own_st st53 ?_
  have V53 := Arv.set Ar52 qk52 Sz52 Mz52 Hz52 Uz52 (fits_nar_char _) W53 1 rfl (Nat.le_of_ble_eq_true rfl)
  have z54 : h53.size = h48.size := W53.size
  have O55 := Old.wr O50 W53 (by omega)
  have K56 : Keep h0 h53 [] := K51.wr W53 (Or.inr (by omega))
  have N53 := Fr.snoc X53 N48 (by omega : Z.heap.size ≤ b43)
  have V53' : Arv Z h53 b43 k43 .char (4 : Int32) [(.int (nar .char ((p1 &&& (65535 : Int32)).toUInt32.toUInt16.toUInt32.toInt32))), (.int (nar .char ((p2 &&& (65535 : Int32)).toUInt32.toUInt16.toUInt32.toInt32))), (.int (0 : Int32)), (.int (0 : Int32))] (.int (0 : Int32)) := V53
  show own_G _ _ _ _ (T53.setTop (mkF m 87 #[.val (.int p0), .val (.int p1), .val (.int p2), .val (.int p3), .val (.int p4), .val (.int ((p1 &&& (65535 : Int32)).toUInt32.toUInt16.toUInt32.toInt32)), .val (.int ((p2 &&& (65535 : Int32)).toUInt32.toUInt16.toUInt32.toInt32)), .val (.int ((p3 &&& (65535 : Int32)).toUInt32.toUInt16.toUInt32.toInt32)), .val (.int ((p4 &&& (65535 : Int32)).toUInt32.toUInt16.toUInt32.toInt32)), .val (.ref b1), .val (.ref b10), .val (.ref b24), .unset, .unset, .unset, .unset] [(.ref b43)]))
  refine own_st (fun _ k => XS.dup X53.here hx rfl (hb hby at_87) rfl rfl k) ?_
  show own_G _ _ _ _ (T53.setTop (mkF m 88 #[.val (.int p0), .val (.int p1), .val (.int p2), .val (.int p3), .val (.int p4), .val (.int ((p1 &&& (65535 : Int32)).toUInt32.toUInt16.toUInt32.toInt32)), .val (.int ((p2 &&& (65535 : Int32)).toUInt32.toUInt16.toUInt32.toInt32)), .val (.int ((p3 &&& (65535 : Int32)).toUInt32.toUInt16.toUInt32.toInt32)), .val (.int ((p4 &&& (65535 : Int32)).toUInt32.toUInt16.toUInt32.toInt32)), .val (.ref b1), .val (.ref b10), .val (.ref b24), .unset, .unset, .unset, .unset] [(.ref b43), (.ref b43)]))
  refine own_st (fun _ k => XS.iconst X53.here hx rfl (hb hby at_88) k) ?_
  show own_G _ _ _ _ (T53.setTop (mkF m 89 #[.val (.int p0), .val (.int p1), .val (.int p2), .val (.int p3), .val (.int p4), .val (.int ((p1 &&& (65535 : Int32)).toUInt32.toUInt16.toUInt32.toInt32)), .val (.int ((p2 &&& (65535 : Int32)).toUInt32.toUInt16.toUInt32.toInt32)), .val (.int ((p3 &&& (65535 : Int32)).toUInt32.toUInt16.toUInt32.toInt32)), .val (.int ((p4 &&& (65535 : Int32)).toUInt32.toUInt16.toUInt32.toInt32)), .val (.ref b1), .val (.ref b10), .val (.ref b24), .unset, .unset, .unset, .unset] [(.int (2 : Int32)), (.ref b43), (.ref b43)]))
  refine own_st (fun _ k => XS.iload X53.here hx rfl (hb hby at_89) rfl k) ?_
  show own_G _ _ _ _ (T53.setTop (mkF m 91 #[.val (.int p0), .val (.int p1), .val (.int p2), .val (.int p3), .val (.int p4), .val (.int ((p1 &&& (65535 : Int32)).toUInt32.toUInt16.toUInt32.toInt32)), .val (.int ((p2 &&& (65535 : Int32)).toUInt32.toUInt16.toUInt32.toInt32)), .val (.int ((p3 &&& (65535 : Int32)).toUInt32.toUInt16.toUInt32.toInt32)), .val (.int ((p4 &&& (65535 : Int32)).toUInt32.toUInt16.toUInt32.toInt32)), .val (.ref b1), .val (.ref b10), .val (.ref b24), .unset, .unset, .unset, .unset] [(.int ((p3 &&& (65535 : Int32)).toUInt32.toUInt16.toUInt32.toInt32)), (.int (2 : Int32)), (.ref b43), (.ref b43)]))
  obtain ⟨cl57, Ar57, qk57, Sz57, Mz57, Hz57, Uz57⟩ := id V53'
  obtain ⟨T58, h58, X58, e58, W58, st58⟩ := stC X53 hx hZ e53 Ar57 (j := (2 : Int32)) (inb_of Sz57 ⟨by decide, by decide⟩) (g := (mkF m 91 #[.val (.int p0), .val (.int p1), .val (.int p2), .val (.int p3), .val (.int p4), .val (.int ((p1 &&& (65535 : Int32)).toUInt32.toUInt16.toUInt32.toInt32)), .val (.int ((p2 &&& (65535 : Int32)).toUInt32.toUInt16.toUInt32.toInt32)), .val (.int ((p3 &&& (65535 : Int32)).toUInt32.toUInt16.toUInt32.toInt32)), .val (.int ((p4 &&& (65535 : Int32)).toUInt32.toUInt16.toUInt32.toInt32)), .val (.ref b1), .val (.ref b10), .val (.ref b24), .unset, .unset, .unset, .unset] [(.int ((p3 &&& (65535 : Int32)).toUInt32.toUInt16.toUInt32.toInt32)), (.int (2 : Int32)), (.ref b43), (.ref b43)])) rfl rfl (hb hby at_91)
  refine own_st st58 ?_
  have V58 := Arv.set Ar57 qk57 Sz57 Mz57 Hz57 Uz57 (fits_nar_char _) W58 2 rfl (Nat.le_of_ble_eq_true rfl)
  have z59 : h58.size = h53.size := W58.size
  have O60 := Old.wr O55 W58 (by omega)
  have K61 : Keep h0 h58 [] := K56.wr W58 (Or.inr (by omega))
  have N58 := Fr.snoc X58 N53 (by omega : Z.heap.size ≤ b43)
  have V58' : Arv Z h58 b43 k43 .char (4 : Int32) [(.int (nar .char ((p1 &&& (65535 : Int32)).toUInt32.toUInt16.toUInt32.toInt32))), (.int (nar .char ((p2 &&& (65535 : Int32)).toUInt32.toUInt16.toUInt32.toInt32))), (.int (nar .char ((p3 &&& (65535 : Int32)).toUInt32.toUInt16.toUInt32.toInt32))), (.int (0 : Int32))] (.int (0 : Int32)) := V58
  show own_G _ _ _ _ (T58.setTop (mkF m 92 #[.val (.int p0), .val (.int p1), .val (.int p2), .val (.int p3), .val (.int p4), .val (.int ((p1 &&& (65535 : Int32)).toUInt32.toUInt16.toUInt32.toInt32)), .val (.int ((p2 &&& (65535 : Int32)).toUInt32.toUInt16.toUInt32.toInt32)), .val (.int ((p3 &&& (65535 : Int32)).toUInt32.toUInt16.toUInt32.toInt32)), .val (.int ((p4 &&& (65535 : Int32)).toUInt32.toUInt16.toUInt32.toInt32)), .val (.ref b1), .val (.ref b10), .val (.ref b24), .unset, .unset, .unset, .unset] [(.ref b43)]))
  refine own_st (fun _ k => XS.dup X58.here hx rfl (hb hby at_92) rfl rfl k) ?_
  show own_G _ _ _ _ (T58.setTop (mkF m 93 #[.val (.int p0), .val (.int p1), .val (.int p2), .val (.int p3), .val (.int p4), .val (.int ((p1 &&& (65535 : Int32)).toUInt32.toUInt16.toUInt32.toInt32)), .val (.int ((p2 &&& (65535 : Int32)).toUInt32.toUInt16.toUInt32.toInt32)), .val (.int ((p3 &&& (65535 : Int32)).toUInt32.toUInt16.toUInt32.toInt32)), .val (.int ((p4 &&& (65535 : Int32)).toUInt32.toUInt16.toUInt32.toInt32)), .val (.ref b1), .val (.ref b10), .val (.ref b24), .unset, .unset, .unset, .unset] [(.ref b43), (.ref b43)]))
  refine own_st (fun _ k => XS.iconst X58.here hx rfl (hb hby at_93) k) ?_
  show own_G _ _ _ _ (T58.setTop (mkF m 94 #[.val (.int p0), .val (.int p1), .val (.int p2), .val (.int p3), .val (.int p4), .val (.int ((p1 &&& (65535 : Int32)).toUInt32.toUInt16.toUInt32.toInt32)), .val (.int ((p2 &&& (65535 : Int32)).toUInt32.toUInt16.toUInt32.toInt32)), .val (.int ((p3 &&& (65535 : Int32)).toUInt32.toUInt16.toUInt32.toInt32)), .val (.int ((p4 &&& (65535 : Int32)).toUInt32.toUInt16.toUInt32.toInt32)), .val (.ref b1), .val (.ref b10), .val (.ref b24), .unset, .unset, .unset, .unset] [(.int (3 : Int32)), (.ref b43), (.ref b43)]))
  refine own_st (fun _ k => XS.iload X58.here hx rfl (hb hby at_94) rfl k) ?_
  show own_G _ _ _ _ (T58.setTop (mkF m 96 #[.val (.int p0), .val (.int p1), .val (.int p2), .val (.int p3), .val (.int p4), .val (.int ((p1 &&& (65535 : Int32)).toUInt32.toUInt16.toUInt32.toInt32)), .val (.int ((p2 &&& (65535 : Int32)).toUInt32.toUInt16.toUInt32.toInt32)), .val (.int ((p3 &&& (65535 : Int32)).toUInt32.toUInt16.toUInt32.toInt32)), .val (.int ((p4 &&& (65535 : Int32)).toUInt32.toUInt16.toUInt32.toInt32)), .val (.ref b1), .val (.ref b10), .val (.ref b24), .unset, .unset, .unset, .unset] [(.int ((p4 &&& (65535 : Int32)).toUInt32.toUInt16.toUInt32.toInt32)), (.int (3 : Int32)), (.ref b43), (.ref b43)]))
  obtain ⟨cl62, Ar62, qk62, Sz62, Mz62, Hz62, Uz62⟩ := id V58'
  obtain ⟨T63, h63, X63, e63, W63, st63⟩ := stC X58 hx hZ e58 Ar62 (j := (3 : Int32)) (inb_of Sz62 ⟨by decide, by decide⟩) (g := (mkF m 96 #[.val (.int p0), .val (.int p1), .val (.int p2), .val (.int p3), .val (.int p4), .val (.int ((p1 &&& (65535 : Int32)).toUInt32.toUInt16.toUInt32.toInt32)), .val (.int ((p2 &&& (65535 : Int32)).toUInt32.toUInt16.toUInt32.toInt32)), .val (.int ((p3 &&& (65535 : Int32)).toUInt32.toUInt16.toUInt32.toInt32)), .val (.int ((p4 &&& (65535 : Int32)).toUInt32.toUInt16.toUInt32.toInt32)), .val (.ref b1), .val (.ref b10), .val (.ref b24), .unset, .unset, .unset, .unset] [(.int ((p4 &&& (65535 : Int32)).toUInt32.toUInt16.toUInt32.toInt32)), (.int (3 : Int32)), (.ref b43), (.ref b43)])) rfl rfl (hb hby at_96)
  refine own_st st63 ?_
  have V63 := Arv.set Ar62 qk62 Sz62 Mz62 Hz62 Uz62 (fits_nar_char _) W63 3 rfl (Nat.le_of_ble_eq_true rfl)
  have z64 : h63.size = h58.size := W63.size
  have O65 := Old.wr O60 W63 (by omega)
  have K66 : Keep h0 h63 [] := K61.wr W63 (Or.inr (by omega))
  have N63 := Fr.snoc X63 N58 (by omega : Z.heap.size ≤ b43)
  have V63' : Arv Z h63 b43 k43 .char (4 : Int32) [(.int (nar .char ((p1 &&& (65535 : Int32)).toUInt32.toUInt16.toUInt32.toInt32))), (.int (nar .char ((p2 &&& (65535 : Int32)).toUInt32.toUInt16.toUInt32.toInt32))), (.int (nar .char ((p3 &&& (65535 : Int32)).toUInt32.toUInt16.toUInt32.toInt32))), (.int (nar .char ((p4 &&& (65535 : Int32)).toUInt32.toUInt16.toUInt32.toInt32)))] (.int (0 : Int32)) := V63
  show own_G _ _ _ _ (T63.setTop (mkF m 97 #[.val (.int p0), .val (.int p1), .val (.int p2), .val (.int p3), .val (.int p4), .val (.int ((p1 &&& (65535 : Int32)).toUInt32.toUInt16.toUInt32.toInt32)), .val (.int ((p2 &&& (65535 : Int32)).toUInt32.toUInt16.toUInt32.toInt32)), .val (.int ((p3 &&& (65535 : Int32)).toUInt32.toUInt16.toUInt32.toInt32)), .val (.int ((p4 &&& (65535 : Int32)).toUInt32.toUInt16.toUInt32.toInt32)), .val (.ref b1), .val (.ref b10), .val (.ref b24), .unset, .unset, .unset, .unset] [(.ref b43)]))
  refine own_st (fun _ k => XS.astore X63.here hx rfl (hb hby at_97) rfl rfl (l' := #[.val (.int p0), .val (.int p1), .val (.int p2), .val (.int p3), .val (.int p4), .val (.int ((p1 &&& (65535 : Int32)).toUInt32.toUInt16.toUInt32.toInt32)), .val (.int ((p2 &&& (65535 : Int32)).toUInt32.toUInt16.toUInt32.toInt32)), .val (.int ((p3 &&& (65535 : Int32)).toUInt32.toUInt16.toUInt32.toInt32)), .val (.int ((p4 &&& (65535 : Int32)).toUInt32.toUInt16.toUInt32.toInt32)), .val (.ref b1), .val (.ref b10), .val (.ref b24), .val (.ref b43), .unset, .unset, .unset]) rfl k) ?_
  show own_G _ _ _ _ (T63.setTop (mkF m 99 #[.val (.int p0), .val (.int p1), .val (.int p2), .val (.int p3), .val (.int p4), .val (.int ((p1 &&& (65535 : Int32)).toUInt32.toUInt16.toUInt32.toInt32)), .val (.int ((p2 &&& (65535 : Int32)).toUInt32.toUInt16.toUInt32.toInt32)), .val (.int ((p3 &&& (65535 : Int32)).toUInt32.toUInt16.toUInt32.toInt32)), .val (.int ((p4 &&& (65535 : Int32)).toUInt32.toUInt16.toUInt32.toInt32)), .val (.ref b1), .val (.ref b10), .val (.ref b24), .val (.ref b43), .unset, .unset, .unset] []))
  refine own_st (fun _ k => XS.iloadN X63.here hx rfl (hb hby at_99) rfl k) ?_
  show own_G _ _ _ _ (T63.setTop (mkF m 100 #[.val (.int p0), .val (.int p1), .val (.int p2), .val (.int p3), .val (.int p4), .val (.int ((p1 &&& (65535 : Int32)).toUInt32.toUInt16.toUInt32.toInt32)), .val (.int ((p2 &&& (65535 : Int32)).toUInt32.toUInt16.toUInt32.toInt32)), .val (.int ((p3 &&& (65535 : Int32)).toUInt32.toUInt16.toUInt32.toInt32)), .val (.int ((p4 &&& (65535 : Int32)).toUInt32.toUInt16.toUInt32.toInt32)), .val (.ref b1), .val (.ref b10), .val (.ref b24), .val (.ref b43), .unset, .unset, .unset] [(.int p0)]))
  refine own_st (fun _ k => XS.iconst X63.here hx rfl (hb hby at_100) k) ?_
  show own_G _ _ _ _ (T63.setTop (mkF m 101 #[.val (.int p0), .val (.int p1), .val (.int p2), .val (.int p3), .val (.int p4), .val (.int ((p1 &&& (65535 : Int32)).toUInt32.toUInt16.toUInt32.toInt32)), .val (.int ((p2 &&& (65535 : Int32)).toUInt32.toUInt16.toUInt32.toInt32)), .val (.int ((p3 &&& (65535 : Int32)).toUInt32.toUInt16.toUInt32.toInt32)), .val (.int ((p4 &&& (65535 : Int32)).toUInt32.toUInt16.toUInt32.toInt32)), .val (.ref b1), .val (.ref b10), .val (.ref b24), .val (.ref b43), .unset, .unset, .unset] [(.int (3 : Int32)), (.int p0)]))
  refine own_st (fun _ k => XS.iand X63.here hx rfl (hb hby at_101) rfl k) ?_
  show own_G _ _ _ _ (T63.setTop (mkF m 102 #[.val (.int p0), .val (.int p1), .val (.int p2), .val (.int p3), .val (.int p4), .val (.int ((p1 &&& (65535 : Int32)).toUInt32.toUInt16.toUInt32.toInt32)), .val (.int ((p2 &&& (65535 : Int32)).toUInt32.toUInt16.toUInt32.toInt32)), .val (.int ((p3 &&& (65535 : Int32)).toUInt32.toUInt16.toUInt32.toInt32)), .val (.int ((p4 &&& (65535 : Int32)).toUInt32.toUInt16.toUInt32.toInt32)), .val (.ref b1), .val (.ref b10), .val (.ref b24), .val (.ref b43), .unset, .unset, .unset] [(.int (p0 &&& (3 : Int32)))]))
  refine own_st (fun _ k => XS.iconst X63.here hx rfl (hb hby at_102) k) ?_
  show own_G _ _ _ _ (T63.setTop (mkF m 103 #[.val (.int p0), .val (.int p1), .val (.int p2), .val (.int p3), .val (.int p4), .val (.int ((p1 &&& (65535 : Int32)).toUInt32.toUInt16.toUInt32.toInt32)), .val (.int ((p2 &&& (65535 : Int32)).toUInt32.toUInt16.toUInt32.toInt32)), .val (.int ((p3 &&& (65535 : Int32)).toUInt32.toUInt16.toUInt32.toInt32)), .val (.int ((p4 &&& (65535 : Int32)).toUInt32.toUInt16.toUInt32.toInt32)), .val (.ref b1), .val (.ref b10), .val (.ref b24), .val (.ref b43), .unset, .unset, .unset] [(.int (1 : Int32)), (.int (p0 &&& (3 : Int32)))]))
  refine own_st (fun _ k => XS.iadd X63.here hx rfl (hb hby at_103) rfl k) ?_
  show own_G _ _ _ _ (T63.setTop (mkF m 104 #[.val (.int p0), .val (.int p1), .val (.int p2), .val (.int p3), .val (.int p4), .val (.int ((p1 &&& (65535 : Int32)).toUInt32.toUInt16.toUInt32.toInt32)), .val (.int ((p2 &&& (65535 : Int32)).toUInt32.toUInt16.toUInt32.toInt32)), .val (.int ((p3 &&& (65535 : Int32)).toUInt32.toUInt16.toUInt32.toInt32)), .val (.int ((p4 &&& (65535 : Int32)).toUInt32.toUInt16.toUInt32.toInt32)), .val (.ref b1), .val (.ref b10), .val (.ref b24), .val (.ref b43), .unset, .unset, .unset] [(.int ((p0 &&& (3 : Int32)) + (1 : Int32)))]))
  refine own_st (fun _ k => XS.istore X63.here hx rfl (hb hby at_104) rfl (l' := #[.val (.int p0), .val (.int p1), .val (.int p2), .val (.int p3), .val (.int p4), .val (.int ((p1 &&& (65535 : Int32)).toUInt32.toUInt16.toUInt32.toInt32)), .val (.int ((p2 &&& (65535 : Int32)).toUInt32.toUInt16.toUInt32.toInt32)), .val (.int ((p3 &&& (65535 : Int32)).toUInt32.toUInt16.toUInt32.toInt32)), .val (.int ((p4 &&& (65535 : Int32)).toUInt32.toUInt16.toUInt32.toInt32)), .val (.ref b1), .val (.ref b10), .val (.ref b24), .val (.ref b43), .val (.int ((p0 &&& (3 : Int32)) + (1 : Int32))), .unset, .unset]) rfl k) ?_
  show own_G _ _ _ _ (T63.setTop (mkF m 106 #[.val (.int p0), .val (.int p1), .val (.int p2), .val (.int p3), .val (.int p4), .val (.int ((p1 &&& (65535 : Int32)).toUInt32.toUInt16.toUInt32.toInt32)), .val (.int ((p2 &&& (65535 : Int32)).toUInt32.toUInt16.toUInt32.toInt32)), .val (.int ((p3 &&& (65535 : Int32)).toUInt32.toUInt16.toUInt32.toInt32)), .val (.int ((p4 &&& (65535 : Int32)).toUInt32.toUInt16.toUInt32.toInt32)), .val (.ref b1), .val (.ref b10), .val (.ref b24), .val (.ref b43), .val (.int ((p0 &&& (3 : Int32)) + (1 : Int32))), .unset, .unset] []))
  refine own_st (fun _ k => XS.iload X63.here hx rfl (hb hby at_106) rfl k) ?_
  show own_G _ _ _ _ (T63.setTop (mkF m 108 #[.val (.int p0), .val (.int p1), .val (.int p2), .val (.int p3), .val (.int p4), .val (.int ((p1 &&& (65535 : Int32)).toUInt32.toUInt16.toUInt32.toInt32)), .val (.int ((p2 &&& (65535 : Int32)).toUInt32.toUInt16.toUInt32.toInt32)), .val (.int ((p3 &&& (65535 : Int32)).toUInt32.toUInt16.toUInt32.toInt32)), .val (.int ((p4 &&& (65535 : Int32)).toUInt32.toUInt16.toUInt32.toInt32)), .val (.ref b1), .val (.ref b10), .val (.ref b24), .val (.ref b43), .val (.int ((p0 &&& (3 : Int32)) + (1 : Int32))), .unset, .unset] [(.int ((p0 &&& (3 : Int32)) + (1 : Int32)))]))
  refine own_st (fun _ k => XS.iconst X63.here hx rfl (hb hby at_108) k) ?_
  show own_G _ _ _ _ (T63.setTop (mkF m 109 #[.val (.int p0), .val (.int p1), .val (.int p2), .val (.int p3), .val (.int p4), .val (.int ((p1 &&& (65535 : Int32)).toUInt32.toUInt16.toUInt32.toInt32)), .val (.int ((p2 &&& (65535 : Int32)).toUInt32.toUInt16.toUInt32.toInt32)), .val (.int ((p3 &&& (65535 : Int32)).toUInt32.toUInt16.toUInt32.toInt32)), .val (.int ((p4 &&& (65535 : Int32)).toUInt32.toUInt16.toUInt32.toInt32)), .val (.ref b1), .val (.ref b10), .val (.ref b24), .val (.ref b43), .val (.int ((p0 &&& (3 : Int32)) + (1 : Int32))), .unset, .unset] [(.int (1 : Int32)), (.int ((p0 &&& (3 : Int32)) + (1 : Int32)))]))
  rcases own_len4 p0 with hl | hl | hl | hl
  · skip
    rw [hl]
    show own_G _ _ _ _ (T63.setTop (mkF m 109 #[.val (.int p0), .val (.int p1), .val (.int p2), .val (.int p3), .val (.int p4), .val (.int ((p1 &&& (65535 : Int32)).toUInt32.toUInt16.toUInt32.toInt32)), .val (.int ((p2 &&& (65535 : Int32)).toUInt32.toUInt16.toUInt32.toInt32)), .val (.int ((p3 &&& (65535 : Int32)).toUInt32.toUInt16.toUInt32.toInt32)), .val (.int ((p4 &&& (65535 : Int32)).toUInt32.toUInt16.toUInt32.toInt32)), .val (.ref b1), .val (.ref b10), .val (.ref b24), .val (.ref b43), .val (.int (1 : Int32)), .unset, .unset] [(.int (1 : Int32)), (.int (1 : Int32))]))
    refine own_st (fun _ k => XS.icmpNo X63.here hx rfl (hb hby at_109) rfl (teq rfl).2 k) ?_
    show own_G _ _ _ _ (T63.setTop (mkF m 112 #[.val (.int p0), .val (.int p1), .val (.int p2), .val (.int p3), .val (.int p4), .val (.int ((p1 &&& (65535 : Int32)).toUInt32.toUInt16.toUInt32.toInt32)), .val (.int ((p2 &&& (65535 : Int32)).toUInt32.toUInt16.toUInt32.toInt32)), .val (.int ((p3 &&& (65535 : Int32)).toUInt32.toUInt16.toUInt32.toInt32)), .val (.int ((p4 &&& (65535 : Int32)).toUInt32.toUInt16.toUInt32.toInt32)), .val (.ref b1), .val (.ref b10), .val (.ref b24), .val (.ref b43), .val (.int (1 : Int32)), .unset, .unset] []))
    obtain ⟨T67, h67, X67, e67, E67, A67, D67, -, st67⟩ := newO X63 hx hZ hown (hw _ (List.mem_of_getElem? (i := 2) rfl)) (hw _ (List.mem_of_getElem? (i := 3) rfl)) (hw _ (List.mem_of_getElem? (i := 4) rfl)) e63 (g := (mkF m 112 #[.val (.int p0), .val (.int p1), .val (.int p2), .val (.int p3), .val (.int p4), .val (.int ((p1 &&& (65535 : Int32)).toUInt32.toUInt16.toUInt32.toInt32)), .val (.int ((p2 &&& (65535 : Int32)).toUInt32.toUInt16.toUInt32.toInt32)), .val (.int ((p3 &&& (65535 : Int32)).toUInt32.toUInt16.toUInt32.toInt32)), .val (.int ((p4 &&& (65535 : Int32)).toUInt32.toUInt16.toUInt32.toInt32)), .val (.ref b1), .val (.ref b10), .val (.ref b24), .val (.ref b43), .val (.int (1 : Int32)), .unset, .unset] [])) rfl (hb hby at_112) (by decide) (by decide)
    obtain ⟨b67, g67⟩ : ∃ z, z = h63.size := ⟨_, rfl⟩
    rw [← g67] at A67 D67 st67
    refine own_st st67 ?_
    have z68 : h63.size ≤ h67.size := E67.1
    have O69 := Old.ext O65 E67
    have K70 : Keep h0 h67 [] := K66.ext E67
    have F67_coder : Fld Z h67 b67 "java/lang/String" "coder" "B" (.int (0 : Int32)) := D67 (Or.inr (hw _ (List.mem_of_getElem? (i := 28) rfl))) (ty := .byte) (by decide)
    have F67_value : Fld Z h67 b67 "java/lang/String" "value" "[B" .null := D67 (Or.inr (hw _ (List.mem_of_getElem? (i := 30) rfl))) (ty := (.array .byte)) (by decide)
    have lt67 := own_ltN A67.lt
    show own_G _ _ _ _ (T67.setTop (mkF m 115 #[.val (.int p0), .val (.int p1), .val (.int p2), .val (.int p3), .val (.int p4), .val (.int ((p1 &&& (65535 : Int32)).toUInt32.toUInt16.toUInt32.toInt32)), .val (.int ((p2 &&& (65535 : Int32)).toUInt32.toUInt16.toUInt32.toInt32)), .val (.int ((p3 &&& (65535 : Int32)).toUInt32.toUInt16.toUInt32.toInt32)), .val (.int ((p4 &&& (65535 : Int32)).toUInt32.toUInt16.toUInt32.toInt32)), .val (.ref b1), .val (.ref b10), .val (.ref b24), .val (.ref b43), .val (.int (1 : Int32)), .unset, .unset] [(.ref b67)]))
    refine own_st (fun _ k => XS.dup X67.here hx rfl (hb hby at_115) rfl rfl k) ?_
    show own_G _ _ _ _ (T67.setTop (mkF m 116 #[.val (.int p0), .val (.int p1), .val (.int p2), .val (.int p3), .val (.int p4), .val (.int ((p1 &&& (65535 : Int32)).toUInt32.toUInt16.toUInt32.toInt32)), .val (.int ((p2 &&& (65535 : Int32)).toUInt32.toUInt16.toUInt32.toInt32)), .val (.int ((p3 &&& (65535 : Int32)).toUInt32.toUInt16.toUInt32.toInt32)), .val (.int ((p4 &&& (65535 : Int32)).toUInt32.toUInt16.toUInt32.toInt32)), .val (.ref b1), .val (.ref b10), .val (.ref b24), .val (.ref b43), .val (.int (1 : Int32)), .unset, .unset] [(.ref b67), (.ref b67)]))
    refine own_st (fun _ k => XS.aload X67.here hx rfl (hb hby at_116) rfl rfl k) ?_
    show own_G _ _ _ _ (T67.setTop (mkF m 118 #[.val (.int p0), .val (.int p1), .val (.int p2), .val (.int p3), .val (.int p4), .val (.int ((p1 &&& (65535 : Int32)).toUInt32.toUInt16.toUInt32.toInt32)), .val (.int ((p2 &&& (65535 : Int32)).toUInt32.toUInt16.toUInt32.toInt32)), .val (.int ((p3 &&& (65535 : Int32)).toUInt32.toUInt16.toUInt32.toInt32)), .val (.int ((p4 &&& (65535 : Int32)).toUInt32.toUInt16.toUInt32.toInt32)), .val (.ref b1), .val (.ref b10), .val (.ref b24), .val (.ref b43), .val (.int (1 : Int32)), .unset, .unset] [(.ref b1), (.ref b67), (.ref b67)]))
    have q71 : Arv Z h67 b1 k1 .char (1 : Int32) [(.int (nar .char ((p1 &&& (65535 : Int32)).toUInt32.toUInt16.toUInt32.toInt32)))] (.int (0 : Int32)) := (((((((((((((V6'.ext E10).other W15 (show @Ne Nat b1 b10 by omega)).other W20 (show @Ne Nat b1 b10 by omega)).ext E24).other W29 (show @Ne Nat b1 b24 by omega)).other W34 (show @Ne Nat b1 b24 by omega)).other W39 (show @Ne Nat b1 b24 by omega)).ext E43).other W48 (show @Ne Nat b1 b43 by omega)).other W53 (show @Ne Nat b1 b43 by omega)).other W58 (show @Ne Nat b1 b43 by omega)).other W63 (show @Ne Nat b1 b43 by omega)).ext E67)
    have Vc : Arv Z h67 b1 k1 .char (Int32.ofNat 1) (own_vals (own_f p1 p2 p3 p4) 1) (.int (0 : Int32)) := q71
    obtain ⟨_, _, ⟨T72, L72, k72, n72⟩, -, X72, ⟨Lc72, hQ72, l72, y72, z72⟩, st72⟩ := X67.specialBack hx (y := (⟨"java/lang/String", "<init>", "([C)V"⟩ : MethodName)) rfl hown (mvT hZ (hw _ (List.mem_of_getElem? (i := 5) rfl))) (mvT hZ (hw _ (List.mem_of_getElem? (i := 6) rfl))) (mvT hZ (hw _ (List.mem_of_getElem? (i := 7) rfl))) (by decide) (own_back (rm := ({ frames := 5, cells := 2, slots := 12, locals := 74 } : Room)) (W := 1) (own_newS l Z a0 hw [] b67 b1 1 (own_f p1 p2 p3 p4) k1 w1 .null (.int (0 : Int32)) h67 O69 (by decide) (by decide) (fun j _ => own_f_rng p1 p2 p3 p4 j) US S1 hw1 (by omega) (show @Ne Nat b67 b1 by omega) A67 F67_value F67_coder Vc) hZ (hw _ (List.mem_of_getElem? (i := 7) rfl)) (hw _ (List.mem_of_getElem? (i := 4) rfl)) (by decide) (by decide)) (g := (mkF m 118 #[.val (.int p0), .val (.int p1), .val (.int p2), .val (.int p3), .val (.int p4), .val (.int ((p1 &&& (65535 : Int32)).toUInt32.toUInt16.toUInt32.toInt32)), .val (.int ((p2 &&& (65535 : Int32)).toUInt32.toUInt16.toUInt32.toInt32)), .val (.int ((p3 &&& (65535 : Int32)).toUInt32.toUInt16.toUInt32.toInt32)), .val (.int ((p4 &&& (65535 : Int32)).toUInt32.toUInt16.toUInt32.toInt32)), .val (.ref b1), .val (.ref b10), .val (.ref b24), .val (.ref b43), .val (.int (1 : Int32)), .unset, .unset] [(.ref b1), (.ref b67), (.ref b67)])) rfl (by rw [hml]; rfl) (Steps.refl _) (a := b67) (argsL := [(.ref b1)]) (rest := [(.ref b67)]) (lenOf own_pd285 rfl) rfl (by show 2 * 0 + _ ≤ _; exact Nat.le_of_eq rfl) (hb hby at_118) (fun _ _ => ⟨rfl, e67, (by decide : 0 + 1 + 1 + 1 + 1 + 1 + 2 ≤ _), (by decide : 0 + 1 + 2 + 3 + 4 + 4 + 12 ≤ _)⟩)
    dsimp only [Pt.U, Pt.locs, Pt.cells, Pt.slots] at X72 l72 y72 z72 st72 hQ72
    subst l72 y72 z72
    obtain ⟨rfl, N72q, K72_, t, kt, gt, Hs⟩ := hQ72
    have N72 := Fr.app N63 N72q
    refine own_tr st72 ?_
    have z73 : h67.size ≤ T72.heap.size := K72_.1
    have O74 := Old.keep O69 K72_ (allS (by omega) all0)
    have K75 : Keep h0 T72.heap [] := K70.trans K72_ (allS (Or.inr (by omega)) all0)
    show own_G _ _ _ _ (T72.setTop (mkF m 121 #[.val (.int p0), .val (.int p1), .val (.int p2), .val (.int p3), .val (.int p4), .val (.int ((p1 &&& (65535 : Int32)).toUInt32.toUInt16.toUInt32.toInt32)), .val (.int ((p2 &&& (65535 : Int32)).toUInt32.toUInt16.toUInt32.toInt32)), .val (.int ((p3 &&& (65535 : Int32)).toUInt32.toUInt16.toUInt32.toInt32)), .val (.int ((p4 &&& (65535 : Int32)).toUInt32.toUInt16.toUInt32.toInt32)), .val (.ref b1), .val (.ref b10), .val (.ref b24), .val (.ref b43), .val (.int (1 : Int32)), .unset, .unset] [(.ref b67)]))
    refine own_st (fun _ k => XS.astore X72.here hx rfl (hb hby at_121) rfl rfl (l' := #[.val (.int p0), .val (.int p1), .val (.int p2), .val (.int p3), .val (.int p4), .val (.int ((p1 &&& (65535 : Int32)).toUInt32.toUInt16.toUInt32.toInt32)), .val (.int ((p2 &&& (65535 : Int32)).toUInt32.toUInt16.toUInt32.toInt32)), .val (.int ((p3 &&& (65535 : Int32)).toUInt32.toUInt16.toUInt32.toInt32)), .val (.int ((p4 &&& (65535 : Int32)).toUInt32.toUInt16.toUInt32.toInt32)), .val (.ref b1), .val (.ref b10), .val (.ref b24), .val (.ref b43), .val (.int (1 : Int32)), .val (.ref b67), .unset]) rfl k) ?_
    show own_G _ _ _ _ (T72.setTop (mkF m 123 #[.val (.int p0), .val (.int p1), .val (.int p2), .val (.int p3), .val (.int p4), .val (.int ((p1 &&& (65535 : Int32)).toUInt32.toUInt16.toUInt32.toInt32)), .val (.int ((p2 &&& (65535 : Int32)).toUInt32.toUInt16.toUInt32.toInt32)), .val (.int ((p3 &&& (65535 : Int32)).toUInt32.toUInt16.toUInt32.toInt32)), .val (.int ((p4 &&& (65535 : Int32)).toUInt32.toUInt16.toUInt32.toInt32)), .val (.ref b1), .val (.ref b10), .val (.ref b24), .val (.ref b43), .val (.int (1 : Int32)), .val (.ref b67), .unset] []))
    refine own_st (fun _ k => XS.goto X72.here hx rfl (pc0 := 123) (pc' := 177) rfl (hb hby at_123) (by decide) (by decide) k) ?_
    show own_G _ _ _ _ (T72.setTop (mkF m 177 #[.val (.int p0), .val (.int p1), .val (.int p2), .val (.int p3), .val (.int p4), .val (.int ((p1 &&& (65535 : Int32)).toUInt32.toUInt16.toUInt32.toInt32)), .val (.int ((p2 &&& (65535 : Int32)).toUInt32.toUInt16.toUInt32.toInt32)), .val (.int ((p3 &&& (65535 : Int32)).toUInt32.toUInt16.toUInt32.toInt32)), .val (.int ((p4 &&& (65535 : Int32)).toUInt32.toUInt16.toUInt32.toInt32)), .val (.ref b1), .val (.ref b10), .val (.ref b24), .val (.ref b43), .val (.int (1 : Int32)), .val (.ref b67), .unset] []))
    refine own_st (fun _ k => XS.aload X72.here hx rfl (hb hby at_177) rfl rfl k) ?_
    show own_G _ _ _ _ (T72.setTop (mkF m 179 #[.val (.int p0), .val (.int p1), .val (.int p2), .val (.int p3), .val (.int p4), .val (.int ((p1 &&& (65535 : Int32)).toUInt32.toUInt16.toUInt32.toInt32)), .val (.int ((p2 &&& (65535 : Int32)).toUInt32.toUInt16.toUInt32.toInt32)), .val (.int ((p3 &&& (65535 : Int32)).toUInt32.toUInt16.toUInt32.toInt32)), .val (.int ((p4 &&& (65535 : Int32)).toUInt32.toUInt16.toUInt32.toInt32)), .val (.ref b1), .val (.ref b10), .val (.ref b24), .val (.ref b43), .val (.int (1 : Int32)), .val (.ref b67), .unset] [(.ref b67)]))
    have hS00 : s.Since s.vm 0 := (State.WarmedH.refl s).since 0
    obtain ⟨_, vq76, ⟨T76, L76, k76, n76⟩, -, X76, hSq76, hgr76, ⟨Lc76, hQ76, l76, y76, z76⟩, st76⟩ := Jvm.RoadKit.callSS X72 hx (y := (⟨"com/example/atomic_bracket/atomicbracket/Bracket", "checkedName", "(Ljava/lang/String;)Ljava/lang/String;"⟩ : MethodName)) hown (mvT hZ (hw _ (List.mem_of_getElem? (i := 31) rfl))) (mvT hZ (hw _ (List.mem_of_getElem? (i := 32) rfl))) (mvT hZ (hw _ (List.mem_of_getElem? (i := 33) rfl))) (mvT hZ (hw _ (List.mem_of_getElem? (i := 34) rfl))) (by decide) (own_backS (rm := ({ frames := 1, cells := 2, slots := 24, locals := 20 } : Room)) (W := 0) (own_cn l Z a0 hw [] b67 t kt 1 (own_f p1 p2 p3 p4) T72.heap O74 (by decide) (by decide) Hs) hZ (hw _ (List.mem_of_getElem? (i := 34) rfl)) (hw _ (List.mem_of_getElem? (i := 33) rfl)) (by decide) (by decide)) (g := (mkF m 179 #[.val (.int p0), .val (.int p1), .val (.int p2), .val (.int p3), .val (.int p4), .val (.int ((p1 &&& (65535 : Int32)).toUInt32.toUInt16.toUInt32.toInt32)), .val (.int ((p2 &&& (65535 : Int32)).toUInt32.toUInt16.toUInt32.toInt32)), .val (.int ((p3 &&& (65535 : Int32)).toUInt32.toUInt16.toUInt32.toInt32)), .val (.int ((p4 &&& (65535 : Int32)).toUInt32.toUInt16.toUInt32.toInt32)), .val (.ref b1), .val (.ref b10), .val (.ref b24), .val (.ref b43), .val (.int (1 : Int32)), .val (.ref b67), .unset] [(.ref b67)])) rfl (by rw [hml]; rfl) (argsL := [(.ref b67)]) (rest := []) (lenOf own_pd290 rfl) rfl (by show 2 * 0 + _ ≤ _; exact Nat.le_of_eq rfl) (hb hby at_179) (fun _ _ => ⟨rfl, rfl, (by decide : 0 + 1 + 1 + 1 + 1 + 1 + 2 + 2 ≤ _), (by decide : 0 + 1 + 2 + 3 + 4 + 4 + 12 + 24 ≤ _)⟩)
    dsimp only [Pt.U, Pt.locs, Pt.cells, Pt.slots] at X76 l76 y76 z76 st76 hQ76 hSq76 hgr76
    subst l76 y76 z76
    obtain ⟨rfl, N76q, K76_⟩ := hQ76
    have N76 := Fr.app N72 N76q
    refine own_tr st76 ?_
    have hS76 := hSq76
    have hZ76 : Z.Warmed39 (s.setVm T76.vm).vm := State.Warmed39.trans (t := s) hZ hSq76.1
    have hown76 : (s.setVm T76.vm).vm.findClass "com/example/atomic_bracket/atomicbracket/BracketCheckedNamePinLaw" = some m.cls := by rw [show (s.setVm T76.vm).vm = T76.vm from rfl, hSq76.1.alike.findClass]; exact hown
    have z77 : T72.heap.size ≤ T76.heap.size := K76_.1
    have O78 := Old.keep O74 K76_ all0
    have K79 : Keep h0 T76.heap [] := K75.trans K76_ all0
    show own_G _ _ _ _ (T76.setTop (mkF m 182 #[.val (.int p0), .val (.int p1), .val (.int p2), .val (.int p3), .val (.int p4), .val (.int ((p1 &&& (65535 : Int32)).toUInt32.toUInt16.toUInt32.toInt32)), .val (.int ((p2 &&& (65535 : Int32)).toUInt32.toUInt16.toUInt32.toInt32)), .val (.int ((p3 &&& (65535 : Int32)).toUInt32.toUInt16.toUInt32.toInt32)), .val (.int ((p4 &&& (65535 : Int32)).toUInt32.toUInt16.toUInt32.toInt32)), .val (.ref b1), .val (.ref b10), .val (.ref b24), .val (.ref b43), .val (.int (1 : Int32)), .val (.ref b67), .unset] [(.ref b67)]))
    refine own_st (fun _ k => XS.astore X76.here hx rfl (hb hby at_182) rfl rfl (l' := #[.val (.int p0), .val (.int p1), .val (.int p2), .val (.int p3), .val (.int p4), .val (.int ((p1 &&& (65535 : Int32)).toUInt32.toUInt16.toUInt32.toInt32)), .val (.int ((p2 &&& (65535 : Int32)).toUInt32.toUInt16.toUInt32.toInt32)), .val (.int ((p3 &&& (65535 : Int32)).toUInt32.toUInt16.toUInt32.toInt32)), .val (.int ((p4 &&& (65535 : Int32)).toUInt32.toUInt16.toUInt32.toInt32)), .val (.ref b1), .val (.ref b10), .val (.ref b24), .val (.ref b43), .val (.int (1 : Int32)), .val (.ref b67), .val (.ref b67)]) rfl k) ?_
    show own_G _ _ _ _ (T76.setTop (mkF m 184 #[.val (.int p0), .val (.int p1), .val (.int p2), .val (.int p3), .val (.int p4), .val (.int ((p1 &&& (65535 : Int32)).toUInt32.toUInt16.toUInt32.toInt32)), .val (.int ((p2 &&& (65535 : Int32)).toUInt32.toUInt16.toUInt32.toInt32)), .val (.int ((p3 &&& (65535 : Int32)).toUInt32.toUInt16.toUInt32.toInt32)), .val (.int ((p4 &&& (65535 : Int32)).toUInt32.toUInt16.toUInt32.toInt32)), .val (.ref b1), .val (.ref b10), .val (.ref b24), .val (.ref b43), .val (.int (1 : Int32)), .val (.ref b67), .val (.ref b67)] []))
    refine own_st (fun _ k => XS.aload X76.here hx rfl (hb hby at_184) rfl rfl k) ?_
    show own_G _ _ _ _ (T76.setTop (mkF m 186 #[.val (.int p0), .val (.int p1), .val (.int p2), .val (.int p3), .val (.int p4), .val (.int ((p1 &&& (65535 : Int32)).toUInt32.toUInt16.toUInt32.toInt32)), .val (.int ((p2 &&& (65535 : Int32)).toUInt32.toUInt16.toUInt32.toInt32)), .val (.int ((p3 &&& (65535 : Int32)).toUInt32.toUInt16.toUInt32.toInt32)), .val (.int ((p4 &&& (65535 : Int32)).toUInt32.toUInt16.toUInt32.toInt32)), .val (.ref b1), .val (.ref b10), .val (.ref b24), .val (.ref b43), .val (.int (1 : Int32)), .val (.ref b67), .val (.ref b67)] [(.ref b67)]))
    refine own_st (fun _ k => XS.aload X76.here hx rfl (hb hby at_186) rfl rfl k) ?_
    show own_G _ _ _ _ (T76.setTop (mkF m 188 #[.val (.int p0), .val (.int p1), .val (.int p2), .val (.int p3), .val (.int p4), .val (.int ((p1 &&& (65535 : Int32)).toUInt32.toUInt16.toUInt32.toInt32)), .val (.int ((p2 &&& (65535 : Int32)).toUInt32.toUInt16.toUInt32.toInt32)), .val (.int ((p3 &&& (65535 : Int32)).toUInt32.toUInt16.toUInt32.toInt32)), .val (.int ((p4 &&& (65535 : Int32)).toUInt32.toUInt16.toUInt32.toInt32)), .val (.ref b1), .val (.ref b10), .val (.ref b24), .val (.ref b43), .val (.int (1 : Int32)), .val (.ref b67), .val (.ref b67)] [(.ref b67), (.ref b67)]))
    refine own_st (fun _ k => Jvm.RoadKit.acmp (g := (mkF m 188 #[.val (.int p0), .val (.int p1), .val (.int p2), .val (.int p3), .val (.int p4), .val (.int ((p1 &&& (65535 : Int32)).toUInt32.toUInt16.toUInt32.toInt32)), .val (.int ((p2 &&& (65535 : Int32)).toUInt32.toUInt16.toUInt32.toInt32)), .val (.int ((p3 &&& (65535 : Int32)).toUInt32.toUInt16.toUInt32.toInt32)), .val (.int ((p4 &&& (65535 : Int32)).toUInt32.toUInt16.toUInt32.toInt32)), .val (.ref b1), .val (.ref b10), .val (.ref b24), .val (.ref b43), .val (.int (1 : Int32)), .val (.ref b67), .val (.ref b67)] [(.ref b67), (.ref b67)])) X76 hx rfl rfl rfl (pc0 := 188) (pc' := 191) (same := true) rfl (hb hby at_188) rfl (decide_eq_true rfl) (by decide) (by decide) k) ?_
    show own_G _ _ _ _ (T76.setTop (mkF m 191 #[.val (.int p0), .val (.int p1), .val (.int p2), .val (.int p3), .val (.int p4), .val (.int ((p1 &&& (65535 : Int32)).toUInt32.toUInt16.toUInt32.toInt32)), .val (.int ((p2 &&& (65535 : Int32)).toUInt32.toUInt16.toUInt32.toInt32)), .val (.int ((p3 &&& (65535 : Int32)).toUInt32.toUInt16.toUInt32.toInt32)), .val (.int ((p4 &&& (65535 : Int32)).toUInt32.toUInt16.toUInt32.toInt32)), .val (.ref b1), .val (.ref b10), .val (.ref b24), .val (.ref b43), .val (.int (1 : Int32)), .val (.ref b67), .val (.ref b67)] []))
    refine own_st (fun _ k => XS.iconst X76.here hx rfl (hb hby at_191) k) ?_
    show own_G _ _ _ _ (T76.setTop (mkF m 192 #[.val (.int p0), .val (.int p1), .val (.int p2), .val (.int p3), .val (.int p4), .val (.int ((p1 &&& (65535 : Int32)).toUInt32.toUInt16.toUInt32.toInt32)), .val (.int ((p2 &&& (65535 : Int32)).toUInt32.toUInt16.toUInt32.toInt32)), .val (.int ((p3 &&& (65535 : Int32)).toUInt32.toUInt16.toUInt32.toInt32)), .val (.int ((p4 &&& (65535 : Int32)).toUInt32.toUInt16.toUInt32.toInt32)), .val (.ref b1), .val (.ref b10), .val (.ref b24), .val (.ref b43), .val (.int (1 : Int32)), .val (.ref b67), .val (.ref b67)] [(.int (1 : Int32))]))
    refine own_st (fun _ k => XS.goto X76.here hx rfl (pc0 := 192) (pc' := 196) rfl (hb hby at_192) (by decide) (by decide) k) ?_
    show own_G _ _ _ _ (T76.setTop (mkF m 196 #[.val (.int p0), .val (.int p1), .val (.int p2), .val (.int p3), .val (.int p4), .val (.int ((p1 &&& (65535 : Int32)).toUInt32.toUInt16.toUInt32.toInt32)), .val (.int ((p2 &&& (65535 : Int32)).toUInt32.toUInt16.toUInt32.toInt32)), .val (.int ((p3 &&& (65535 : Int32)).toUInt32.toUInt16.toUInt32.toInt32)), .val (.int ((p4 &&& (65535 : Int32)).toUInt32.toUInt16.toUInt32.toInt32)), .val (.ref b1), .val (.ref b10), .val (.ref b24), .val (.ref b43), .val (.int (1 : Int32)), .val (.ref b67), .val (.ref b67)] [(.int (1 : Int32))]))
    exact own_retNW X76 hS76 (by have hSz : T76.heap = T76.heap := rfl; rw [hSz]; omega) hx hret hlk (by simp) (hb hby at_196) ⟨rfl, N76⟩ (by decide) (by decide)
  · skip
    rw [hl]
    show own_G _ _ _ _ (T63.setTop (mkF m 109 #[.val (.int p0), .val (.int p1), .val (.int p2), .val (.int p3), .val (.int p4), .val (.int ((p1 &&& (65535 : Int32)).toUInt32.toUInt16.toUInt32.toInt32)), .val (.int ((p2 &&& (65535 : Int32)).toUInt32.toUInt16.toUInt32.toInt32)), .val (.int ((p3 &&& (65535 : Int32)).toUInt32.toUInt16.toUInt32.toInt32)), .val (.int ((p4 &&& (65535 : Int32)).toUInt32.toUInt16.toUInt32.toInt32)), .val (.ref b1), .val (.ref b10), .val (.ref b24), .val (.ref b43), .val (.int (2 : Int32)), .unset, .unset] [(.int (1 : Int32)), (.int (2 : Int32))]))
    refine own_st (fun _ k => XS.icmpYes X63.here hx rfl (pc0 := 109) (pc' := 126) rfl (hb hby at_109) rfl (feq (by decide)).2 (by decide) (by decide) k) ?_
    show own_G _ _ _ _ (T63.setTop (mkF m 126 #[.val (.int p0), .val (.int p1), .val (.int p2), .val (.int p3), .val (.int p4), .val (.int ((p1 &&& (65535 : Int32)).toUInt32.toUInt16.toUInt32.toInt32)), .val (.int ((p2 &&& (65535 : Int32)).toUInt32.toUInt16.toUInt32.toInt32)), .val (.int ((p3 &&& (65535 : Int32)).toUInt32.toUInt16.toUInt32.toInt32)), .val (.int ((p4 &&& (65535 : Int32)).toUInt32.toUInt16.toUInt32.toInt32)), .val (.ref b1), .val (.ref b10), .val (.ref b24), .val (.ref b43), .val (.int (2 : Int32)), .unset, .unset] []))
    refine own_st (fun _ k => XS.iload X63.here hx rfl (hb hby at_126) rfl k) ?_
    show own_G _ _ _ _ (T63.setTop (mkF m 128 #[.val (.int p0), .val (.int p1), .val (.int p2), .val (.int p3), .val (.int p4), .val (.int ((p1 &&& (65535 : Int32)).toUInt32.toUInt16.toUInt32.toInt32)), .val (.int ((p2 &&& (65535 : Int32)).toUInt32.toUInt16.toUInt32.toInt32)), .val (.int ((p3 &&& (65535 : Int32)).toUInt32.toUInt16.toUInt32.toInt32)), .val (.int ((p4 &&& (65535 : Int32)).toUInt32.toUInt16.toUInt32.toInt32)), .val (.ref b1), .val (.ref b10), .val (.ref b24), .val (.ref b43), .val (.int (2 : Int32)), .unset, .unset] [(.int (2 : Int32))]))
    refine own_st (fun _ k => XS.iconst X63.here hx rfl (hb hby at_128) k) ?_
    show own_G _ _ _ _ (T63.setTop (mkF m 129 #[.val (.int p0), .val (.int p1), .val (.int p2), .val (.int p3), .val (.int p4), .val (.int ((p1 &&& (65535 : Int32)).toUInt32.toUInt16.toUInt32.toInt32)), .val (.int ((p2 &&& (65535 : Int32)).toUInt32.toUInt16.toUInt32.toInt32)), .val (.int ((p3 &&& (65535 : Int32)).toUInt32.toUInt16.toUInt32.toInt32)), .val (.int ((p4 &&& (65535 : Int32)).toUInt32.toUInt16.toUInt32.toInt32)), .val (.ref b1), .val (.ref b10), .val (.ref b24), .val (.ref b43), .val (.int (2 : Int32)), .unset, .unset] [(.int (2 : Int32)), (.int (2 : Int32))]))
    refine own_st (fun _ k => XS.icmpNo X63.here hx rfl (hb hby at_129) rfl (teq rfl).2 k) ?_
    show own_G _ _ _ _ (T63.setTop (mkF m 132 #[.val (.int p0), .val (.int p1), .val (.int p2), .val (.int p3), .val (.int p4), .val (.int ((p1 &&& (65535 : Int32)).toUInt32.toUInt16.toUInt32.toInt32)), .val (.int ((p2 &&& (65535 : Int32)).toUInt32.toUInt16.toUInt32.toInt32)), .val (.int ((p3 &&& (65535 : Int32)).toUInt32.toUInt16.toUInt32.toInt32)), .val (.int ((p4 &&& (65535 : Int32)).toUInt32.toUInt16.toUInt32.toInt32)), .val (.ref b1), .val (.ref b10), .val (.ref b24), .val (.ref b43), .val (.int (2 : Int32)), .unset, .unset] []))
    obtain ⟨T80, h80, X80, e80, E80, A80, D80, -, st80⟩ := newO X63 hx hZ hown (hw _ (List.mem_of_getElem? (i := 2) rfl)) (hw _ (List.mem_of_getElem? (i := 3) rfl)) (hw _ (List.mem_of_getElem? (i := 4) rfl)) e63 (g := (mkF m 132 #[.val (.int p0), .val (.int p1), .val (.int p2), .val (.int p3), .val (.int p4), .val (.int ((p1 &&& (65535 : Int32)).toUInt32.toUInt16.toUInt32.toInt32)), .val (.int ((p2 &&& (65535 : Int32)).toUInt32.toUInt16.toUInt32.toInt32)), .val (.int ((p3 &&& (65535 : Int32)).toUInt32.toUInt16.toUInt32.toInt32)), .val (.int ((p4 &&& (65535 : Int32)).toUInt32.toUInt16.toUInt32.toInt32)), .val (.ref b1), .val (.ref b10), .val (.ref b24), .val (.ref b43), .val (.int (2 : Int32)), .unset, .unset] [])) rfl (hb hby at_132) (by decide) (by decide)
    obtain ⟨b80, g80⟩ : ∃ z, z = h63.size := ⟨_, rfl⟩
    rw [← g80] at A80 D80 st80
    refine own_st st80 ?_
    have z81 : h63.size ≤ h80.size := E80.1
    have O82 := Old.ext O65 E80
    have K83 : Keep h0 h80 [] := K66.ext E80
    have F80_coder : Fld Z h80 b80 "java/lang/String" "coder" "B" (.int (0 : Int32)) := D80 (Or.inr (hw _ (List.mem_of_getElem? (i := 28) rfl))) (ty := .byte) (by decide)
    have F80_value : Fld Z h80 b80 "java/lang/String" "value" "[B" .null := D80 (Or.inr (hw _ (List.mem_of_getElem? (i := 30) rfl))) (ty := (.array .byte)) (by decide)
    have lt80 := own_ltN A80.lt
    show own_G _ _ _ _ (T80.setTop (mkF m 135 #[.val (.int p0), .val (.int p1), .val (.int p2), .val (.int p3), .val (.int p4), .val (.int ((p1 &&& (65535 : Int32)).toUInt32.toUInt16.toUInt32.toInt32)), .val (.int ((p2 &&& (65535 : Int32)).toUInt32.toUInt16.toUInt32.toInt32)), .val (.int ((p3 &&& (65535 : Int32)).toUInt32.toUInt16.toUInt32.toInt32)), .val (.int ((p4 &&& (65535 : Int32)).toUInt32.toUInt16.toUInt32.toInt32)), .val (.ref b1), .val (.ref b10), .val (.ref b24), .val (.ref b43), .val (.int (2 : Int32)), .unset, .unset] [(.ref b80)]))
    refine own_st (fun _ k => XS.dup X80.here hx rfl (hb hby at_135) rfl rfl k) ?_
    show own_G _ _ _ _ (T80.setTop (mkF m 136 #[.val (.int p0), .val (.int p1), .val (.int p2), .val (.int p3), .val (.int p4), .val (.int ((p1 &&& (65535 : Int32)).toUInt32.toUInt16.toUInt32.toInt32)), .val (.int ((p2 &&& (65535 : Int32)).toUInt32.toUInt16.toUInt32.toInt32)), .val (.int ((p3 &&& (65535 : Int32)).toUInt32.toUInt16.toUInt32.toInt32)), .val (.int ((p4 &&& (65535 : Int32)).toUInt32.toUInt16.toUInt32.toInt32)), .val (.ref b1), .val (.ref b10), .val (.ref b24), .val (.ref b43), .val (.int (2 : Int32)), .unset, .unset] [(.ref b80), (.ref b80)]))
    refine own_st (fun _ k => XS.aload X80.here hx rfl (hb hby at_136) rfl rfl k) ?_
    show own_G _ _ _ _ (T80.setTop (mkF m 138 #[.val (.int p0), .val (.int p1), .val (.int p2), .val (.int p3), .val (.int p4), .val (.int ((p1 &&& (65535 : Int32)).toUInt32.toUInt16.toUInt32.toInt32)), .val (.int ((p2 &&& (65535 : Int32)).toUInt32.toUInt16.toUInt32.toInt32)), .val (.int ((p3 &&& (65535 : Int32)).toUInt32.toUInt16.toUInt32.toInt32)), .val (.int ((p4 &&& (65535 : Int32)).toUInt32.toUInt16.toUInt32.toInt32)), .val (.ref b1), .val (.ref b10), .val (.ref b24), .val (.ref b43), .val (.int (2 : Int32)), .unset, .unset] [(.ref b10), (.ref b80), (.ref b80)]))
    have q84 : Arv Z h80 b10 k10 .char (2 : Int32) [(.int (nar .char ((p1 &&& (65535 : Int32)).toUInt32.toUInt16.toUInt32.toInt32))), (.int (nar .char ((p2 &&& (65535 : Int32)).toUInt32.toUInt16.toUInt32.toInt32)))] (.int (0 : Int32)) := ((((((((((V20'.ext E24).other W29 (show @Ne Nat b10 b24 by omega)).other W34 (show @Ne Nat b10 b24 by omega)).other W39 (show @Ne Nat b10 b24 by omega)).ext E43).other W48 (show @Ne Nat b10 b43 by omega)).other W53 (show @Ne Nat b10 b43 by omega)).other W58 (show @Ne Nat b10 b43 by omega)).other W63 (show @Ne Nat b10 b43 by omega)).ext E80)
    have Vc : Arv Z h80 b10 k10 .char (Int32.ofNat 2) (own_vals (own_f p1 p2 p3 p4) 2) (.int (0 : Int32)) := q84
    obtain ⟨_, _, ⟨T85, L85, k85, n85⟩, -, X85, ⟨Lc85, hQ85, l85, y85, z85⟩, st85⟩ := X80.specialBack hx (y := (⟨"java/lang/String", "<init>", "([C)V"⟩ : MethodName)) rfl hown (mvT hZ (hw _ (List.mem_of_getElem? (i := 5) rfl))) (mvT hZ (hw _ (List.mem_of_getElem? (i := 6) rfl))) (mvT hZ (hw _ (List.mem_of_getElem? (i := 7) rfl))) (by decide) (own_back (rm := ({ frames := 5, cells := 2, slots := 12, locals := 74 } : Room)) (W := 1) (own_newS l Z a0 hw [] b80 b10 2 (own_f p1 p2 p3 p4) k10 w1 .null (.int (0 : Int32)) h80 O82 (by decide) (by decide) (fun j _ => own_f_rng p1 p2 p3 p4 j) US S1 hw1 (by omega) (show @Ne Nat b80 b10 by omega) A80 F80_value F80_coder Vc) hZ (hw _ (List.mem_of_getElem? (i := 7) rfl)) (hw _ (List.mem_of_getElem? (i := 4) rfl)) (by decide) (by decide)) (g := (mkF m 138 #[.val (.int p0), .val (.int p1), .val (.int p2), .val (.int p3), .val (.int p4), .val (.int ((p1 &&& (65535 : Int32)).toUInt32.toUInt16.toUInt32.toInt32)), .val (.int ((p2 &&& (65535 : Int32)).toUInt32.toUInt16.toUInt32.toInt32)), .val (.int ((p3 &&& (65535 : Int32)).toUInt32.toUInt16.toUInt32.toInt32)), .val (.int ((p4 &&& (65535 : Int32)).toUInt32.toUInt16.toUInt32.toInt32)), .val (.ref b1), .val (.ref b10), .val (.ref b24), .val (.ref b43), .val (.int (2 : Int32)), .unset, .unset] [(.ref b10), (.ref b80), (.ref b80)])) rfl (by rw [hml]; rfl) (Steps.refl _) (a := b80) (argsL := [(.ref b10)]) (rest := [(.ref b80)]) (lenOf own_pd285 rfl) rfl (by show 2 * 0 + _ ≤ _; exact Nat.le_of_eq rfl) (hb hby at_138) (fun _ _ => ⟨rfl, e80, (by decide : 0 + 1 + 1 + 1 + 1 + 1 + 2 ≤ _), (by decide : 0 + 1 + 2 + 3 + 4 + 4 + 12 ≤ _)⟩)
    dsimp only [Pt.U, Pt.locs, Pt.cells, Pt.slots] at X85 l85 y85 z85 st85 hQ85
    subst l85 y85 z85
    obtain ⟨rfl, N85q, K85_, t, kt, gt, Hs⟩ := hQ85
    have N85 := Fr.app N63 N85q
    refine own_tr st85 ?_
    have z86 : h80.size ≤ T85.heap.size := K85_.1
    have O87 := Old.keep O82 K85_ (allS (by omega) all0)
    have K88 : Keep h0 T85.heap [] := K83.trans K85_ (allS (Or.inr (by omega)) all0)
    show own_G _ _ _ _ (T85.setTop (mkF m 141 #[.val (.int p0), .val (.int p1), .val (.int p2), .val (.int p3), .val (.int p4), .val (.int ((p1 &&& (65535 : Int32)).toUInt32.toUInt16.toUInt32.toInt32)), .val (.int ((p2 &&& (65535 : Int32)).toUInt32.toUInt16.toUInt32.toInt32)), .val (.int ((p3 &&& (65535 : Int32)).toUInt32.toUInt16.toUInt32.toInt32)), .val (.int ((p4 &&& (65535 : Int32)).toUInt32.toUInt16.toUInt32.toInt32)), .val (.ref b1), .val (.ref b10), .val (.ref b24), .val (.ref b43), .val (.int (2 : Int32)), .unset, .unset] [(.ref b80)]))
    refine own_st (fun _ k => XS.astore X85.here hx rfl (hb hby at_141) rfl rfl (l' := #[.val (.int p0), .val (.int p1), .val (.int p2), .val (.int p3), .val (.int p4), .val (.int ((p1 &&& (65535 : Int32)).toUInt32.toUInt16.toUInt32.toInt32)), .val (.int ((p2 &&& (65535 : Int32)).toUInt32.toUInt16.toUInt32.toInt32)), .val (.int ((p3 &&& (65535 : Int32)).toUInt32.toUInt16.toUInt32.toInt32)), .val (.int ((p4 &&& (65535 : Int32)).toUInt32.toUInt16.toUInt32.toInt32)), .val (.ref b1), .val (.ref b10), .val (.ref b24), .val (.ref b43), .val (.int (2 : Int32)), .val (.ref b80), .unset]) rfl k) ?_
    show own_G _ _ _ _ (T85.setTop (mkF m 143 #[.val (.int p0), .val (.int p1), .val (.int p2), .val (.int p3), .val (.int p4), .val (.int ((p1 &&& (65535 : Int32)).toUInt32.toUInt16.toUInt32.toInt32)), .val (.int ((p2 &&& (65535 : Int32)).toUInt32.toUInt16.toUInt32.toInt32)), .val (.int ((p3 &&& (65535 : Int32)).toUInt32.toUInt16.toUInt32.toInt32)), .val (.int ((p4 &&& (65535 : Int32)).toUInt32.toUInt16.toUInt32.toInt32)), .val (.ref b1), .val (.ref b10), .val (.ref b24), .val (.ref b43), .val (.int (2 : Int32)), .val (.ref b80), .unset] []))
    refine own_st (fun _ k => XS.goto X85.here hx rfl (pc0 := 143) (pc' := 177) rfl (hb hby at_143) (by decide) (by decide) k) ?_
    show own_G _ _ _ _ (T85.setTop (mkF m 177 #[.val (.int p0), .val (.int p1), .val (.int p2), .val (.int p3), .val (.int p4), .val (.int ((p1 &&& (65535 : Int32)).toUInt32.toUInt16.toUInt32.toInt32)), .val (.int ((p2 &&& (65535 : Int32)).toUInt32.toUInt16.toUInt32.toInt32)), .val (.int ((p3 &&& (65535 : Int32)).toUInt32.toUInt16.toUInt32.toInt32)), .val (.int ((p4 &&& (65535 : Int32)).toUInt32.toUInt16.toUInt32.toInt32)), .val (.ref b1), .val (.ref b10), .val (.ref b24), .val (.ref b43), .val (.int (2 : Int32)), .val (.ref b80), .unset] []))
    refine own_st (fun _ k => XS.aload X85.here hx rfl (hb hby at_177) rfl rfl k) ?_
    show own_G _ _ _ _ (T85.setTop (mkF m 179 #[.val (.int p0), .val (.int p1), .val (.int p2), .val (.int p3), .val (.int p4), .val (.int ((p1 &&& (65535 : Int32)).toUInt32.toUInt16.toUInt32.toInt32)), .val (.int ((p2 &&& (65535 : Int32)).toUInt32.toUInt16.toUInt32.toInt32)), .val (.int ((p3 &&& (65535 : Int32)).toUInt32.toUInt16.toUInt32.toInt32)), .val (.int ((p4 &&& (65535 : Int32)).toUInt32.toUInt16.toUInt32.toInt32)), .val (.ref b1), .val (.ref b10), .val (.ref b24), .val (.ref b43), .val (.int (2 : Int32)), .val (.ref b80), .unset] [(.ref b80)]))
    have hS00 : s.Since s.vm 0 := (State.WarmedH.refl s).since 0
    obtain ⟨_, vq89, ⟨T89, L89, k89, n89⟩, -, X89, hSq89, hgr89, ⟨Lc89, hQ89, l89, y89, z89⟩, st89⟩ := Jvm.RoadKit.callSS X85 hx (y := (⟨"com/example/atomic_bracket/atomicbracket/Bracket", "checkedName", "(Ljava/lang/String;)Ljava/lang/String;"⟩ : MethodName)) hown (mvT hZ (hw _ (List.mem_of_getElem? (i := 31) rfl))) (mvT hZ (hw _ (List.mem_of_getElem? (i := 32) rfl))) (mvT hZ (hw _ (List.mem_of_getElem? (i := 33) rfl))) (mvT hZ (hw _ (List.mem_of_getElem? (i := 34) rfl))) (by decide) (own_backS (rm := ({ frames := 1, cells := 2, slots := 24, locals := 20 } : Room)) (W := 0) (own_cn l Z a0 hw [] b80 t kt 2 (own_f p1 p2 p3 p4) T85.heap O87 (by decide) (by decide) Hs) hZ (hw _ (List.mem_of_getElem? (i := 34) rfl)) (hw _ (List.mem_of_getElem? (i := 33) rfl)) (by decide) (by decide)) (g := (mkF m 179 #[.val (.int p0), .val (.int p1), .val (.int p2), .val (.int p3), .val (.int p4), .val (.int ((p1 &&& (65535 : Int32)).toUInt32.toUInt16.toUInt32.toInt32)), .val (.int ((p2 &&& (65535 : Int32)).toUInt32.toUInt16.toUInt32.toInt32)), .val (.int ((p3 &&& (65535 : Int32)).toUInt32.toUInt16.toUInt32.toInt32)), .val (.int ((p4 &&& (65535 : Int32)).toUInt32.toUInt16.toUInt32.toInt32)), .val (.ref b1), .val (.ref b10), .val (.ref b24), .val (.ref b43), .val (.int (2 : Int32)), .val (.ref b80), .unset] [(.ref b80)])) rfl (by rw [hml]; rfl) (argsL := [(.ref b80)]) (rest := []) (lenOf own_pd290 rfl) rfl (by show 2 * 0 + _ ≤ _; exact Nat.le_of_eq rfl) (hb hby at_179) (fun _ _ => ⟨rfl, rfl, (by decide : 0 + 1 + 1 + 1 + 1 + 1 + 2 + 2 ≤ _), (by decide : 0 + 1 + 2 + 3 + 4 + 4 + 12 + 24 ≤ _)⟩)
    dsimp only [Pt.U, Pt.locs, Pt.cells, Pt.slots] at X89 l89 y89 z89 st89 hQ89 hSq89 hgr89
    subst l89 y89 z89
    obtain ⟨rfl, N89q, K89_⟩ := hQ89
    have N89 := Fr.app N85 N89q
    refine own_tr st89 ?_
    have hS89 := hSq89
    have hZ89 : Z.Warmed39 (s.setVm T89.vm).vm := State.Warmed39.trans (t := s) hZ hSq89.1
    have hown89 : (s.setVm T89.vm).vm.findClass "com/example/atomic_bracket/atomicbracket/BracketCheckedNamePinLaw" = some m.cls := by rw [show (s.setVm T89.vm).vm = T89.vm from rfl, hSq89.1.alike.findClass]; exact hown
    have z90 : T85.heap.size ≤ T89.heap.size := K89_.1
    have O91 := Old.keep O87 K89_ all0
    have K92 : Keep h0 T89.heap [] := K88.trans K89_ all0
    show own_G _ _ _ _ (T89.setTop (mkF m 182 #[.val (.int p0), .val (.int p1), .val (.int p2), .val (.int p3), .val (.int p4), .val (.int ((p1 &&& (65535 : Int32)).toUInt32.toUInt16.toUInt32.toInt32)), .val (.int ((p2 &&& (65535 : Int32)).toUInt32.toUInt16.toUInt32.toInt32)), .val (.int ((p3 &&& (65535 : Int32)).toUInt32.toUInt16.toUInt32.toInt32)), .val (.int ((p4 &&& (65535 : Int32)).toUInt32.toUInt16.toUInt32.toInt32)), .val (.ref b1), .val (.ref b10), .val (.ref b24), .val (.ref b43), .val (.int (2 : Int32)), .val (.ref b80), .unset] [(.ref b80)]))
    refine own_st (fun _ k => XS.astore X89.here hx rfl (hb hby at_182) rfl rfl (l' := #[.val (.int p0), .val (.int p1), .val (.int p2), .val (.int p3), .val (.int p4), .val (.int ((p1 &&& (65535 : Int32)).toUInt32.toUInt16.toUInt32.toInt32)), .val (.int ((p2 &&& (65535 : Int32)).toUInt32.toUInt16.toUInt32.toInt32)), .val (.int ((p3 &&& (65535 : Int32)).toUInt32.toUInt16.toUInt32.toInt32)), .val (.int ((p4 &&& (65535 : Int32)).toUInt32.toUInt16.toUInt32.toInt32)), .val (.ref b1), .val (.ref b10), .val (.ref b24), .val (.ref b43), .val (.int (2 : Int32)), .val (.ref b80), .val (.ref b80)]) rfl k) ?_
    show own_G _ _ _ _ (T89.setTop (mkF m 184 #[.val (.int p0), .val (.int p1), .val (.int p2), .val (.int p3), .val (.int p4), .val (.int ((p1 &&& (65535 : Int32)).toUInt32.toUInt16.toUInt32.toInt32)), .val (.int ((p2 &&& (65535 : Int32)).toUInt32.toUInt16.toUInt32.toInt32)), .val (.int ((p3 &&& (65535 : Int32)).toUInt32.toUInt16.toUInt32.toInt32)), .val (.int ((p4 &&& (65535 : Int32)).toUInt32.toUInt16.toUInt32.toInt32)), .val (.ref b1), .val (.ref b10), .val (.ref b24), .val (.ref b43), .val (.int (2 : Int32)), .val (.ref b80), .val (.ref b80)] []))
    refine own_st (fun _ k => XS.aload X89.here hx rfl (hb hby at_184) rfl rfl k) ?_
    show own_G _ _ _ _ (T89.setTop (mkF m 186 #[.val (.int p0), .val (.int p1), .val (.int p2), .val (.int p3), .val (.int p4), .val (.int ((p1 &&& (65535 : Int32)).toUInt32.toUInt16.toUInt32.toInt32)), .val (.int ((p2 &&& (65535 : Int32)).toUInt32.toUInt16.toUInt32.toInt32)), .val (.int ((p3 &&& (65535 : Int32)).toUInt32.toUInt16.toUInt32.toInt32)), .val (.int ((p4 &&& (65535 : Int32)).toUInt32.toUInt16.toUInt32.toInt32)), .val (.ref b1), .val (.ref b10), .val (.ref b24), .val (.ref b43), .val (.int (2 : Int32)), .val (.ref b80), .val (.ref b80)] [(.ref b80)]))
    refine own_st (fun _ k => XS.aload X89.here hx rfl (hb hby at_186) rfl rfl k) ?_
    show own_G _ _ _ _ (T89.setTop (mkF m 188 #[.val (.int p0), .val (.int p1), .val (.int p2), .val (.int p3), .val (.int p4), .val (.int ((p1 &&& (65535 : Int32)).toUInt32.toUInt16.toUInt32.toInt32)), .val (.int ((p2 &&& (65535 : Int32)).toUInt32.toUInt16.toUInt32.toInt32)), .val (.int ((p3 &&& (65535 : Int32)).toUInt32.toUInt16.toUInt32.toInt32)), .val (.int ((p4 &&& (65535 : Int32)).toUInt32.toUInt16.toUInt32.toInt32)), .val (.ref b1), .val (.ref b10), .val (.ref b24), .val (.ref b43), .val (.int (2 : Int32)), .val (.ref b80), .val (.ref b80)] [(.ref b80), (.ref b80)]))
    refine own_st (fun _ k => Jvm.RoadKit.acmp (g := (mkF m 188 #[.val (.int p0), .val (.int p1), .val (.int p2), .val (.int p3), .val (.int p4), .val (.int ((p1 &&& (65535 : Int32)).toUInt32.toUInt16.toUInt32.toInt32)), .val (.int ((p2 &&& (65535 : Int32)).toUInt32.toUInt16.toUInt32.toInt32)), .val (.int ((p3 &&& (65535 : Int32)).toUInt32.toUInt16.toUInt32.toInt32)), .val (.int ((p4 &&& (65535 : Int32)).toUInt32.toUInt16.toUInt32.toInt32)), .val (.ref b1), .val (.ref b10), .val (.ref b24), .val (.ref b43), .val (.int (2 : Int32)), .val (.ref b80), .val (.ref b80)] [(.ref b80), (.ref b80)])) X89 hx rfl rfl rfl (pc0 := 188) (pc' := 191) (same := true) rfl (hb hby at_188) rfl (decide_eq_true rfl) (by decide) (by decide) k) ?_
    show own_G _ _ _ _ (T89.setTop (mkF m 191 #[.val (.int p0), .val (.int p1), .val (.int p2), .val (.int p3), .val (.int p4), .val (.int ((p1 &&& (65535 : Int32)).toUInt32.toUInt16.toUInt32.toInt32)), .val (.int ((p2 &&& (65535 : Int32)).toUInt32.toUInt16.toUInt32.toInt32)), .val (.int ((p3 &&& (65535 : Int32)).toUInt32.toUInt16.toUInt32.toInt32)), .val (.int ((p4 &&& (65535 : Int32)).toUInt32.toUInt16.toUInt32.toInt32)), .val (.ref b1), .val (.ref b10), .val (.ref b24), .val (.ref b43), .val (.int (2 : Int32)), .val (.ref b80), .val (.ref b80)] []))
    refine own_st (fun _ k => XS.iconst X89.here hx rfl (hb hby at_191) k) ?_
    show own_G _ _ _ _ (T89.setTop (mkF m 192 #[.val (.int p0), .val (.int p1), .val (.int p2), .val (.int p3), .val (.int p4), .val (.int ((p1 &&& (65535 : Int32)).toUInt32.toUInt16.toUInt32.toInt32)), .val (.int ((p2 &&& (65535 : Int32)).toUInt32.toUInt16.toUInt32.toInt32)), .val (.int ((p3 &&& (65535 : Int32)).toUInt32.toUInt16.toUInt32.toInt32)), .val (.int ((p4 &&& (65535 : Int32)).toUInt32.toUInt16.toUInt32.toInt32)), .val (.ref b1), .val (.ref b10), .val (.ref b24), .val (.ref b43), .val (.int (2 : Int32)), .val (.ref b80), .val (.ref b80)] [(.int (1 : Int32))]))
    refine own_st (fun _ k => XS.goto X89.here hx rfl (pc0 := 192) (pc' := 196) rfl (hb hby at_192) (by decide) (by decide) k) ?_
    show own_G _ _ _ _ (T89.setTop (mkF m 196 #[.val (.int p0), .val (.int p1), .val (.int p2), .val (.int p3), .val (.int p4), .val (.int ((p1 &&& (65535 : Int32)).toUInt32.toUInt16.toUInt32.toInt32)), .val (.int ((p2 &&& (65535 : Int32)).toUInt32.toUInt16.toUInt32.toInt32)), .val (.int ((p3 &&& (65535 : Int32)).toUInt32.toUInt16.toUInt32.toInt32)), .val (.int ((p4 &&& (65535 : Int32)).toUInt32.toUInt16.toUInt32.toInt32)), .val (.ref b1), .val (.ref b10), .val (.ref b24), .val (.ref b43), .val (.int (2 : Int32)), .val (.ref b80), .val (.ref b80)] [(.int (1 : Int32))]))
    exact own_retNW X89 hS89 (by have hSz : T89.heap = T89.heap := rfl; rw [hSz]; omega) hx hret hlk (by simp) (hb hby at_196) ⟨rfl, N89⟩ (by decide) (by decide)
  · skip
    rw [hl]
    show own_G _ _ _ _ (T63.setTop (mkF m 109 #[.val (.int p0), .val (.int p1), .val (.int p2), .val (.int p3), .val (.int p4), .val (.int ((p1 &&& (65535 : Int32)).toUInt32.toUInt16.toUInt32.toInt32)), .val (.int ((p2 &&& (65535 : Int32)).toUInt32.toUInt16.toUInt32.toInt32)), .val (.int ((p3 &&& (65535 : Int32)).toUInt32.toUInt16.toUInt32.toInt32)), .val (.int ((p4 &&& (65535 : Int32)).toUInt32.toUInt16.toUInt32.toInt32)), .val (.ref b1), .val (.ref b10), .val (.ref b24), .val (.ref b43), .val (.int (3 : Int32)), .unset, .unset] [(.int (1 : Int32)), (.int (3 : Int32))]))
    refine own_st (fun _ k => XS.icmpYes X63.here hx rfl (pc0 := 109) (pc' := 126) rfl (hb hby at_109) rfl (feq (by decide)).2 (by decide) (by decide) k) ?_
    show own_G _ _ _ _ (T63.setTop (mkF m 126 #[.val (.int p0), .val (.int p1), .val (.int p2), .val (.int p3), .val (.int p4), .val (.int ((p1 &&& (65535 : Int32)).toUInt32.toUInt16.toUInt32.toInt32)), .val (.int ((p2 &&& (65535 : Int32)).toUInt32.toUInt16.toUInt32.toInt32)), .val (.int ((p3 &&& (65535 : Int32)).toUInt32.toUInt16.toUInt32.toInt32)), .val (.int ((p4 &&& (65535 : Int32)).toUInt32.toUInt16.toUInt32.toInt32)), .val (.ref b1), .val (.ref b10), .val (.ref b24), .val (.ref b43), .val (.int (3 : Int32)), .unset, .unset] []))
    refine own_st (fun _ k => XS.iload X63.here hx rfl (hb hby at_126) rfl k) ?_
    show own_G _ _ _ _ (T63.setTop (mkF m 128 #[.val (.int p0), .val (.int p1), .val (.int p2), .val (.int p3), .val (.int p4), .val (.int ((p1 &&& (65535 : Int32)).toUInt32.toUInt16.toUInt32.toInt32)), .val (.int ((p2 &&& (65535 : Int32)).toUInt32.toUInt16.toUInt32.toInt32)), .val (.int ((p3 &&& (65535 : Int32)).toUInt32.toUInt16.toUInt32.toInt32)), .val (.int ((p4 &&& (65535 : Int32)).toUInt32.toUInt16.toUInt32.toInt32)), .val (.ref b1), .val (.ref b10), .val (.ref b24), .val (.ref b43), .val (.int (3 : Int32)), .unset, .unset] [(.int (3 : Int32))]))
    refine own_st (fun _ k => XS.iconst X63.here hx rfl (hb hby at_128) k) ?_
    show own_G _ _ _ _ (T63.setTop (mkF m 129 #[.val (.int p0), .val (.int p1), .val (.int p2), .val (.int p3), .val (.int p4), .val (.int ((p1 &&& (65535 : Int32)).toUInt32.toUInt16.toUInt32.toInt32)), .val (.int ((p2 &&& (65535 : Int32)).toUInt32.toUInt16.toUInt32.toInt32)), .val (.int ((p3 &&& (65535 : Int32)).toUInt32.toUInt16.toUInt32.toInt32)), .val (.int ((p4 &&& (65535 : Int32)).toUInt32.toUInt16.toUInt32.toInt32)), .val (.ref b1), .val (.ref b10), .val (.ref b24), .val (.ref b43), .val (.int (3 : Int32)), .unset, .unset] [(.int (2 : Int32)), (.int (3 : Int32))]))
    refine own_st (fun _ k => XS.icmpYes X63.here hx rfl (pc0 := 129) (pc' := 146) rfl (hb hby at_129) rfl (feq (by decide)).2 (by decide) (by decide) k) ?_
    show own_G _ _ _ _ (T63.setTop (mkF m 146 #[.val (.int p0), .val (.int p1), .val (.int p2), .val (.int p3), .val (.int p4), .val (.int ((p1 &&& (65535 : Int32)).toUInt32.toUInt16.toUInt32.toInt32)), .val (.int ((p2 &&& (65535 : Int32)).toUInt32.toUInt16.toUInt32.toInt32)), .val (.int ((p3 &&& (65535 : Int32)).toUInt32.toUInt16.toUInt32.toInt32)), .val (.int ((p4 &&& (65535 : Int32)).toUInt32.toUInt16.toUInt32.toInt32)), .val (.ref b1), .val (.ref b10), .val (.ref b24), .val (.ref b43), .val (.int (3 : Int32)), .unset, .unset] []))
    refine own_st (fun _ k => XS.iload X63.here hx rfl (hb hby at_146) rfl k) ?_
    show own_G _ _ _ _ (T63.setTop (mkF m 148 #[.val (.int p0), .val (.int p1), .val (.int p2), .val (.int p3), .val (.int p4), .val (.int ((p1 &&& (65535 : Int32)).toUInt32.toUInt16.toUInt32.toInt32)), .val (.int ((p2 &&& (65535 : Int32)).toUInt32.toUInt16.toUInt32.toInt32)), .val (.int ((p3 &&& (65535 : Int32)).toUInt32.toUInt16.toUInt32.toInt32)), .val (.int ((p4 &&& (65535 : Int32)).toUInt32.toUInt16.toUInt32.toInt32)), .val (.ref b1), .val (.ref b10), .val (.ref b24), .val (.ref b43), .val (.int (3 : Int32)), .unset, .unset] [(.int (3 : Int32))]))
    refine own_st (fun _ k => XS.iconst X63.here hx rfl (hb hby at_148) k) ?_
    show own_G _ _ _ _ (T63.setTop (mkF m 149 #[.val (.int p0), .val (.int p1), .val (.int p2), .val (.int p3), .val (.int p4), .val (.int ((p1 &&& (65535 : Int32)).toUInt32.toUInt16.toUInt32.toInt32)), .val (.int ((p2 &&& (65535 : Int32)).toUInt32.toUInt16.toUInt32.toInt32)), .val (.int ((p3 &&& (65535 : Int32)).toUInt32.toUInt16.toUInt32.toInt32)), .val (.int ((p4 &&& (65535 : Int32)).toUInt32.toUInt16.toUInt32.toInt32)), .val (.ref b1), .val (.ref b10), .val (.ref b24), .val (.ref b43), .val (.int (3 : Int32)), .unset, .unset] [(.int (3 : Int32)), (.int (3 : Int32))]))
    refine own_st (fun _ k => XS.icmpNo X63.here hx rfl (hb hby at_149) rfl (teq rfl).2 k) ?_
    show own_G _ _ _ _ (T63.setTop (mkF m 152 #[.val (.int p0), .val (.int p1), .val (.int p2), .val (.int p3), .val (.int p4), .val (.int ((p1 &&& (65535 : Int32)).toUInt32.toUInt16.toUInt32.toInt32)), .val (.int ((p2 &&& (65535 : Int32)).toUInt32.toUInt16.toUInt32.toInt32)), .val (.int ((p3 &&& (65535 : Int32)).toUInt32.toUInt16.toUInt32.toInt32)), .val (.int ((p4 &&& (65535 : Int32)).toUInt32.toUInt16.toUInt32.toInt32)), .val (.ref b1), .val (.ref b10), .val (.ref b24), .val (.ref b43), .val (.int (3 : Int32)), .unset, .unset] []))
    obtain ⟨T93, h93, X93, e93, E93, A93, D93, -, st93⟩ := newO X63 hx hZ hown (hw _ (List.mem_of_getElem? (i := 2) rfl)) (hw _ (List.mem_of_getElem? (i := 3) rfl)) (hw _ (List.mem_of_getElem? (i := 4) rfl)) e63 (g := (mkF m 152 #[.val (.int p0), .val (.int p1), .val (.int p2), .val (.int p3), .val (.int p4), .val (.int ((p1 &&& (65535 : Int32)).toUInt32.toUInt16.toUInt32.toInt32)), .val (.int ((p2 &&& (65535 : Int32)).toUInt32.toUInt16.toUInt32.toInt32)), .val (.int ((p3 &&& (65535 : Int32)).toUInt32.toUInt16.toUInt32.toInt32)), .val (.int ((p4 &&& (65535 : Int32)).toUInt32.toUInt16.toUInt32.toInt32)), .val (.ref b1), .val (.ref b10), .val (.ref b24), .val (.ref b43), .val (.int (3 : Int32)), .unset, .unset] [])) rfl (hb hby at_152) (by decide) (by decide)
    obtain ⟨b93, g93⟩ : ∃ z, z = h63.size := ⟨_, rfl⟩
    rw [← g93] at A93 D93 st93
    refine own_st st93 ?_
    have z94 : h63.size ≤ h93.size := E93.1
    have O95 := Old.ext O65 E93
    have K96 : Keep h0 h93 [] := K66.ext E93
    have F93_coder : Fld Z h93 b93 "java/lang/String" "coder" "B" (.int (0 : Int32)) := D93 (Or.inr (hw _ (List.mem_of_getElem? (i := 28) rfl))) (ty := .byte) (by decide)
    have F93_value : Fld Z h93 b93 "java/lang/String" "value" "[B" .null := D93 (Or.inr (hw _ (List.mem_of_getElem? (i := 30) rfl))) (ty := (.array .byte)) (by decide)
    have lt93 := own_ltN A93.lt
    show own_G _ _ _ _ (T93.setTop (mkF m 155 #[.val (.int p0), .val (.int p1), .val (.int p2), .val (.int p3), .val (.int p4), .val (.int ((p1 &&& (65535 : Int32)).toUInt32.toUInt16.toUInt32.toInt32)), .val (.int ((p2 &&& (65535 : Int32)).toUInt32.toUInt16.toUInt32.toInt32)), .val (.int ((p3 &&& (65535 : Int32)).toUInt32.toUInt16.toUInt32.toInt32)), .val (.int ((p4 &&& (65535 : Int32)).toUInt32.toUInt16.toUInt32.toInt32)), .val (.ref b1), .val (.ref b10), .val (.ref b24), .val (.ref b43), .val (.int (3 : Int32)), .unset, .unset] [(.ref b93)]))
    refine own_st (fun _ k => XS.dup X93.here hx rfl (hb hby at_155) rfl rfl k) ?_
    show own_G _ _ _ _ (T93.setTop (mkF m 156 #[.val (.int p0), .val (.int p1), .val (.int p2), .val (.int p3), .val (.int p4), .val (.int ((p1 &&& (65535 : Int32)).toUInt32.toUInt16.toUInt32.toInt32)), .val (.int ((p2 &&& (65535 : Int32)).toUInt32.toUInt16.toUInt32.toInt32)), .val (.int ((p3 &&& (65535 : Int32)).toUInt32.toUInt16.toUInt32.toInt32)), .val (.int ((p4 &&& (65535 : Int32)).toUInt32.toUInt16.toUInt32.toInt32)), .val (.ref b1), .val (.ref b10), .val (.ref b24), .val (.ref b43), .val (.int (3 : Int32)), .unset, .unset] [(.ref b93), (.ref b93)]))
    refine own_st (fun _ k => XS.aload X93.here hx rfl (hb hby at_156) rfl rfl k) ?_
    show own_G _ _ _ _ (T93.setTop (mkF m 158 #[.val (.int p0), .val (.int p1), .val (.int p2), .val (.int p3), .val (.int p4), .val (.int ((p1 &&& (65535 : Int32)).toUInt32.toUInt16.toUInt32.toInt32)), .val (.int ((p2 &&& (65535 : Int32)).toUInt32.toUInt16.toUInt32.toInt32)), .val (.int ((p3 &&& (65535 : Int32)).toUInt32.toUInt16.toUInt32.toInt32)), .val (.int ((p4 &&& (65535 : Int32)).toUInt32.toUInt16.toUInt32.toInt32)), .val (.ref b1), .val (.ref b10), .val (.ref b24), .val (.ref b43), .val (.int (3 : Int32)), .unset, .unset] [(.ref b24), (.ref b93), (.ref b93)]))
    have q97 : Arv Z h93 b24 k24 .char (3 : Int32) [(.int (nar .char ((p1 &&& (65535 : Int32)).toUInt32.toUInt16.toUInt32.toInt32))), (.int (nar .char ((p2 &&& (65535 : Int32)).toUInt32.toUInt16.toUInt32.toInt32))), (.int (nar .char ((p3 &&& (65535 : Int32)).toUInt32.toUInt16.toUInt32.toInt32)))] (.int (0 : Int32)) := ((((((V39'.ext E43).other W48 (show @Ne Nat b24 b43 by omega)).other W53 (show @Ne Nat b24 b43 by omega)).other W58 (show @Ne Nat b24 b43 by omega)).other W63 (show @Ne Nat b24 b43 by omega)).ext E93)
    have Vc : Arv Z h93 b24 k24 .char (Int32.ofNat 3) (own_vals (own_f p1 p2 p3 p4) 3) (.int (0 : Int32)) := q97
    obtain ⟨_, _, ⟨T98, L98, k98, n98⟩, -, X98, ⟨Lc98, hQ98, l98, y98, z98⟩, st98⟩ := X93.specialBack hx (y := (⟨"java/lang/String", "<init>", "([C)V"⟩ : MethodName)) rfl hown (mvT hZ (hw _ (List.mem_of_getElem? (i := 5) rfl))) (mvT hZ (hw _ (List.mem_of_getElem? (i := 6) rfl))) (mvT hZ (hw _ (List.mem_of_getElem? (i := 7) rfl))) (by decide) (own_back (rm := ({ frames := 5, cells := 2, slots := 12, locals := 74 } : Room)) (W := 1) (own_newS l Z a0 hw [] b93 b24 3 (own_f p1 p2 p3 p4) k24 w1 .null (.int (0 : Int32)) h93 O95 (by decide) (by decide) (fun j _ => own_f_rng p1 p2 p3 p4 j) US S1 hw1 (by omega) (show @Ne Nat b93 b24 by omega) A93 F93_value F93_coder Vc) hZ (hw _ (List.mem_of_getElem? (i := 7) rfl)) (hw _ (List.mem_of_getElem? (i := 4) rfl)) (by decide) (by decide)) (g := (mkF m 158 #[.val (.int p0), .val (.int p1), .val (.int p2), .val (.int p3), .val (.int p4), .val (.int ((p1 &&& (65535 : Int32)).toUInt32.toUInt16.toUInt32.toInt32)), .val (.int ((p2 &&& (65535 : Int32)).toUInt32.toUInt16.toUInt32.toInt32)), .val (.int ((p3 &&& (65535 : Int32)).toUInt32.toUInt16.toUInt32.toInt32)), .val (.int ((p4 &&& (65535 : Int32)).toUInt32.toUInt16.toUInt32.toInt32)), .val (.ref b1), .val (.ref b10), .val (.ref b24), .val (.ref b43), .val (.int (3 : Int32)), .unset, .unset] [(.ref b24), (.ref b93), (.ref b93)])) rfl (by rw [hml]; rfl) (Steps.refl _) (a := b93) (argsL := [(.ref b24)]) (rest := [(.ref b93)]) (lenOf own_pd285 rfl) rfl (by show 2 * 0 + _ ≤ _; exact Nat.le_of_eq rfl) (hb hby at_158) (fun _ _ => ⟨rfl, e93, (by decide : 0 + 1 + 1 + 1 + 1 + 1 + 2 ≤ _), (by decide : 0 + 1 + 2 + 3 + 4 + 4 + 12 ≤ _)⟩)
    dsimp only [Pt.U, Pt.locs, Pt.cells, Pt.slots] at X98 l98 y98 z98 st98 hQ98
    subst l98 y98 z98
    obtain ⟨rfl, N98q, K98_, t, kt, gt, Hs⟩ := hQ98
    have N98 := Fr.app N63 N98q
    refine own_tr st98 ?_
    have z99 : h93.size ≤ T98.heap.size := K98_.1
    have O100 := Old.keep O95 K98_ (allS (by omega) all0)
    have K101 : Keep h0 T98.heap [] := K96.trans K98_ (allS (Or.inr (by omega)) all0)
    show own_G _ _ _ _ (T98.setTop (mkF m 161 #[.val (.int p0), .val (.int p1), .val (.int p2), .val (.int p3), .val (.int p4), .val (.int ((p1 &&& (65535 : Int32)).toUInt32.toUInt16.toUInt32.toInt32)), .val (.int ((p2 &&& (65535 : Int32)).toUInt32.toUInt16.toUInt32.toInt32)), .val (.int ((p3 &&& (65535 : Int32)).toUInt32.toUInt16.toUInt32.toInt32)), .val (.int ((p4 &&& (65535 : Int32)).toUInt32.toUInt16.toUInt32.toInt32)), .val (.ref b1), .val (.ref b10), .val (.ref b24), .val (.ref b43), .val (.int (3 : Int32)), .unset, .unset] [(.ref b93)]))
    refine own_st (fun _ k => XS.astore X98.here hx rfl (hb hby at_161) rfl rfl (l' := #[.val (.int p0), .val (.int p1), .val (.int p2), .val (.int p3), .val (.int p4), .val (.int ((p1 &&& (65535 : Int32)).toUInt32.toUInt16.toUInt32.toInt32)), .val (.int ((p2 &&& (65535 : Int32)).toUInt32.toUInt16.toUInt32.toInt32)), .val (.int ((p3 &&& (65535 : Int32)).toUInt32.toUInt16.toUInt32.toInt32)), .val (.int ((p4 &&& (65535 : Int32)).toUInt32.toUInt16.toUInt32.toInt32)), .val (.ref b1), .val (.ref b10), .val (.ref b24), .val (.ref b43), .val (.int (3 : Int32)), .val (.ref b93), .unset]) rfl k) ?_
    show own_G _ _ _ _ (T98.setTop (mkF m 163 #[.val (.int p0), .val (.int p1), .val (.int p2), .val (.int p3), .val (.int p4), .val (.int ((p1 &&& (65535 : Int32)).toUInt32.toUInt16.toUInt32.toInt32)), .val (.int ((p2 &&& (65535 : Int32)).toUInt32.toUInt16.toUInt32.toInt32)), .val (.int ((p3 &&& (65535 : Int32)).toUInt32.toUInt16.toUInt32.toInt32)), .val (.int ((p4 &&& (65535 : Int32)).toUInt32.toUInt16.toUInt32.toInt32)), .val (.ref b1), .val (.ref b10), .val (.ref b24), .val (.ref b43), .val (.int (3 : Int32)), .val (.ref b93), .unset] []))
    refine own_st (fun _ k => XS.goto X98.here hx rfl (pc0 := 163) (pc' := 177) rfl (hb hby at_163) (by decide) (by decide) k) ?_
    show own_G _ _ _ _ (T98.setTop (mkF m 177 #[.val (.int p0), .val (.int p1), .val (.int p2), .val (.int p3), .val (.int p4), .val (.int ((p1 &&& (65535 : Int32)).toUInt32.toUInt16.toUInt32.toInt32)), .val (.int ((p2 &&& (65535 : Int32)).toUInt32.toUInt16.toUInt32.toInt32)), .val (.int ((p3 &&& (65535 : Int32)).toUInt32.toUInt16.toUInt32.toInt32)), .val (.int ((p4 &&& (65535 : Int32)).toUInt32.toUInt16.toUInt32.toInt32)), .val (.ref b1), .val (.ref b10), .val (.ref b24), .val (.ref b43), .val (.int (3 : Int32)), .val (.ref b93), .unset] []))
    refine own_st (fun _ k => XS.aload X98.here hx rfl (hb hby at_177) rfl rfl k) ?_
    show own_G _ _ _ _ (T98.setTop (mkF m 179 #[.val (.int p0), .val (.int p1), .val (.int p2), .val (.int p3), .val (.int p4), .val (.int ((p1 &&& (65535 : Int32)).toUInt32.toUInt16.toUInt32.toInt32)), .val (.int ((p2 &&& (65535 : Int32)).toUInt32.toUInt16.toUInt32.toInt32)), .val (.int ((p3 &&& (65535 : Int32)).toUInt32.toUInt16.toUInt32.toInt32)), .val (.int ((p4 &&& (65535 : Int32)).toUInt32.toUInt16.toUInt32.toInt32)), .val (.ref b1), .val (.ref b10), .val (.ref b24), .val (.ref b43), .val (.int (3 : Int32)), .val (.ref b93), .unset] [(.ref b93)]))
    have hS00 : s.Since s.vm 0 := (State.WarmedH.refl s).since 0
    obtain ⟨_, vq102, ⟨T102, L102, k102, n102⟩, -, X102, hSq102, hgr102, ⟨Lc102, hQ102, l102, y102, z102⟩, st102⟩ := Jvm.RoadKit.callSS X98 hx (y := (⟨"com/example/atomic_bracket/atomicbracket/Bracket", "checkedName", "(Ljava/lang/String;)Ljava/lang/String;"⟩ : MethodName)) hown (mvT hZ (hw _ (List.mem_of_getElem? (i := 31) rfl))) (mvT hZ (hw _ (List.mem_of_getElem? (i := 32) rfl))) (mvT hZ (hw _ (List.mem_of_getElem? (i := 33) rfl))) (mvT hZ (hw _ (List.mem_of_getElem? (i := 34) rfl))) (by decide) (own_backS (rm := ({ frames := 1, cells := 2, slots := 24, locals := 20 } : Room)) (W := 0) (own_cn l Z a0 hw [] b93 t kt 3 (own_f p1 p2 p3 p4) T98.heap O100 (by decide) (by decide) Hs) hZ (hw _ (List.mem_of_getElem? (i := 34) rfl)) (hw _ (List.mem_of_getElem? (i := 33) rfl)) (by decide) (by decide)) (g := (mkF m 179 #[.val (.int p0), .val (.int p1), .val (.int p2), .val (.int p3), .val (.int p4), .val (.int ((p1 &&& (65535 : Int32)).toUInt32.toUInt16.toUInt32.toInt32)), .val (.int ((p2 &&& (65535 : Int32)).toUInt32.toUInt16.toUInt32.toInt32)), .val (.int ((p3 &&& (65535 : Int32)).toUInt32.toUInt16.toUInt32.toInt32)), .val (.int ((p4 &&& (65535 : Int32)).toUInt32.toUInt16.toUInt32.toInt32)), .val (.ref b1), .val (.ref b10), .val (.ref b24), .val (.ref b43), .val (.int (3 : Int32)), .val (.ref b93), .unset] [(.ref b93)])) rfl (by rw [hml]; rfl) (argsL := [(.ref b93)]) (rest := []) (lenOf own_pd290 rfl) rfl (by show 2 * 0 + _ ≤ _; exact Nat.le_of_eq rfl) (hb hby at_179) (fun _ _ => ⟨rfl, rfl, (by decide : 0 + 1 + 1 + 1 + 1 + 1 + 2 + 2 ≤ _), (by decide : 0 + 1 + 2 + 3 + 4 + 4 + 12 + 24 ≤ _)⟩)
    dsimp only [Pt.U, Pt.locs, Pt.cells, Pt.slots] at X102 l102 y102 z102 st102 hQ102 hSq102 hgr102
    subst l102 y102 z102
    obtain ⟨rfl, N102q, K102_⟩ := hQ102
    have N102 := Fr.app N98 N102q
    refine own_tr st102 ?_
    have hS102 := hSq102
    have hZ102 : Z.Warmed39 (s.setVm T102.vm).vm := State.Warmed39.trans (t := s) hZ hSq102.1
    have hown102 : (s.setVm T102.vm).vm.findClass "com/example/atomic_bracket/atomicbracket/BracketCheckedNamePinLaw" = some m.cls := by rw [show (s.setVm T102.vm).vm = T102.vm from rfl, hSq102.1.alike.findClass]; exact hown
    have z103 : T98.heap.size ≤ T102.heap.size := K102_.1
    have O104 := Old.keep O100 K102_ all0
    have K105 : Keep h0 T102.heap [] := K101.trans K102_ all0
    show own_G _ _ _ _ (T102.setTop (mkF m 182 #[.val (.int p0), .val (.int p1), .val (.int p2), .val (.int p3), .val (.int p4), .val (.int ((p1 &&& (65535 : Int32)).toUInt32.toUInt16.toUInt32.toInt32)), .val (.int ((p2 &&& (65535 : Int32)).toUInt32.toUInt16.toUInt32.toInt32)), .val (.int ((p3 &&& (65535 : Int32)).toUInt32.toUInt16.toUInt32.toInt32)), .val (.int ((p4 &&& (65535 : Int32)).toUInt32.toUInt16.toUInt32.toInt32)), .val (.ref b1), .val (.ref b10), .val (.ref b24), .val (.ref b43), .val (.int (3 : Int32)), .val (.ref b93), .unset] [(.ref b93)]))
    refine own_st (fun _ k => XS.astore X102.here hx rfl (hb hby at_182) rfl rfl (l' := #[.val (.int p0), .val (.int p1), .val (.int p2), .val (.int p3), .val (.int p4), .val (.int ((p1 &&& (65535 : Int32)).toUInt32.toUInt16.toUInt32.toInt32)), .val (.int ((p2 &&& (65535 : Int32)).toUInt32.toUInt16.toUInt32.toInt32)), .val (.int ((p3 &&& (65535 : Int32)).toUInt32.toUInt16.toUInt32.toInt32)), .val (.int ((p4 &&& (65535 : Int32)).toUInt32.toUInt16.toUInt32.toInt32)), .val (.ref b1), .val (.ref b10), .val (.ref b24), .val (.ref b43), .val (.int (3 : Int32)), .val (.ref b93), .val (.ref b93)]) rfl k) ?_
    show own_G _ _ _ _ (T102.setTop (mkF m 184 #[.val (.int p0), .val (.int p1), .val (.int p2), .val (.int p3), .val (.int p4), .val (.int ((p1 &&& (65535 : Int32)).toUInt32.toUInt16.toUInt32.toInt32)), .val (.int ((p2 &&& (65535 : Int32)).toUInt32.toUInt16.toUInt32.toInt32)), .val (.int ((p3 &&& (65535 : Int32)).toUInt32.toUInt16.toUInt32.toInt32)), .val (.int ((p4 &&& (65535 : Int32)).toUInt32.toUInt16.toUInt32.toInt32)), .val (.ref b1), .val (.ref b10), .val (.ref b24), .val (.ref b43), .val (.int (3 : Int32)), .val (.ref b93), .val (.ref b93)] []))
    refine own_st (fun _ k => XS.aload X102.here hx rfl (hb hby at_184) rfl rfl k) ?_
    show own_G _ _ _ _ (T102.setTop (mkF m 186 #[.val (.int p0), .val (.int p1), .val (.int p2), .val (.int p3), .val (.int p4), .val (.int ((p1 &&& (65535 : Int32)).toUInt32.toUInt16.toUInt32.toInt32)), .val (.int ((p2 &&& (65535 : Int32)).toUInt32.toUInt16.toUInt32.toInt32)), .val (.int ((p3 &&& (65535 : Int32)).toUInt32.toUInt16.toUInt32.toInt32)), .val (.int ((p4 &&& (65535 : Int32)).toUInt32.toUInt16.toUInt32.toInt32)), .val (.ref b1), .val (.ref b10), .val (.ref b24), .val (.ref b43), .val (.int (3 : Int32)), .val (.ref b93), .val (.ref b93)] [(.ref b93)]))
    refine own_st (fun _ k => XS.aload X102.here hx rfl (hb hby at_186) rfl rfl k) ?_
    show own_G _ _ _ _ (T102.setTop (mkF m 188 #[.val (.int p0), .val (.int p1), .val (.int p2), .val (.int p3), .val (.int p4), .val (.int ((p1 &&& (65535 : Int32)).toUInt32.toUInt16.toUInt32.toInt32)), .val (.int ((p2 &&& (65535 : Int32)).toUInt32.toUInt16.toUInt32.toInt32)), .val (.int ((p3 &&& (65535 : Int32)).toUInt32.toUInt16.toUInt32.toInt32)), .val (.int ((p4 &&& (65535 : Int32)).toUInt32.toUInt16.toUInt32.toInt32)), .val (.ref b1), .val (.ref b10), .val (.ref b24), .val (.ref b43), .val (.int (3 : Int32)), .val (.ref b93), .val (.ref b93)] [(.ref b93), (.ref b93)]))
    refine own_st (fun _ k => Jvm.RoadKit.acmp (g := (mkF m 188 #[.val (.int p0), .val (.int p1), .val (.int p2), .val (.int p3), .val (.int p4), .val (.int ((p1 &&& (65535 : Int32)).toUInt32.toUInt16.toUInt32.toInt32)), .val (.int ((p2 &&& (65535 : Int32)).toUInt32.toUInt16.toUInt32.toInt32)), .val (.int ((p3 &&& (65535 : Int32)).toUInt32.toUInt16.toUInt32.toInt32)), .val (.int ((p4 &&& (65535 : Int32)).toUInt32.toUInt16.toUInt32.toInt32)), .val (.ref b1), .val (.ref b10), .val (.ref b24), .val (.ref b43), .val (.int (3 : Int32)), .val (.ref b93), .val (.ref b93)] [(.ref b93), (.ref b93)])) X102 hx rfl rfl rfl (pc0 := 188) (pc' := 191) (same := true) rfl (hb hby at_188) rfl (decide_eq_true rfl) (by decide) (by decide) k) ?_
    show own_G _ _ _ _ (T102.setTop (mkF m 191 #[.val (.int p0), .val (.int p1), .val (.int p2), .val (.int p3), .val (.int p4), .val (.int ((p1 &&& (65535 : Int32)).toUInt32.toUInt16.toUInt32.toInt32)), .val (.int ((p2 &&& (65535 : Int32)).toUInt32.toUInt16.toUInt32.toInt32)), .val (.int ((p3 &&& (65535 : Int32)).toUInt32.toUInt16.toUInt32.toInt32)), .val (.int ((p4 &&& (65535 : Int32)).toUInt32.toUInt16.toUInt32.toInt32)), .val (.ref b1), .val (.ref b10), .val (.ref b24), .val (.ref b43), .val (.int (3 : Int32)), .val (.ref b93), .val (.ref b93)] []))
    refine own_st (fun _ k => XS.iconst X102.here hx rfl (hb hby at_191) k) ?_
    show own_G _ _ _ _ (T102.setTop (mkF m 192 #[.val (.int p0), .val (.int p1), .val (.int p2), .val (.int p3), .val (.int p4), .val (.int ((p1 &&& (65535 : Int32)).toUInt32.toUInt16.toUInt32.toInt32)), .val (.int ((p2 &&& (65535 : Int32)).toUInt32.toUInt16.toUInt32.toInt32)), .val (.int ((p3 &&& (65535 : Int32)).toUInt32.toUInt16.toUInt32.toInt32)), .val (.int ((p4 &&& (65535 : Int32)).toUInt32.toUInt16.toUInt32.toInt32)), .val (.ref b1), .val (.ref b10), .val (.ref b24), .val (.ref b43), .val (.int (3 : Int32)), .val (.ref b93), .val (.ref b93)] [(.int (1 : Int32))]))
    refine own_st (fun _ k => XS.goto X102.here hx rfl (pc0 := 192) (pc' := 196) rfl (hb hby at_192) (by decide) (by decide) k) ?_
    show own_G _ _ _ _ (T102.setTop (mkF m 196 #[.val (.int p0), .val (.int p1), .val (.int p2), .val (.int p3), .val (.int p4), .val (.int ((p1 &&& (65535 : Int32)).toUInt32.toUInt16.toUInt32.toInt32)), .val (.int ((p2 &&& (65535 : Int32)).toUInt32.toUInt16.toUInt32.toInt32)), .val (.int ((p3 &&& (65535 : Int32)).toUInt32.toUInt16.toUInt32.toInt32)), .val (.int ((p4 &&& (65535 : Int32)).toUInt32.toUInt16.toUInt32.toInt32)), .val (.ref b1), .val (.ref b10), .val (.ref b24), .val (.ref b43), .val (.int (3 : Int32)), .val (.ref b93), .val (.ref b93)] [(.int (1 : Int32))]))
    exact own_retNW X102 hS102 (by have hSz : T102.heap = T102.heap := rfl; rw [hSz]; omega) hx hret hlk (by simp) (hb hby at_196) ⟨rfl, N102⟩ (by decide) (by decide)
  · skip
    rw [hl]
    show own_G _ _ _ _ (T63.setTop (mkF m 109 #[.val (.int p0), .val (.int p1), .val (.int p2), .val (.int p3), .val (.int p4), .val (.int ((p1 &&& (65535 : Int32)).toUInt32.toUInt16.toUInt32.toInt32)), .val (.int ((p2 &&& (65535 : Int32)).toUInt32.toUInt16.toUInt32.toInt32)), .val (.int ((p3 &&& (65535 : Int32)).toUInt32.toUInt16.toUInt32.toInt32)), .val (.int ((p4 &&& (65535 : Int32)).toUInt32.toUInt16.toUInt32.toInt32)), .val (.ref b1), .val (.ref b10), .val (.ref b24), .val (.ref b43), .val (.int (4 : Int32)), .unset, .unset] [(.int (1 : Int32)), (.int (4 : Int32))]))
    refine own_st (fun _ k => XS.icmpYes X63.here hx rfl (pc0 := 109) (pc' := 126) rfl (hb hby at_109) rfl (feq (by decide)).2 (by decide) (by decide) k) ?_
    show own_G _ _ _ _ (T63.setTop (mkF m 126 #[.val (.int p0), .val (.int p1), .val (.int p2), .val (.int p3), .val (.int p4), .val (.int ((p1 &&& (65535 : Int32)).toUInt32.toUInt16.toUInt32.toInt32)), .val (.int ((p2 &&& (65535 : Int32)).toUInt32.toUInt16.toUInt32.toInt32)), .val (.int ((p3 &&& (65535 : Int32)).toUInt32.toUInt16.toUInt32.toInt32)), .val (.int ((p4 &&& (65535 : Int32)).toUInt32.toUInt16.toUInt32.toInt32)), .val (.ref b1), .val (.ref b10), .val (.ref b24), .val (.ref b43), .val (.int (4 : Int32)), .unset, .unset] []))
    refine own_st (fun _ k => XS.iload X63.here hx rfl (hb hby at_126) rfl k) ?_
    show own_G _ _ _ _ (T63.setTop (mkF m 128 #[.val (.int p0), .val (.int p1), .val (.int p2), .val (.int p3), .val (.int p4), .val (.int ((p1 &&& (65535 : Int32)).toUInt32.toUInt16.toUInt32.toInt32)), .val (.int ((p2 &&& (65535 : Int32)).toUInt32.toUInt16.toUInt32.toInt32)), .val (.int ((p3 &&& (65535 : Int32)).toUInt32.toUInt16.toUInt32.toInt32)), .val (.int ((p4 &&& (65535 : Int32)).toUInt32.toUInt16.toUInt32.toInt32)), .val (.ref b1), .val (.ref b10), .val (.ref b24), .val (.ref b43), .val (.int (4 : Int32)), .unset, .unset] [(.int (4 : Int32))]))
    refine own_st (fun _ k => XS.iconst X63.here hx rfl (hb hby at_128) k) ?_
    show own_G _ _ _ _ (T63.setTop (mkF m 129 #[.val (.int p0), .val (.int p1), .val (.int p2), .val (.int p3), .val (.int p4), .val (.int ((p1 &&& (65535 : Int32)).toUInt32.toUInt16.toUInt32.toInt32)), .val (.int ((p2 &&& (65535 : Int32)).toUInt32.toUInt16.toUInt32.toInt32)), .val (.int ((p3 &&& (65535 : Int32)).toUInt32.toUInt16.toUInt32.toInt32)), .val (.int ((p4 &&& (65535 : Int32)).toUInt32.toUInt16.toUInt32.toInt32)), .val (.ref b1), .val (.ref b10), .val (.ref b24), .val (.ref b43), .val (.int (4 : Int32)), .unset, .unset] [(.int (2 : Int32)), (.int (4 : Int32))]))
    refine own_st (fun _ k => XS.icmpYes X63.here hx rfl (pc0 := 129) (pc' := 146) rfl (hb hby at_129) rfl (feq (by decide)).2 (by decide) (by decide) k) ?_
    show own_G _ _ _ _ (T63.setTop (mkF m 146 #[.val (.int p0), .val (.int p1), .val (.int p2), .val (.int p3), .val (.int p4), .val (.int ((p1 &&& (65535 : Int32)).toUInt32.toUInt16.toUInt32.toInt32)), .val (.int ((p2 &&& (65535 : Int32)).toUInt32.toUInt16.toUInt32.toInt32)), .val (.int ((p3 &&& (65535 : Int32)).toUInt32.toUInt16.toUInt32.toInt32)), .val (.int ((p4 &&& (65535 : Int32)).toUInt32.toUInt16.toUInt32.toInt32)), .val (.ref b1), .val (.ref b10), .val (.ref b24), .val (.ref b43), .val (.int (4 : Int32)), .unset, .unset] []))
    refine own_st (fun _ k => XS.iload X63.here hx rfl (hb hby at_146) rfl k) ?_
    show own_G _ _ _ _ (T63.setTop (mkF m 148 #[.val (.int p0), .val (.int p1), .val (.int p2), .val (.int p3), .val (.int p4), .val (.int ((p1 &&& (65535 : Int32)).toUInt32.toUInt16.toUInt32.toInt32)), .val (.int ((p2 &&& (65535 : Int32)).toUInt32.toUInt16.toUInt32.toInt32)), .val (.int ((p3 &&& (65535 : Int32)).toUInt32.toUInt16.toUInt32.toInt32)), .val (.int ((p4 &&& (65535 : Int32)).toUInt32.toUInt16.toUInt32.toInt32)), .val (.ref b1), .val (.ref b10), .val (.ref b24), .val (.ref b43), .val (.int (4 : Int32)), .unset, .unset] [(.int (4 : Int32))]))
    refine own_st (fun _ k => XS.iconst X63.here hx rfl (hb hby at_148) k) ?_
    show own_G _ _ _ _ (T63.setTop (mkF m 149 #[.val (.int p0), .val (.int p1), .val (.int p2), .val (.int p3), .val (.int p4), .val (.int ((p1 &&& (65535 : Int32)).toUInt32.toUInt16.toUInt32.toInt32)), .val (.int ((p2 &&& (65535 : Int32)).toUInt32.toUInt16.toUInt32.toInt32)), .val (.int ((p3 &&& (65535 : Int32)).toUInt32.toUInt16.toUInt32.toInt32)), .val (.int ((p4 &&& (65535 : Int32)).toUInt32.toUInt16.toUInt32.toInt32)), .val (.ref b1), .val (.ref b10), .val (.ref b24), .val (.ref b43), .val (.int (4 : Int32)), .unset, .unset] [(.int (3 : Int32)), (.int (4 : Int32))]))
    refine own_st (fun _ k => XS.icmpYes X63.here hx rfl (pc0 := 149) (pc' := 166) rfl (hb hby at_149) rfl (feq (by decide)).2 (by decide) (by decide) k) ?_
    show own_G _ _ _ _ (T63.setTop (mkF m 166 #[.val (.int p0), .val (.int p1), .val (.int p2), .val (.int p3), .val (.int p4), .val (.int ((p1 &&& (65535 : Int32)).toUInt32.toUInt16.toUInt32.toInt32)), .val (.int ((p2 &&& (65535 : Int32)).toUInt32.toUInt16.toUInt32.toInt32)), .val (.int ((p3 &&& (65535 : Int32)).toUInt32.toUInt16.toUInt32.toInt32)), .val (.int ((p4 &&& (65535 : Int32)).toUInt32.toUInt16.toUInt32.toInt32)), .val (.ref b1), .val (.ref b10), .val (.ref b24), .val (.ref b43), .val (.int (4 : Int32)), .unset, .unset] []))
    obtain ⟨T106, h106, X106, e106, E106, A106, D106, -, st106⟩ := newO X63 hx hZ hown (hw _ (List.mem_of_getElem? (i := 2) rfl)) (hw _ (List.mem_of_getElem? (i := 3) rfl)) (hw _ (List.mem_of_getElem? (i := 4) rfl)) e63 (g := (mkF m 166 #[.val (.int p0), .val (.int p1), .val (.int p2), .val (.int p3), .val (.int p4), .val (.int ((p1 &&& (65535 : Int32)).toUInt32.toUInt16.toUInt32.toInt32)), .val (.int ((p2 &&& (65535 : Int32)).toUInt32.toUInt16.toUInt32.toInt32)), .val (.int ((p3 &&& (65535 : Int32)).toUInt32.toUInt16.toUInt32.toInt32)), .val (.int ((p4 &&& (65535 : Int32)).toUInt32.toUInt16.toUInt32.toInt32)), .val (.ref b1), .val (.ref b10), .val (.ref b24), .val (.ref b43), .val (.int (4 : Int32)), .unset, .unset] [])) rfl (hb hby at_166) (by decide) (by decide)
    obtain ⟨b106, g106⟩ : ∃ z, z = h63.size := ⟨_, rfl⟩
    rw [← g106] at A106 D106 st106
    refine own_st st106 ?_
    have z107 : h63.size ≤ h106.size := E106.1
    have O108 := Old.ext O65 E106
    have K109 : Keep h0 h106 [] := K66.ext E106
    have F106_coder : Fld Z h106 b106 "java/lang/String" "coder" "B" (.int (0 : Int32)) := D106 (Or.inr (hw _ (List.mem_of_getElem? (i := 28) rfl))) (ty := .byte) (by decide)
    have F106_value : Fld Z h106 b106 "java/lang/String" "value" "[B" .null := D106 (Or.inr (hw _ (List.mem_of_getElem? (i := 30) rfl))) (ty := (.array .byte)) (by decide)
    have lt106 := own_ltN A106.lt
    show own_G _ _ _ _ (T106.setTop (mkF m 169 #[.val (.int p0), .val (.int p1), .val (.int p2), .val (.int p3), .val (.int p4), .val (.int ((p1 &&& (65535 : Int32)).toUInt32.toUInt16.toUInt32.toInt32)), .val (.int ((p2 &&& (65535 : Int32)).toUInt32.toUInt16.toUInt32.toInt32)), .val (.int ((p3 &&& (65535 : Int32)).toUInt32.toUInt16.toUInt32.toInt32)), .val (.int ((p4 &&& (65535 : Int32)).toUInt32.toUInt16.toUInt32.toInt32)), .val (.ref b1), .val (.ref b10), .val (.ref b24), .val (.ref b43), .val (.int (4 : Int32)), .unset, .unset] [(.ref b106)]))
    refine own_st (fun _ k => XS.dup X106.here hx rfl (hb hby at_169) rfl rfl k) ?_
    show own_G _ _ _ _ (T106.setTop (mkF m 170 #[.val (.int p0), .val (.int p1), .val (.int p2), .val (.int p3), .val (.int p4), .val (.int ((p1 &&& (65535 : Int32)).toUInt32.toUInt16.toUInt32.toInt32)), .val (.int ((p2 &&& (65535 : Int32)).toUInt32.toUInt16.toUInt32.toInt32)), .val (.int ((p3 &&& (65535 : Int32)).toUInt32.toUInt16.toUInt32.toInt32)), .val (.int ((p4 &&& (65535 : Int32)).toUInt32.toUInt16.toUInt32.toInt32)), .val (.ref b1), .val (.ref b10), .val (.ref b24), .val (.ref b43), .val (.int (4 : Int32)), .unset, .unset] [(.ref b106), (.ref b106)]))
    refine own_st (fun _ k => XS.aload X106.here hx rfl (hb hby at_170) rfl rfl k) ?_
    show own_G _ _ _ _ (T106.setTop (mkF m 172 #[.val (.int p0), .val (.int p1), .val (.int p2), .val (.int p3), .val (.int p4), .val (.int ((p1 &&& (65535 : Int32)).toUInt32.toUInt16.toUInt32.toInt32)), .val (.int ((p2 &&& (65535 : Int32)).toUInt32.toUInt16.toUInt32.toInt32)), .val (.int ((p3 &&& (65535 : Int32)).toUInt32.toUInt16.toUInt32.toInt32)), .val (.int ((p4 &&& (65535 : Int32)).toUInt32.toUInt16.toUInt32.toInt32)), .val (.ref b1), .val (.ref b10), .val (.ref b24), .val (.ref b43), .val (.int (4 : Int32)), .unset, .unset] [(.ref b43), (.ref b106), (.ref b106)]))
    have q110 : Arv Z h106 b43 k43 .char (4 : Int32) [(.int (nar .char ((p1 &&& (65535 : Int32)).toUInt32.toUInt16.toUInt32.toInt32))), (.int (nar .char ((p2 &&& (65535 : Int32)).toUInt32.toUInt16.toUInt32.toInt32))), (.int (nar .char ((p3 &&& (65535 : Int32)).toUInt32.toUInt16.toUInt32.toInt32))), (.int (nar .char ((p4 &&& (65535 : Int32)).toUInt32.toUInt16.toUInt32.toInt32)))] (.int (0 : Int32)) := (V63'.ext E106)
    have Vc : Arv Z h106 b43 k43 .char (Int32.ofNat 4) (own_vals (own_f p1 p2 p3 p4) 4) (.int (0 : Int32)) := q110
    obtain ⟨_, _, ⟨T111, L111, k111, n111⟩, -, X111, ⟨Lc111, hQ111, l111, y111, z111⟩, st111⟩ := X106.specialBack hx (y := (⟨"java/lang/String", "<init>", "([C)V"⟩ : MethodName)) rfl hown (mvT hZ (hw _ (List.mem_of_getElem? (i := 5) rfl))) (mvT hZ (hw _ (List.mem_of_getElem? (i := 6) rfl))) (mvT hZ (hw _ (List.mem_of_getElem? (i := 7) rfl))) (by decide) (own_back (rm := ({ frames := 5, cells := 2, slots := 12, locals := 74 } : Room)) (W := 1) (own_newS l Z a0 hw [] b106 b43 4 (own_f p1 p2 p3 p4) k43 w1 .null (.int (0 : Int32)) h106 O108 (by decide) (by decide) (fun j _ => own_f_rng p1 p2 p3 p4 j) US S1 hw1 (by omega) (show @Ne Nat b106 b43 by omega) A106 F106_value F106_coder Vc) hZ (hw _ (List.mem_of_getElem? (i := 7) rfl)) (hw _ (List.mem_of_getElem? (i := 4) rfl)) (by decide) (by decide)) (g := (mkF m 172 #[.val (.int p0), .val (.int p1), .val (.int p2), .val (.int p3), .val (.int p4), .val (.int ((p1 &&& (65535 : Int32)).toUInt32.toUInt16.toUInt32.toInt32)), .val (.int ((p2 &&& (65535 : Int32)).toUInt32.toUInt16.toUInt32.toInt32)), .val (.int ((p3 &&& (65535 : Int32)).toUInt32.toUInt16.toUInt32.toInt32)), .val (.int ((p4 &&& (65535 : Int32)).toUInt32.toUInt16.toUInt32.toInt32)), .val (.ref b1), .val (.ref b10), .val (.ref b24), .val (.ref b43), .val (.int (4 : Int32)), .unset, .unset] [(.ref b43), (.ref b106), (.ref b106)])) rfl (by rw [hml]; rfl) (Steps.refl _) (a := b106) (argsL := [(.ref b43)]) (rest := [(.ref b106)]) (lenOf own_pd285 rfl) rfl (by show 2 * 0 + _ ≤ _; exact Nat.le_of_eq rfl) (hb hby at_172) (fun _ _ => ⟨rfl, e106, (by decide : 0 + 1 + 1 + 1 + 1 + 1 + 2 ≤ _), (by decide : 0 + 1 + 2 + 3 + 4 + 4 + 12 ≤ _)⟩)
    dsimp only [Pt.U, Pt.locs, Pt.cells, Pt.slots] at X111 l111 y111 z111 st111 hQ111
    subst l111 y111 z111
    obtain ⟨rfl, N111q, K111_, t, kt, gt, Hs⟩ := hQ111
    have N111 := Fr.app N63 N111q
    refine own_tr st111 ?_
    have z112 : h106.size ≤ T111.heap.size := K111_.1
    have O113 := Old.keep O108 K111_ (allS (by omega) all0)
    have K114 : Keep h0 T111.heap [] := K109.trans K111_ (allS (Or.inr (by omega)) all0)
    show own_G _ _ _ _ (T111.setTop (mkF m 175 #[.val (.int p0), .val (.int p1), .val (.int p2), .val (.int p3), .val (.int p4), .val (.int ((p1 &&& (65535 : Int32)).toUInt32.toUInt16.toUInt32.toInt32)), .val (.int ((p2 &&& (65535 : Int32)).toUInt32.toUInt16.toUInt32.toInt32)), .val (.int ((p3 &&& (65535 : Int32)).toUInt32.toUInt16.toUInt32.toInt32)), .val (.int ((p4 &&& (65535 : Int32)).toUInt32.toUInt16.toUInt32.toInt32)), .val (.ref b1), .val (.ref b10), .val (.ref b24), .val (.ref b43), .val (.int (4 : Int32)), .unset, .unset] [(.ref b106)]))
    refine own_st (fun _ k => XS.astore X111.here hx rfl (hb hby at_175) rfl rfl (l' := #[.val (.int p0), .val (.int p1), .val (.int p2), .val (.int p3), .val (.int p4), .val (.int ((p1 &&& (65535 : Int32)).toUInt32.toUInt16.toUInt32.toInt32)), .val (.int ((p2 &&& (65535 : Int32)).toUInt32.toUInt16.toUInt32.toInt32)), .val (.int ((p3 &&& (65535 : Int32)).toUInt32.toUInt16.toUInt32.toInt32)), .val (.int ((p4 &&& (65535 : Int32)).toUInt32.toUInt16.toUInt32.toInt32)), .val (.ref b1), .val (.ref b10), .val (.ref b24), .val (.ref b43), .val (.int (4 : Int32)), .val (.ref b106), .unset]) rfl k) ?_
    show own_G _ _ _ _ (T111.setTop (mkF m 177 #[.val (.int p0), .val (.int p1), .val (.int p2), .val (.int p3), .val (.int p4), .val (.int ((p1 &&& (65535 : Int32)).toUInt32.toUInt16.toUInt32.toInt32)), .val (.int ((p2 &&& (65535 : Int32)).toUInt32.toUInt16.toUInt32.toInt32)), .val (.int ((p3 &&& (65535 : Int32)).toUInt32.toUInt16.toUInt32.toInt32)), .val (.int ((p4 &&& (65535 : Int32)).toUInt32.toUInt16.toUInt32.toInt32)), .val (.ref b1), .val (.ref b10), .val (.ref b24), .val (.ref b43), .val (.int (4 : Int32)), .val (.ref b106), .unset] []))
    refine own_st (fun _ k => XS.aload X111.here hx rfl (hb hby at_177) rfl rfl k) ?_
    show own_G _ _ _ _ (T111.setTop (mkF m 179 #[.val (.int p0), .val (.int p1), .val (.int p2), .val (.int p3), .val (.int p4), .val (.int ((p1 &&& (65535 : Int32)).toUInt32.toUInt16.toUInt32.toInt32)), .val (.int ((p2 &&& (65535 : Int32)).toUInt32.toUInt16.toUInt32.toInt32)), .val (.int ((p3 &&& (65535 : Int32)).toUInt32.toUInt16.toUInt32.toInt32)), .val (.int ((p4 &&& (65535 : Int32)).toUInt32.toUInt16.toUInt32.toInt32)), .val (.ref b1), .val (.ref b10), .val (.ref b24), .val (.ref b43), .val (.int (4 : Int32)), .val (.ref b106), .unset] [(.ref b106)]))
    have hS00 : s.Since s.vm 0 := (State.WarmedH.refl s).since 0
    obtain ⟨_, vq115, ⟨T115, L115, k115, n115⟩, -, X115, hSq115, hgr115, ⟨Lc115, hQ115, l115, y115, z115⟩, st115⟩ := Jvm.RoadKit.callSS X111 hx (y := (⟨"com/example/atomic_bracket/atomicbracket/Bracket", "checkedName", "(Ljava/lang/String;)Ljava/lang/String;"⟩ : MethodName)) hown (mvT hZ (hw _ (List.mem_of_getElem? (i := 31) rfl))) (mvT hZ (hw _ (List.mem_of_getElem? (i := 32) rfl))) (mvT hZ (hw _ (List.mem_of_getElem? (i := 33) rfl))) (mvT hZ (hw _ (List.mem_of_getElem? (i := 34) rfl))) (by decide) (own_backS (rm := ({ frames := 1, cells := 2, slots := 24, locals := 20 } : Room)) (W := 0) (own_cn l Z a0 hw [] b106 t kt 4 (own_f p1 p2 p3 p4) T111.heap O113 (by decide) (by decide) Hs) hZ (hw _ (List.mem_of_getElem? (i := 34) rfl)) (hw _ (List.mem_of_getElem? (i := 33) rfl)) (by decide) (by decide)) (g := (mkF m 179 #[.val (.int p0), .val (.int p1), .val (.int p2), .val (.int p3), .val (.int p4), .val (.int ((p1 &&& (65535 : Int32)).toUInt32.toUInt16.toUInt32.toInt32)), .val (.int ((p2 &&& (65535 : Int32)).toUInt32.toUInt16.toUInt32.toInt32)), .val (.int ((p3 &&& (65535 : Int32)).toUInt32.toUInt16.toUInt32.toInt32)), .val (.int ((p4 &&& (65535 : Int32)).toUInt32.toUInt16.toUInt32.toInt32)), .val (.ref b1), .val (.ref b10), .val (.ref b24), .val (.ref b43), .val (.int (4 : Int32)), .val (.ref b106), .unset] [(.ref b106)])) rfl (by rw [hml]; rfl) (argsL := [(.ref b106)]) (rest := []) (lenOf own_pd290 rfl) rfl (by show 2 * 0 + _ ≤ _; exact Nat.le_of_eq rfl) (hb hby at_179) (fun _ _ => ⟨rfl, rfl, (by decide : 0 + 1 + 1 + 1 + 1 + 1 + 2 + 2 ≤ _), (by decide : 0 + 1 + 2 + 3 + 4 + 4 + 12 + 24 ≤ _)⟩)
    dsimp only [Pt.U, Pt.locs, Pt.cells, Pt.slots] at X115 l115 y115 z115 st115 hQ115 hSq115 hgr115
    subst l115 y115 z115
    obtain ⟨rfl, N115q, K115_⟩ := hQ115
    have N115 := Fr.app N111 N115q
    refine own_tr st115 ?_
    have hS115 := hSq115
    have hZ115 : Z.Warmed39 (s.setVm T115.vm).vm := State.Warmed39.trans (t := s) hZ hSq115.1
    have hown115 : (s.setVm T115.vm).vm.findClass "com/example/atomic_bracket/atomicbracket/BracketCheckedNamePinLaw" = some m.cls := by rw [show (s.setVm T115.vm).vm = T115.vm from rfl, hSq115.1.alike.findClass]; exact hown
    have z116 : T111.heap.size ≤ T115.heap.size := K115_.1
    have O117 := Old.keep O113 K115_ all0
    have K118 : Keep h0 T115.heap [] := K114.trans K115_ all0
    show own_G _ _ _ _ (T115.setTop (mkF m 182 #[.val (.int p0), .val (.int p1), .val (.int p2), .val (.int p3), .val (.int p4), .val (.int ((p1 &&& (65535 : Int32)).toUInt32.toUInt16.toUInt32.toInt32)), .val (.int ((p2 &&& (65535 : Int32)).toUInt32.toUInt16.toUInt32.toInt32)), .val (.int ((p3 &&& (65535 : Int32)).toUInt32.toUInt16.toUInt32.toInt32)), .val (.int ((p4 &&& (65535 : Int32)).toUInt32.toUInt16.toUInt32.toInt32)), .val (.ref b1), .val (.ref b10), .val (.ref b24), .val (.ref b43), .val (.int (4 : Int32)), .val (.ref b106), .unset] [(.ref b106)]))
    refine own_st (fun _ k => XS.astore X115.here hx rfl (hb hby at_182) rfl rfl (l' := #[.val (.int p0), .val (.int p1), .val (.int p2), .val (.int p3), .val (.int p4), .val (.int ((p1 &&& (65535 : Int32)).toUInt32.toUInt16.toUInt32.toInt32)), .val (.int ((p2 &&& (65535 : Int32)).toUInt32.toUInt16.toUInt32.toInt32)), .val (.int ((p3 &&& (65535 : Int32)).toUInt32.toUInt16.toUInt32.toInt32)), .val (.int ((p4 &&& (65535 : Int32)).toUInt32.toUInt16.toUInt32.toInt32)), .val (.ref b1), .val (.ref b10), .val (.ref b24), .val (.ref b43), .val (.int (4 : Int32)), .val (.ref b106), .val (.ref b106)]) rfl k) ?_
    show own_G _ _ _ _ (T115.setTop (mkF m 184 #[.val (.int p0), .val (.int p1), .val (.int p2), .val (.int p3), .val (.int p4), .val (.int ((p1 &&& (65535 : Int32)).toUInt32.toUInt16.toUInt32.toInt32)), .val (.int ((p2 &&& (65535 : Int32)).toUInt32.toUInt16.toUInt32.toInt32)), .val (.int ((p3 &&& (65535 : Int32)).toUInt32.toUInt16.toUInt32.toInt32)), .val (.int ((p4 &&& (65535 : Int32)).toUInt32.toUInt16.toUInt32.toInt32)), .val (.ref b1), .val (.ref b10), .val (.ref b24), .val (.ref b43), .val (.int (4 : Int32)), .val (.ref b106), .val (.ref b106)] []))
    refine own_st (fun _ k => XS.aload X115.here hx rfl (hb hby at_184) rfl rfl k) ?_
    show own_G _ _ _ _ (T115.setTop (mkF m 186 #[.val (.int p0), .val (.int p1), .val (.int p2), .val (.int p3), .val (.int p4), .val (.int ((p1 &&& (65535 : Int32)).toUInt32.toUInt16.toUInt32.toInt32)), .val (.int ((p2 &&& (65535 : Int32)).toUInt32.toUInt16.toUInt32.toInt32)), .val (.int ((p3 &&& (65535 : Int32)).toUInt32.toUInt16.toUInt32.toInt32)), .val (.int ((p4 &&& (65535 : Int32)).toUInt32.toUInt16.toUInt32.toInt32)), .val (.ref b1), .val (.ref b10), .val (.ref b24), .val (.ref b43), .val (.int (4 : Int32)), .val (.ref b106), .val (.ref b106)] [(.ref b106)]))
    refine own_st (fun _ k => XS.aload X115.here hx rfl (hb hby at_186) rfl rfl k) ?_
    show own_G _ _ _ _ (T115.setTop (mkF m 188 #[.val (.int p0), .val (.int p1), .val (.int p2), .val (.int p3), .val (.int p4), .val (.int ((p1 &&& (65535 : Int32)).toUInt32.toUInt16.toUInt32.toInt32)), .val (.int ((p2 &&& (65535 : Int32)).toUInt32.toUInt16.toUInt32.toInt32)), .val (.int ((p3 &&& (65535 : Int32)).toUInt32.toUInt16.toUInt32.toInt32)), .val (.int ((p4 &&& (65535 : Int32)).toUInt32.toUInt16.toUInt32.toInt32)), .val (.ref b1), .val (.ref b10), .val (.ref b24), .val (.ref b43), .val (.int (4 : Int32)), .val (.ref b106), .val (.ref b106)] [(.ref b106), (.ref b106)]))
    refine own_st (fun _ k => Jvm.RoadKit.acmp (g := (mkF m 188 #[.val (.int p0), .val (.int p1), .val (.int p2), .val (.int p3), .val (.int p4), .val (.int ((p1 &&& (65535 : Int32)).toUInt32.toUInt16.toUInt32.toInt32)), .val (.int ((p2 &&& (65535 : Int32)).toUInt32.toUInt16.toUInt32.toInt32)), .val (.int ((p3 &&& (65535 : Int32)).toUInt32.toUInt16.toUInt32.toInt32)), .val (.int ((p4 &&& (65535 : Int32)).toUInt32.toUInt16.toUInt32.toInt32)), .val (.ref b1), .val (.ref b10), .val (.ref b24), .val (.ref b43), .val (.int (4 : Int32)), .val (.ref b106), .val (.ref b106)] [(.ref b106), (.ref b106)])) X115 hx rfl rfl rfl (pc0 := 188) (pc' := 191) (same := true) rfl (hb hby at_188) rfl (decide_eq_true rfl) (by decide) (by decide) k) ?_
    show own_G _ _ _ _ (T115.setTop (mkF m 191 #[.val (.int p0), .val (.int p1), .val (.int p2), .val (.int p3), .val (.int p4), .val (.int ((p1 &&& (65535 : Int32)).toUInt32.toUInt16.toUInt32.toInt32)), .val (.int ((p2 &&& (65535 : Int32)).toUInt32.toUInt16.toUInt32.toInt32)), .val (.int ((p3 &&& (65535 : Int32)).toUInt32.toUInt16.toUInt32.toInt32)), .val (.int ((p4 &&& (65535 : Int32)).toUInt32.toUInt16.toUInt32.toInt32)), .val (.ref b1), .val (.ref b10), .val (.ref b24), .val (.ref b43), .val (.int (4 : Int32)), .val (.ref b106), .val (.ref b106)] []))
    refine own_st (fun _ k => XS.iconst X115.here hx rfl (hb hby at_191) k) ?_
    show own_G _ _ _ _ (T115.setTop (mkF m 192 #[.val (.int p0), .val (.int p1), .val (.int p2), .val (.int p3), .val (.int p4), .val (.int ((p1 &&& (65535 : Int32)).toUInt32.toUInt16.toUInt32.toInt32)), .val (.int ((p2 &&& (65535 : Int32)).toUInt32.toUInt16.toUInt32.toInt32)), .val (.int ((p3 &&& (65535 : Int32)).toUInt32.toUInt16.toUInt32.toInt32)), .val (.int ((p4 &&& (65535 : Int32)).toUInt32.toUInt16.toUInt32.toInt32)), .val (.ref b1), .val (.ref b10), .val (.ref b24), .val (.ref b43), .val (.int (4 : Int32)), .val (.ref b106), .val (.ref b106)] [(.int (1 : Int32))]))
    refine own_st (fun _ k => XS.goto X115.here hx rfl (pc0 := 192) (pc' := 196) rfl (hb hby at_192) (by decide) (by decide) k) ?_
    show own_G _ _ _ _ (T115.setTop (mkF m 196 #[.val (.int p0), .val (.int p1), .val (.int p2), .val (.int p3), .val (.int p4), .val (.int ((p1 &&& (65535 : Int32)).toUInt32.toUInt16.toUInt32.toInt32)), .val (.int ((p2 &&& (65535 : Int32)).toUInt32.toUInt16.toUInt32.toInt32)), .val (.int ((p3 &&& (65535 : Int32)).toUInt32.toUInt16.toUInt32.toInt32)), .val (.int ((p4 &&& (65535 : Int32)).toUInt32.toUInt16.toUInt32.toInt32)), .val (.ref b1), .val (.ref b10), .val (.ref b24), .val (.ref b43), .val (.int (4 : Int32)), .val (.ref b106), .val (.ref b106)] [(.int (1 : Int32))]))
    exact own_retNW X115 hS115 (by have hSz : T115.heap = T115.heap := rfl; rw [hSz]; omega) hx hret hlk (by simp) (hb hby at_196) ⟨rfl, N115⟩ (by decide) (by decide)
theorem comes_1 {Post : Tables → Env → Array Value → State → Outcome → State → Prop} (hpost : ∀ tb e args s v u, (limb_1_1.after args s (.returned v) u = true ∧ limb_1_2.after args s (.returned v) u = true ∧ True) → ReturnedEndW s (.returned v) u (Jvm.fieldLocs frame_1_writes args s ++ Jvm.arrayLocs frame_1_arrays args s ++ Jvm.staticLocs frame_1_statics s) 24 1152 → Post tb e args s (.returned v) u) :
    ArmFor flags0 classFile x code maxLocals ret World_1 tables_1 room_1 Calls_1 rest_1 Pre_1 Post := by
  intro l hfl _ _ p e ha hc hk s m args below hf hA hF happ hP
  obtain ⟨hcalls, hrest, hpre⟩ := hP
  obtain ⟨-, -, -, hnamed, -, -, -, hat⟩ := (Spec.applies_iff hf).mp happ
  obtain ⟨hg, hn⟩ := and_e (Cond.before_iff.mp (show (Jvm.Cond.and given_1 narrow_1).before args s = true from hpre))
  obtain ⟨hq0, hr0⟩ := and_e hg
  obtain ⟨hq1, hr1⟩ := and_e hr0
  obtain ⟨hq2, hr2⟩ := and_e hr1
  obtain ⟨hq3, hr3⟩ := and_e hr2
  obtain ⟨hq4, hr4⟩ := and_e hr3
  obtain ⟨w0, w1, w2, w3, w4, rfl⟩ : ∃ w0 w1 w2 w3 w4 : Value, args = #[w0, w1, w2, w3, w4] := by
    have hs : args.size = 5 := by simpa [Cond.value, given_1] using hq0
    obtain ⟨L⟩ := args
    match L, hs with
    | [w0, w1, w2, w3, w4], _ => exact ⟨w0, w1, w2, w3, w4, rfl⟩
  have hw := fun d (hd : d ∈ tables_1) => atoms_spec (ws := Jvm.Cond.code x code maxLocals ret :: tables_1) hat d (List.mem_cons_of_mem _ hd)
  obtain ⟨hsets, hown0⟩ := atoms_of _ (rest_1_c_eq ▸ (show rest_1_c.before _ s = true from hrest))
  have hfit : Fit s := fun {y c} hc i hi => by
    obtain ⟨ha, rfl⟩ := Array.getElem?_eq_some_iff.mp hc
    have q := List.all_eq_true.mp ((Array.all_eq_true_iff_forall_mem.mp hF) _ (Array.getElem_mem ha)) i (List.mem_range.mpr hi)
    simpa [Array.getElem?_eq_getElem hi] using q
  obtain ⟨p0, ep0⟩ := is_v hq1
  obtain rfl : w0 = (.int p0) := Option.some.inj ep0
  obtain ⟨p1, ep1⟩ := is_v hq2
  obtain rfl : w1 = (.int p1) := Option.some.inj ep1
  obtain ⟨p2, ep2⟩ := is_v hq3
  obtain rfl : w2 = (.int p2) := Option.some.inj ep2
  obtain ⟨p3, ep3⟩ := is_v hq4
  obtain rfl : w3 = (.int p3) := Option.some.inj ep3
  obtain ⟨p4, ep4⟩ := is_v hr4
  obtain rfl : w4 = (.int p4) := Option.some.inj ep4
  have n5 := not_v (Cond.before_iff.mp (hsets _ (List.mem_of_getElem? (i := 2) rfl)))
  obtain ⟨w1, e1⟩ := is_v (Cond.before_iff.mp (hsets _ (List.mem_of_getElem? (i := 1) rfl)))
  have S1 : Sta s s.heap "java/lang/String" "COMPACT_STRINGS" "Z" (.int w1) := Sta.start e1 (Or.inl (hsets _ (List.mem_of_getElem? (i := 0) rfl)))
  have c1 : ¬ (w1 = (0 : Int32)) := gotF (Cond.eq_ints e1 (Term.int_eval (0))) n5
  have US : own_US s := ⟨Sta.start (own_eqI (Cond.before_iff.mp (hsets _ (List.mem_of_getElem? (i := 12) rfl)))) (Or.inl (hsets _ (List.mem_of_getElem? (i := 11) rfl))), Sta.start (own_eqI (Cond.before_iff.mp (hsets _ (List.mem_of_getElem? (i := 15) rfl)))) (Or.inl (hsets _ (List.mem_of_getElem? (i := 14) rfl))), Sta.start (own_eqI (Cond.before_iff.mp (hsets _ (List.mem_of_getElem? (i := 18) rfl)))) (Or.inl (hsets _ (List.mem_of_getElem? (i := 17) rfl)))⟩
  obtain ⟨n, o, h1, h2, h3, _, L, rfl, ⟨rfl, N⟩, hq⟩ := own_law l s _ hw tables_1 p0 p1 p2 p3 p4 w1 s.heap (Old.start s) US S1 c1 p e ha hc hk s m _ below hf ((Spec.applies_iff_loose hf).mp happ).1 ⟨rfl, State.Warmed39.refl s, rfl⟩ trivial
  refine ⟨n, _, h1, h2, h3, hpost _ _ _ _ _ _ ⟨Cond.after_iff.mpr rfl, Cond.after_iff.mpr (eq_i res_at (Term.int_eval (1)) rfl), trivial⟩ ⟨hq.1, hq.2.1, hq.2.2.1, (hq.2.2.2.sift fun y hy => Or.inr (N y hy)).mono (by decide) (by decide)⟩⟩
theorem main_1_1 : Claimed_1_1 := comes_1 fun _ _ _ _ _ _ h hF => ⟨h.1, hF⟩
theorem main_1_2 : Claimed_1_2 := comes_1 fun _ _ _ _ _ _ h hF => ⟨h.2.1, hF⟩
end Jvm.Pilot.@@N@@
namespace Jvm.Pilot.@@N@@
open Jvm Jvm.ClassFile Sem Op Lib Jvm.Free Jvm.Stand Jvm.Pilot.@@N@@.Jvm.D
/-! MADE BY PROGRAM (witnessworld.py) out of the Statement's table words and the real class files: 21 classes; the members and pool entries that the words name. The judged class is class 1, her method 1. -/
namespace start1
open Jvm.ClassFile
def u (s : String) : CpInfo := .utf8 (stringToUtf16 s)
/-- a pool by its gaps: so many unusable entries, then the entry; so many at the end -/
def gap : Nat → List CpInfo → List CpInfo
  | 0, r => r
  | n + 1, r => .unusable :: gap n r
def poolList (es : List (Nat × CpInfo)) (last : Nat) : List CpInfo := es.foldr (fun e r => gap e.1 (e.2 :: r)) (gap last [])
def pool (es : List (Nat × CpInfo)) (last : Nat) : Array CpInfo := ⟨poolList es last⟩
def fileOf (pool : Array CpInfo) (this : Nat) (attrs : Array Attribute := #[]) (ms : Array MethodInfo := #[]) (fl : Nat := 33) (sup : Nat := 0) (ifs : Array Nat := #[]) (fds : Array FieldInfo := #[]) : ClassFile where
  minorVersion := 0
  majorVersion := 65
  constantPool := pool
  accessFlags := fl
  thisClass := this
  superClass := sup
  interfaces := ifs
  fields := fds
  methods := ms
  attributes := attrs
def plain (name : String) (sup : Option ClassId) : Class where
  name := name
  kind := .ordinary
  loader := none
  accessFlags := 33
  super := sup
  interfaces := #[]
  cf := none
  fields := #[]
  methods := #[]
  instanceTypes := #[]
  staticTypes := #[]
  resolved := #[]
  callSites := []
  init := .initialized
  statics := none
  mirror := none

def pool0 : Array CpInfo := pool [(5, u "<init>"), (0, u "()V"), (1, .class_ 10), (1, u "java/lang/Object")] 113

def k0c0 : Code := { maxStack := 0, maxLocals := 1, code := object_method_1_code, exceptionTable := #[], attributes := #[] }
def k0m0 : Method := { name := "<init>", desc := "()V", sig := { parameters := [], returnType := none }, accessFlags := 1, code := some k0c0 }
/-- java/lang/Object -/
def k0 : Class := { plain "java/lang/Object" none with
  accessFlags := 33
  interfaces := #[]
  cf := some (fileOf pool0 8 #[] #[{ accessFlags := 1, nameIndex := 5, descriptorIndex := 6, attributes := #[] }] 33 0 #[] #[])
  fields := #[]
  methods := #[k0m0]
  instanceTypes := #[]
  staticTypes := #[]
  resolved := Array.replicate 124 none
  statics := none }

def pool1 : Array CpInfo := pool [(2, .class_ 4), (1, u "java/lang/Object"), (0, u "<init>"), (0, u "()V"), (0, .integer 65535), (0, .class_ 9), (0, u "java/lang/String"), (0, .methodref 8 11), (0, .nameAndType 5 12), (0, u "([C)V"), (0, .methodref 14 15), (0, .class_ 16), (0, .nameAndType 17 18), (0, u "com/example/atomic_bracket/atomicbracket/Bracket"), (0, u "checkedName"), (0, u "(Ljava/lang/String;)Ljava/lang/String;"), (0, .class_ 20), (0, u "com/example/atomic_bracket/atomicbracket/BracketCheckedNamePinLaw"), (2, u "law"), (0, u "(IIIII)Z")] 5

def k1m0 : Method := { name := "<init>", desc := "()V", sig := { parameters := [], returnType := none }, accessFlags := 2, code := none }
def k1c1 : Code := { maxStack := 4, maxLocals := 16, code := code, exceptionTable := #[], attributes := #[] }
def k1m1 : Method := { name := "law", desc := "(IIIII)Z", sig := { parameters := [.int, .int, .int, .int, .int], returnType := some .boolean }, accessFlags := 9, code := some k1c1 }
/-- com/example/atomic_bracket/atomicbracket/BracketCheckedNamePinLaw -/
def k1 : Class := { plain "com/example/atomic_bracket/atomicbracket/BracketCheckedNamePinLaw" (some 0) with
  accessFlags := 49
  interfaces := #[]
  cf := some (fileOf pool1 19 #[] #[{ accessFlags := 2, nameIndex := 5, descriptorIndex := 6, attributes := #[] }, { accessFlags := 9, nameIndex := 23, descriptorIndex := 24, attributes := #[] }] 49 2 #[] #[])
  fields := #[]
  methods := #[k1m0, k1m1]
  instanceTypes := #[]
  staticTypes := #[]
  resolved := Array.replicate 30 none
  statics := none }

def pool2 : Array CpInfo := pool [(1, .class_ 2), (0, u "java/io/Serializable"), (0, .class_ 4), (0, u "java/lang/Object")] 2

/-- java/io/Serializable -/
def k2 : Class := { plain "java/io/Serializable" (some 0) with
  accessFlags := 1537
  interfaces := #[]
  cf := some (fileOf pool2 1 #[] #[] 1537 3 #[] #[])
  fields := #[]
  methods := #[]
  instanceTypes := #[]
  staticTypes := #[]
  resolved := Array.replicate 7 none
  statics := none }

def pool3 : Array CpInfo := pool [(1, .class_ 2), (0, u "java/lang/Comparable"), (0, .class_ 4), (0, u "java/lang/Object")] 7

/-- java/lang/Comparable -/
def k3 : Class := { plain "java/lang/Comparable" (some 0) with
  accessFlags := 1537
  interfaces := #[]
  cf := some (fileOf pool3 1 #[] #[] 1537 3 #[] #[])
  fields := #[]
  methods := #[]
  instanceTypes := #[]
  staticTypes := #[]
  resolved := Array.replicate 12 none
  statics := none }

def pool4 : Array CpInfo := pool [(2, .class_ 4), (1, u "java/lang/CharSequence"), (42, .class_ 48), (0, u "java/lang/CharSequence$1CodePointIterator"), (10, .class_ 60), (0, u "java/lang/CharSequence$1CharIterator"), (5, .class_ 67), (0, u "java/lang/Object")] 63

/-- java/lang/CharSequence -/
def k4 : Class := { plain "java/lang/CharSequence" (some 0) with
  accessFlags := 1537
  interfaces := #[]
  cf := some (fileOf pool4 2 #[.nestMembers #[47, 59]] #[] 1537 66 #[] #[])
  fields := #[]
  methods := #[]
  instanceTypes := #[]
  staticTypes := #[]
  resolved := Array.replicate 131 none
  statics := none }

def pool5 : Array CpInfo := pool [(1, .class_ 2), (0, u "java/lang/constant/Constable"), (0, .class_ 4), (0, u "java/lang/Object")] 6

/-- java/lang/constant/Constable -/
def k5 : Class := { plain "java/lang/constant/Constable" (some 0) with
  accessFlags := 1537
  interfaces := #[]
  cf := some (fileOf pool5 1 #[] #[] 1537 3 #[] #[])
  fields := #[]
  methods := #[]
  instanceTypes := #[]
  staticTypes := #[]
  resolved := Array.replicate 11 none
  statics := none }

def pool6 : Array CpInfo := pool [(1, .class_ 2), (0, u "java/lang/constant/ConstantDesc"), (0, .class_ 4), (0, u "java/lang/Object")] 32

/-- java/lang/constant/ConstantDesc -/
def k6 : Class := { plain "java/lang/constant/ConstantDesc" (some 0) with
  accessFlags := 1537
  interfaces := #[]
  cf := some (fileOf pool6 1 #[] #[] 1537 3 #[] #[])
  fields := #[]
  methods := #[]
  instanceTypes := #[]
  staticTypes := #[]
  resolved := Array.replicate 37 none
  statics := none }

def pool7 : Array CpInfo := pool [(1, .methodref 2 3), (0, .class_ 4), (0, .nameAndType 5 6), (0, u "java/lang/Object"), (0, u "<init>"), (0, u "()V"), (2, .fieldref 10 11), (0, .class_ 12), (0, .nameAndType 13 14), (0, u "java/lang/String"), (0, u "value"), (0, u "[B"), (0, .fieldref 10 16), (0, .nameAndType 17 18), (0, u "coder"), (0, u "B"), (2, u "hash"), (0, u "I"), (2, u "hashIsZero"), (0, u "Z"), (0, .methodref 10 28), (0, .nameAndType 5 29), (0, u "([CIILjava/lang/Void;)V"), (8, .fieldref 10 39), (0, .nameAndType 40 26), (0, u "COMPACT_STRINGS"), (1, .class_ 44), (1, u "java/lang/StringUTF16"), (0, u "compress"), (1, .methodref 42 48), (0, .nameAndType 49 50), (0, u "coderFromArrayLen"), (0, u "([BI)B"), (91, u "()Z"), (34, .methodref 42 178), (0, .nameAndType 45 179), (0, u "([CII)[B"), (395, .class_ 576), (0, u "java/lang/CharSequence"), (22, u "CASE_INSENSITIVE_ORDER"), (0, u "Ljava/util/Comparator;"), (91, u "isEmpty"), (317, u "([C)V"), (90, u "serialPersistentFields"), (0, u "[Ljava/io/ObjectStreamField;"), (0, .class_ 1104), (0, u "java/lang/String$CaseInsensitiveComparator"), (1, .class_ 1107), (0, u "java/io/Serializable"), (0, .class_ 1109), (0, u "java/lang/Comparable"), (0, .class_ 1111), (0, u "java/lang/constant/Constable"), (0, .class_ 1113), (0, u "java/lang/constant/ConstantDesc"), (2, u "serialVersionUID"), (0, u "J"), (3, u "REPL"), (0, u "C"), (2, u "LATIN1"), (1, u "UTF16")] 323

def k7m0 : Method := { name := "<init>", desc := "()V", sig := { parameters := [], returnType := none }, accessFlags := 1, code := none }
def k7c1 : Code := { maxStack := 5, maxLocals := 2, code := jdk_42_method_3_code, exceptionTable := #[], attributes := #[] }
def k7m1 : Method := { name := "<init>", desc := "([C)V", sig := { parameters := [(.array .char)], returnType := none }, accessFlags := 1, code := some k7c1 }
def k7c2 : Code := { maxStack := 1, maxLocals := 1, code := jdk_42_method_55_code, exceptionTable := #[], attributes := #[] }
def k7m2 : Method := { name := "isEmpty", desc := "()Z", sig := { parameters := [], returnType := some .boolean }, accessFlags := 1, code := some k7c2 }
def k7c3 : Code := { maxStack := 4, maxLocals := 6, code := jdk_42_method_149_code, exceptionTable := #[], attributes := #[] }
def k7m3 : Method := { name := "<init>", desc := "([CIILjava/lang/Void;)V", sig := { parameters := [(.array .char), .int, .int, (.object "java/lang/Void")], returnType := none }, accessFlags := 2, code := some k7c3 }
/-- java/lang/String -/
def k7 : Class := { plain "java/lang/String" (some 0) with
  accessFlags := 49
  interfaces := #[2, 3, 4, 5, 6]
  cf := some (fileOf pool7 10 #[.nestMembers #[1103]] #[{ accessFlags := 1, nameIndex := 5, descriptorIndex := 6, attributes := #[] }, { accessFlags := 1, nameIndex := 5, descriptorIndex := 1010, attributes := #[] }, { accessFlags := 1, nameIndex := 692, descriptorIndex := 142, attributes := #[] }, { accessFlags := 2, nameIndex := 5, descriptorIndex := 29, attributes := #[] }] 49 2 #[1106, 1108, 575, 1110, 1112] #[{ accessFlags := 18, nameIndex := 13, descriptorIndex := 14, attributes := #[] }, { accessFlags := 18, nameIndex := 17, descriptorIndex := 18, attributes := #[] }, { accessFlags := 2, nameIndex := 21, descriptorIndex := 22, attributes := #[] }, { accessFlags := 2, nameIndex := 25, descriptorIndex := 26, attributes := #[] }, { accessFlags := 26, nameIndex := 1116, descriptorIndex := 1117, attributes := #[] }, { accessFlags := 24, nameIndex := 40, descriptorIndex := 26, attributes := #[] }, { accessFlags := 26, nameIndex := 1101, descriptorIndex := 1102, attributes := #[] }, { accessFlags := 26, nameIndex := 1121, descriptorIndex := 1122, attributes := #[] }, { accessFlags := 25, nameIndex := 599, descriptorIndex := 600, attributes := #[] }, { accessFlags := 24, nameIndex := 1125, descriptorIndex := 18, attributes := #[] }, { accessFlags := 24, nameIndex := 1127, descriptorIndex := 18, attributes := #[] }])
  fields := #[{ name := "value", type := (.array .byte), accessFlags := 18, slot := 0, constantValue := 0 }, { name := "coder", type := .byte, accessFlags := 18, slot := 1, constantValue := 0 }, { name := "hash", type := .int, accessFlags := 2, slot := 2, constantValue := 0 }, { name := "hashIsZero", type := .boolean, accessFlags := 2, slot := 3, constantValue := 0 }, { name := "serialVersionUID", type := .long, accessFlags := 26, slot := 0, constantValue := 0 }, { name := "COMPACT_STRINGS", type := .boolean, accessFlags := 24, slot := 1, constantValue := 0 }, { name := "serialPersistentFields", type := (.array (.object "java/io/ObjectStreamField")), accessFlags := 26, slot := 2, constantValue := 0 }, { name := "REPL", type := .char, accessFlags := 26, slot := 3, constantValue := 0 }, { name := "CASE_INSENSITIVE_ORDER", type := (.object "java/util/Comparator"), accessFlags := 25, slot := 4, constantValue := 0 }, { name := "LATIN1", type := .byte, accessFlags := 24, slot := 5, constantValue := 0 }, { name := "UTF16", type := .byte, accessFlags := 24, slot := 6, constantValue := 0 }]
  methods := #[k7m0, k7m1, k7m2, k7m3]
  instanceTypes := #[(.array .byte), .byte, .int, .boolean]
  staticTypes := #[.long, .boolean, (.array (.object "java/io/ObjectStreamField")), .char, (.object "java/util/Comparator"), .byte, .byte]
  resolved := Array.replicate 1451 none
  statics := some 0 }

def pool8 : Array CpInfo := pool [(6, .class_ 8), (1, u "java/lang/Object"), (0, u "<init>"), (0, u "()V"), (0, .methodref 12 13), (0, .class_ 14), (0, .nameAndType 15 16), (0, u "java/lang/StringUTF16"), (0, u "newBytesLength"), (0, u "(I)I"), (3, .integer 1073741823), (23, .fieldref 12 45), (0, .nameAndType 46 47), (0, u "$assertionsDisabled"), (0, u "Z"), (11, .fieldref 12 60), (0, .nameAndType 61 62), (0, u "HI_BYTE_SHIFT"), (0, u "I"), (0, .fieldref 12 64), (0, .nameAndType 65 62), (0, u "LO_BYTE_SHIFT"), (5, .methodref 12 72), (0, .nameAndType 73 74), (0, u "getChar"), (0, u "([BI)C"), (32, .methodref 12 108), (0, .nameAndType 109 110), (0, u "newBytesFor"), (0, u "(I)[B"), (0, .methodref 12 112), (0, .nameAndType 113 114), (0, u "putChar"), (0, u "([BII)V"), (0, .methodref 12 116), (0, .nameAndType 117 118), (0, u "compress"), (0, u "([CI[BII)I"), (0, .methodref 12 120), (0, .nameAndType 121 122), (0, u "toBytes"), (0, u "([CII)[B"), (138, u "coderFromArrayLen"), (0, u "([BI)B"), (106, .class_ 371), (1, u "java/lang/StringUTF16$LinesSpliterator"), (58, u "MAX_LENGTH"), (196, .class_ 628), (0, u "java/lang/StringUTF16$CodePointsSpliterator"), (0, .class_ 630), (0, u "java/lang/StringUTF16$CharsSpliterator")] 4

def k8m0 : Method := { name := "<init>", desc := "()V", sig := { parameters := [], returnType := none }, accessFlags := 0, code := none }
def k8c1 : Code := { maxStack := 1, maxLocals := 1, code := jdk_52_method_2_code, exceptionTable := #[], attributes := #[] }
def k8m1 : Method := { name := "newBytesFor", desc := "(I)[B", sig := { parameters := [.int], returnType := some (.array .byte) }, accessFlags := 9, code := some k8c1 }
def k8c2 : Code := { maxStack := 4, maxLocals := 1, code := jdk_52_method_3_code, exceptionTable := #[], attributes := #[] }
def k8m2 : Method := { name := "newBytesLength", desc := "(I)I", sig := { parameters := [.int], returnType := some .int }, accessFlags := 9, code := some k8c2 }
def k8c3 : Code := { maxStack := 4, maxLocals := 3, code := jdk_52_method_4_code, exceptionTable := #[], attributes := #[] }
def k8m3 : Method := { name := "putChar", desc := "([BII)V", sig := { parameters := [(.array .byte), .int, .int], returnType := none }, accessFlags := 8, code := some k8c3 }
def k8c4 : Code := { maxStack := 3, maxLocals := 2, code := jdk_52_method_5_code, exceptionTable := #[], attributes := #[] }
def k8m4 : Method := { name := "getChar", desc := "([BI)C", sig := { parameters := [(.array .byte), .int], returnType := some .char }, accessFlags := 8, code := some k8c4 }
def k8c5 : Code := { maxStack := 4, maxLocals := 5, code := jdk_52_method_14_code, exceptionTable := #[], attributes := #[] }
def k8m5 : Method := { name := "toBytes", desc := "([CII)[B", sig := { parameters := [(.array .char), .int, .int], returnType := some (.array .byte) }, accessFlags := 9, code := some k8c5 }
def k8c6 : Code := { maxStack := 2, maxLocals := 2, code := jdk_52_method_15_code, exceptionTable := #[], attributes := #[] }
def k8m6 : Method := { name := "coderFromArrayLen", desc := "([BI)B", sig := { parameters := [(.array .byte), .int], returnType := some .byte }, accessFlags := 8, code := some k8c6 }
def k8c7 : Code := { maxStack := 5, maxLocals := 6, code := jdk_52_method_16_code, exceptionTable := #[], attributes := #[] }
def k8m7 : Method := { name := "compress", desc := "([CII)[B", sig := { parameters := [(.array .char), .int, .int], returnType := some (.array .byte) }, accessFlags := 9, code := some k8c7 }
def k8c8 : Code := { maxStack := 3, maxLocals := 7, code := jdk_52_method_21_code, exceptionTable := #[], attributes := #[] }
def k8m8 : Method := { name := "compress", desc := "([CI[BII)I", sig := { parameters := [(.array .char), .int, (.array .byte), .int, .int], returnType := some .int }, accessFlags := 9, code := some k8c8 }
/-- java/lang/StringUTF16 -/
def k8 : Class := { plain "java/lang/StringUTF16" (some 0) with
  accessFlags := 48
  interfaces := #[]
  cf := some (fileOf pool8 12 #[.nestMembers #[627, 629, 369]] #[{ accessFlags := 0, nameIndex := 9, descriptorIndex := 10, attributes := #[] }, { accessFlags := 9, nameIndex := 109, descriptorIndex := 110, attributes := #[] }, { accessFlags := 9, nameIndex := 15, descriptorIndex := 16, attributes := #[] }, { accessFlags := 8, nameIndex := 113, descriptorIndex := 114, attributes := #[] }, { accessFlags := 8, nameIndex := 73, descriptorIndex := 74, attributes := #[] }, { accessFlags := 9, nameIndex := 121, descriptorIndex := 122, attributes := #[] }, { accessFlags := 8, nameIndex := 261, descriptorIndex := 262, attributes := #[] }, { accessFlags := 9, nameIndex := 117, descriptorIndex := 122, attributes := #[] }, { accessFlags := 9, nameIndex := 117, descriptorIndex := 118, attributes := #[] }] 48 6 #[] #[{ accessFlags := 26, nameIndex := 61, descriptorIndex := 62, attributes := #[] }, { accessFlags := 26, nameIndex := 65, descriptorIndex := 62, attributes := #[] }, { accessFlags := 24, nameIndex := 430, descriptorIndex := 62, attributes := #[] }, { accessFlags := 4120, nameIndex := 46, descriptorIndex := 47, attributes := #[] }])
  fields := #[{ name := "HI_BYTE_SHIFT", type := .int, accessFlags := 26, slot := 0, constantValue := 0 }, { name := "LO_BYTE_SHIFT", type := .int, accessFlags := 26, slot := 1, constantValue := 0 }, { name := "MAX_LENGTH", type := .int, accessFlags := 24, slot := 2, constantValue := 0 }, { name := "$assertionsDisabled", type := .boolean, accessFlags := 4120, slot := 3, constantValue := 0 }]
  methods := #[k8m0, k8m1, k8m2, k8m3, k8m4, k8m5, k8m6, k8m7, k8m8]
  instanceTypes := #[]
  staticTypes := #[.int, .int, .int, .boolean]
  resolved := Array.replicate 635 none
  statics := some 1 }

def pool9 : Array CpInfo := pool [(2, .class_ 4), (1, u "java/lang/Object"), (3, .class_ 10), (1, u "com/example/atomic_bracket/atomicbracket/Bracket$Settings"), (0, u "m_aResourceFactory"), (0, u "Lcom/example/atomic_bracket/atomicbracket/ResourceFactory;"), (1, .class_ 15), (0, u "com/example/atomic_bracket/atomicbracket/Bracket"), (2, u "m_sName"), (0, u "Ljava/lang/String;"), (3, u "m_aPropagation"), (0, u "Lcom/example/atomic_bracket/atomicbracket/Propagation;"), (3, u "m_aIsolation"), (0, u "Lcom/example/atomic_bracket/atomicbracket/Isolation;"), (3, u "m_nTimeoutSeconds"), (0, u "I"), (3, u "m_aCommitTypes"), (0, u "Ljava/util/List;"), (3, u "m_nRetries"), (8, .nameAndType 53 54), (0, u "isEmpty"), (0, u "()Z"), (5, u "m_aForCallbacks"), (0, u "Lcom/example/atomic_bracket/atomicbracket/Bracket;"), (2, .methodref 65 66), (0, .class_ 67), (0, .nameAndType 68 69), (0, u "java/util/Objects"), (0, u "requireNonNull"), (0, u "(Ljava/lang/Object;Ljava/lang/String;)Ljava/lang/Object;"), (16, u "checkedName"), (0, u "(Ljava/lang/String;)Ljava/lang/String;"), (0, .string 89), (0, u "sName"), (0, .methodref 91 52), (0, .class_ 92), (0, u "java/lang/String"), (301, u "DEFAULT_NAME")] 77

def k9c0 : Code := { maxStack := 3, maxLocals := 1, code := prog_1_method_4_code, exceptionTable := #[], attributes := #[] }
def k9m0 : Method := { name := "checkedName", desc := "(Ljava/lang/String;)Ljava/lang/String;", sig := { parameters := [(.object "java/lang/String")], returnType := some (.object "java/lang/String") }, accessFlags := 9, code := some k9c0 }
/-- com/example/atomic_bracket/atomicbracket/Bracket -/
def k9 : Class := { plain "com/example/atomic_bracket/atomicbracket/Bracket" (some 0) with
  accessFlags := 33
  interfaces := #[]
  cf := some (fileOf pool9 14 #[.nestMembers #[8]] #[{ accessFlags := 9, nameIndex := 86, descriptorIndex := 87, attributes := #[] }] 33 2 #[] #[{ accessFlags := 25, nameIndex := 394, descriptorIndex := 19, attributes := #[] }, { accessFlags := 18, nameIndex := 11, descriptorIndex := 12, attributes := #[] }, { accessFlags := 18, nameIndex := 18, descriptorIndex := 19, attributes := #[] }, { accessFlags := 18, nameIndex := 23, descriptorIndex := 24, attributes := #[] }, { accessFlags := 18, nameIndex := 28, descriptorIndex := 29, attributes := #[] }, { accessFlags := 18, nameIndex := 33, descriptorIndex := 34, attributes := #[] }, { accessFlags := 18, nameIndex := 38, descriptorIndex := 39, attributes := #[] }, { accessFlags := 18, nameIndex := 43, descriptorIndex := 34, attributes := #[] }, { accessFlags := 18, nameIndex := 60, descriptorIndex := 61, attributes := #[] }])
  fields := #[{ name := "DEFAULT_NAME", type := (.object "java/lang/String"), accessFlags := 25, slot := 0, constantValue := 0 }, { name := "m_aResourceFactory", type := (.object "com/example/atomic_bracket/atomicbracket/ResourceFactory"), accessFlags := 18, slot := 0, constantValue := 0 }, { name := "m_sName", type := (.object "java/lang/String"), accessFlags := 18, slot := 1, constantValue := 0 }, { name := "m_aPropagation", type := (.object "com/example/atomic_bracket/atomicbracket/Propagation"), accessFlags := 18, slot := 2, constantValue := 0 }, { name := "m_aIsolation", type := (.object "com/example/atomic_bracket/atomicbracket/Isolation"), accessFlags := 18, slot := 3, constantValue := 0 }, { name := "m_nTimeoutSeconds", type := .int, accessFlags := 18, slot := 4, constantValue := 0 }, { name := "m_aCommitTypes", type := (.object "java/util/List"), accessFlags := 18, slot := 5, constantValue := 0 }, { name := "m_nRetries", type := .int, accessFlags := 18, slot := 6, constantValue := 0 }, { name := "m_aForCallbacks", type := (.object "com/example/atomic_bracket/atomicbracket/Bracket"), accessFlags := 18, slot := 7, constantValue := 0 }]
  methods := #[k9m0]
  instanceTypes := #[(.object "com/example/atomic_bracket/atomicbracket/ResourceFactory"), (.object "java/lang/String"), (.object "com/example/atomic_bracket/atomicbracket/Propagation"), (.object "com/example/atomic_bracket/atomicbracket/Isolation"), .int, (.object "java/util/List"), .int, (.object "com/example/atomic_bracket/atomicbracket/Bracket")]
  staticTypes := #[(.object "java/lang/String")]
  resolved := Array.replicate 472 none
  statics := none }

def pool10 : Array CpInfo := pool [(2, .class_ 4), (1, u "java/lang/Object"), (0, u "<init>"), (0, u "()V"), (35, .class_ 44), (1, u "java/util/Objects"), (0, u "requireNonNull"), (48, u "(Ljava/lang/Object;Ljava/lang/String;)Ljava/lang/Object;")] 89

def k10m0 : Method := { name := "<init>", desc := "()V", sig := { parameters := [], returnType := none }, accessFlags := 2, code := none }
def k10c1 : Code := { maxStack := 3, maxLocals := 2, code := jdk_31_method_11_code, exceptionTable := #[], attributes := #[] }
def k10m1 : Method := { name := "requireNonNull", desc := "(Ljava/lang/Object;Ljava/lang/String;)Ljava/lang/Object;", sig := { parameters := [(.object "java/lang/Object"), (.object "java/lang/String")], returnType := some (.object "java/lang/Object") }, accessFlags := 9, code := some k10c1 }
/-- java/util/Objects -/
def k10 : Class := { plain "java/util/Objects" (some 0) with
  accessFlags := 49
  interfaces := #[]
  cf := some (fileOf pool10 42 #[] #[{ accessFlags := 2, nameIndex := 5, descriptorIndex := 6, attributes := #[] }, { accessFlags := 9, nameIndex := 45, descriptorIndex := 94, attributes := #[] }] 49 2 #[] #[])
  fields := #[]
  methods := #[k10m0, k10m1]
  instanceTypes := #[]
  staticTypes := #[]
  resolved := Array.replicate 184 none
  statics := none }

def pool11 : Array CpInfo := pool [(4, .class_ 6), (1, u "java/lang/Object"), (0, u "<init>"), (0, u "()V"), (5, .class_ 16), (1, u "java/lang/StringLatin1"), (104, u "$assertionsDisabled"), (0, u "Z"), (98, .class_ 223), (1, u "java/lang/StringLatin1$LinesSpliterator"), (166, .class_ 391), (0, u "java/lang/StringLatin1$CharsSpliterator")] 3

def k11m0 : Method := { name := "<init>", desc := "()V", sig := { parameters := [], returnType := none }, accessFlags := 0, code := none }
/-- java/lang/StringLatin1 -/
def k11 : Class := { plain "java/lang/StringLatin1" (some 0) with
  accessFlags := 48
  interfaces := #[]
  cf := some (fileOf pool11 14 #[.nestMembers #[390, 221]] #[{ accessFlags := 0, nameIndex := 7, descriptorIndex := 8, attributes := #[] }] 48 4 #[] #[{ accessFlags := 4120, nameIndex := 121, descriptorIndex := 122, attributes := #[] }])
  fields := #[{ name := "$assertionsDisabled", type := .boolean, accessFlags := 4120, slot := 0, constantValue := 0 }]
  methods := #[k11m0]
  instanceTypes := #[]
  staticTypes := #[.boolean]
  resolved := Array.replicate 395 none
  statics := none }

def pool12 : Array CpInfo := pool [(2, .class_ 4), (1, u "java/lang/Object"), (0, u "<init>"), (0, u "()V"), (17, .class_ 26), (1, u "jdk/internal/util/Preconditions"), (28, .class_ 56), (0, u "jdk/internal/util/Preconditions$4"), (57, .class_ 115), (0, u "jdk/internal/util/Preconditions$1"), (7, u "SIOOBE_FORMATTER"), (0, u "Ljava/util/function/BiFunction;"), (0, .class_ 126), (0, u "jdk/internal/util/Preconditions$2"), (3, u "AIOOBE_FORMATTER"), (0, .class_ 132), (0, u "jdk/internal/util/Preconditions$3"), (3, u "IOOBE_FORMATTER")] 57

def k12m0 : Method := { name := "<init>", desc := "()V", sig := { parameters := [], returnType := none }, accessFlags := 1, code := none }
/-- jdk/internal/util/Preconditions -/
def k12 : Class := { plain "jdk/internal/util/Preconditions" (some 0) with
  accessFlags := 33
  interfaces := #[]
  cf := some (fileOf pool12 24 #[.nestMembers #[55, 131, 125, 114]] #[{ accessFlags := 1, nameIndex := 5, descriptorIndex := 6, attributes := #[] }] 33 2 #[] #[{ accessFlags := 25, nameIndex := 123, descriptorIndex := 124, attributes := #[] }, { accessFlags := 25, nameIndex := 130, descriptorIndex := 124, attributes := #[] }, { accessFlags := 25, nameIndex := 136, descriptorIndex := 124, attributes := #[] }])
  fields := #[{ name := "SIOOBE_FORMATTER", type := (.object "java/util/function/BiFunction"), accessFlags := 25, slot := 0, constantValue := 0 }, { name := "AIOOBE_FORMATTER", type := (.object "java/util/function/BiFunction"), accessFlags := 25, slot := 1, constantValue := 0 }, { name := "IOOBE_FORMATTER", type := (.object "java/util/function/BiFunction"), accessFlags := 25, slot := 2, constantValue := 0 }]
  methods := #[k12m0]
  instanceTypes := #[]
  staticTypes := #[(.object "java/util/function/BiFunction"), (.object "java/util/function/BiFunction"), (.object "java/util/function/BiFunction")]
  resolved := Array.replicate 194 none
  statics := some 2 }

def pool13 : Array CpInfo := pool [(9, u "<init>"), (6, .class_ 18), (1, u "java/lang/Object"), (0, u "()V"), (1, .class_ 23), (1, u "jdk/internal/util/ArraysSupport"), (0, u "LOG2_ARRAY_LONG_INDEX_SCALE"), (0, u "I"), (2, u "U"), (0, u "Ljdk/internal/misc/Unsafe;"), (8, u "BIG_ENDIAN"), (0, u "Z"), (8, u "LOG2_BYTE_BIT_SIZE"), (4, u "LOG2_ARRAY_INT_INDEX_SCALE"), (54, u "JLA"), (0, u "Ljdk/internal/access/JavaLangAccess;"), (11, u "LOG2_ARRAY_BOOLEAN_INDEX_SCALE"), (9, u "LOG2_ARRAY_BYTE_INDEX_SCALE"), (5, u "LOG2_ARRAY_CHAR_INDEX_SCALE"), (5, u "LOG2_ARRAY_SHORT_INDEX_SCALE"), (18, u "LOG2_ARRAY_FLOAT_INDEX_SCALE"), (24, u "LOG2_ARRAY_DOUBLE_INDEX_SCALE"), (89, u "T_BOOLEAN"), (2, u "T_CHAR"), (1, u "T_FLOAT"), (1, u "T_DOUBLE"), (1, u "T_BYTE"), (1, u "T_SHORT"), (1, u "T_INT"), (1, u "T_LONG"), (1, u "SOFT_MAX_ARRAY_LENGTH")] 83

def k13m0 : Method := { name := "<init>", desc := "()V", sig := { parameters := [], returnType := none }, accessFlags := 2, code := none }
/-- jdk/internal/util/ArraysSupport -/
def k13 : Class := { plain "jdk/internal/util/ArraysSupport" (some 0) with
  accessFlags := 33
  interfaces := #[]
  cf := some (fileOf pool13 21 #[] #[{ accessFlags := 2, nameIndex := 9, descriptorIndex := 19, attributes := #[] }] 33 16 #[] #[{ accessFlags := 24, nameIndex := 28, descriptorIndex := 29, attributes := #[] }, { accessFlags := 26, nameIndex := 38, descriptorIndex := 39, attributes := #[] }, { accessFlags := 25, nameIndex := 121, descriptorIndex := 25, attributes := #[] }, { accessFlags := 25, nameIndex := 131, descriptorIndex := 25, attributes := #[] }, { accessFlags := 25, nameIndex := 137, descriptorIndex := 25, attributes := #[] }, { accessFlags := 25, nameIndex := 143, descriptorIndex := 25, attributes := #[] }, { accessFlags := 25, nameIndex := 53, descriptorIndex := 25, attributes := #[] }, { accessFlags := 25, nameIndex := 24, descriptorIndex := 25, attributes := #[] }, { accessFlags := 25, nameIndex := 162, descriptorIndex := 25, attributes := #[] }, { accessFlags := 25, nameIndex := 187, descriptorIndex := 25, attributes := #[] }, { accessFlags := 26, nameIndex := 48, descriptorIndex := 25, attributes := #[] }, { accessFlags := 25, nameIndex := 277, descriptorIndex := 25, attributes := #[] }, { accessFlags := 25, nameIndex := 280, descriptorIndex := 25, attributes := #[] }, { accessFlags := 25, nameIndex := 282, descriptorIndex := 25, attributes := #[] }, { accessFlags := 25, nameIndex := 284, descriptorIndex := 25, attributes := #[] }, { accessFlags := 25, nameIndex := 286, descriptorIndex := 25, attributes := #[] }, { accessFlags := 25, nameIndex := 288, descriptorIndex := 25, attributes := #[] }, { accessFlags := 25, nameIndex := 290, descriptorIndex := 25, attributes := #[] }, { accessFlags := 25, nameIndex := 292, descriptorIndex := 25, attributes := #[] }, { accessFlags := 26, nameIndex := 108, descriptorIndex := 109, attributes := #[] }, { accessFlags := 25, nameIndex := 294, descriptorIndex := 25, attributes := #[] }])
  fields := #[{ name := "U", type := (.object "jdk/internal/misc/Unsafe"), accessFlags := 24, slot := 0, constantValue := 0 }, { name := "BIG_ENDIAN", type := .boolean, accessFlags := 26, slot := 1, constantValue := 0 }, { name := "LOG2_ARRAY_BOOLEAN_INDEX_SCALE", type := .int, accessFlags := 25, slot := 2, constantValue := 0 }, { name := "LOG2_ARRAY_BYTE_INDEX_SCALE", type := .int, accessFlags := 25, slot := 3, constantValue := 0 }, { name := "LOG2_ARRAY_CHAR_INDEX_SCALE", type := .int, accessFlags := 25, slot := 4, constantValue := 0 }, { name := "LOG2_ARRAY_SHORT_INDEX_SCALE", type := .int, accessFlags := 25, slot := 5, constantValue := 0 }, { name := "LOG2_ARRAY_INT_INDEX_SCALE", type := .int, accessFlags := 25, slot := 6, constantValue := 0 }, { name := "LOG2_ARRAY_LONG_INDEX_SCALE", type := .int, accessFlags := 25, slot := 7, constantValue := 0 }, { name := "LOG2_ARRAY_FLOAT_INDEX_SCALE", type := .int, accessFlags := 25, slot := 8, constantValue := 0 }, { name := "LOG2_ARRAY_DOUBLE_INDEX_SCALE", type := .int, accessFlags := 25, slot := 9, constantValue := 0 }, { name := "LOG2_BYTE_BIT_SIZE", type := .int, accessFlags := 26, slot := 10, constantValue := 0 }, { name := "T_BOOLEAN", type := .int, accessFlags := 25, slot := 11, constantValue := 0 }, { name := "T_CHAR", type := .int, accessFlags := 25, slot := 12, constantValue := 0 }, { name := "T_FLOAT", type := .int, accessFlags := 25, slot := 13, constantValue := 0 }, { name := "T_DOUBLE", type := .int, accessFlags := 25, slot := 14, constantValue := 0 }, { name := "T_BYTE", type := .int, accessFlags := 25, slot := 15, constantValue := 0 }, { name := "T_SHORT", type := .int, accessFlags := 25, slot := 16, constantValue := 0 }, { name := "T_INT", type := .int, accessFlags := 25, slot := 17, constantValue := 0 }, { name := "T_LONG", type := .int, accessFlags := 25, slot := 18, constantValue := 0 }, { name := "JLA", type := (.object "jdk/internal/access/JavaLangAccess"), accessFlags := 26, slot := 19, constantValue := 0 }, { name := "SOFT_MAX_ARRAY_LENGTH", type := .int, accessFlags := 25, slot := 20, constantValue := 0 }]
  methods := #[k13m0]
  instanceTypes := #[]
  staticTypes := #[(.object "jdk/internal/misc/Unsafe"), .boolean, .int, .int, .int, .int, .int, .int, .int, .int, .int, .int, .int, .int, .int, .int, .int, .int, .int, (.object "jdk/internal/access/JavaLangAccess"), .int]
  resolved := Array.replicate 378 none
  statics := none }

def pool14 : Array CpInfo := pool [(1, u "java/lang/Cloneable"), (0, .class_ 1), (0, u "java/lang/Object"), (0, .class_ 3)] 3

/-- java/lang/Cloneable -/
def k14 : Class := { plain "java/lang/Cloneable" (some 0) with
  accessFlags := 1537
  interfaces := #[]
  cf := some (fileOf pool14 2 #[] #[] 1537 4 #[] #[])
  fields := #[]
  methods := #[]
  instanceTypes := #[]
  staticTypes := #[]
  resolved := Array.replicate 8 none
  statics := none }

/-- the primitive byte -/
def k15 : Class := { plain "byte" none with kind := .primitive 'B', accessFlags := 0x411 }
/-- [B -/
def k16 : Class := { plain "[B" (some 0) with kind := .array 15 .byte, interfaces := #[14, 2], accessFlags := 1041 }

/-- the primitive char -/
def k17 : Class := { plain "char" none with kind := .primitive 'C', accessFlags := 0x411 }
/-- [C -/
def k18 : Class := { plain "[C" (some 0) with kind := .array 17 .char, interfaces := #[14, 2], accessFlags := 1041 }

/-- the primitive int -/
def k19 : Class := { plain "int" none with kind := .primitive 'I', accessFlags := 0x411 }
/-- [I -/
def k20 : Class := { plain "[I" (some 0) with kind := .array 19 .int, interfaces := #[14, 2], accessFlags := 1041 }

def heap : Heap := #[{ cls := 7, slots := #[.long 0, .int 1, .null, .int 0, .null, .int 0, .int 0], vm := .statics 7 },
  { cls := 8, slots := #[.int 0, .int 8, .int 0, .int 1], vm := .statics 8 },
  { cls := 12, slots := #[.null, .null, .null], vm := .statics 12 }]
def classes : Array Class := #[k0, k1, k2, k3, k4, k5, k6, k7, k8, k9, k10, k11, k12, k13, k14, k15, k16, k17, k18, k19, k20]
def interned : List (Array UInt16 × Addr) := []
def slotsUsed : Nat := 14
def theMethod : MethodId := ⟨1, 1⟩
def args0 : Array Value := #[.int 5, .int 65, .int 66, .int 67, .int 68]
def aboutOver (below : List Frame) : State where
  vm := { classes := classes, interned := interned.toArray }
  heap := heap
  slotsUsed := slotsUsed
  threads := #[{ frames := .invoking theMethod args0 :: below }]
def below0 : List Frame := [.native { method := ⟨0, 0⟩, args := #[] }]
def about1 : State := aboutOver below0
def p0 : Program := .bare "" "" ""
def e0 : Env := launch0.env 0 0 0
theorem w_frames : about1.frames = Frame.invoking theMethod args0 :: below0 := rfl
set_option maxRecDepth 65536 in
theorem w_args : argsFit about1.vm theMethod args0 = true := by decide +kernel
set_option maxRecDepth 65536 in
theorem w_heap : heapFits about1 = true := by decide +kernel
set_option maxRecDepth 65536 in
theorem w_runnable : about1.curStatus? = some .runnable := by decide +kernel
set_option maxRecDepth 65536 in
theorem w_alone : about1.alone = true := by decide +kernel
set_option maxRecDepth 65536 in
theorem w_named : about1.methodNamed? x = some theMethod := by decide +kernel
set_option maxRecDepth 65536 in
theorem w_hears : about1.hears theMethod below0 = true := by decide +kernel
set_option maxRecDepth 65536 in
theorem w_ripe : about1.ripe theMethod args0 below0 = true := by decide +kernel
theorem w_running : about1.status = .running := rfl
set_option maxRecDepth 65536 in
theorem w_room : about1.hasRoom e0.platform room_1 = true :=
  launch0.hasRoom_least _ room_1 (by decide +kernel) (by decide +kernel) (by decide +kernel) (by decide +kernel) (by decide +kernel) (by decide +kernel)
theorem allAtoms_all (ts : List Jvm.Cond) (a : Array Jvm.Value) (st : Jvm.State) : (allAtoms ts).before a st = ts.all (fun c => c.before a st) := by
  induction ts with
  | nil => rfl
  | cons c t ih =>
    show (Jvm.Cond.and c (allAtoms t)).before a st = _
    rw [Jvm.Cond.before_and, ih, List.all_cons]
def words1 : List Jvm.Cond := Jvm.Cond.code x code maxLocals ret :: tables_1
/-- a 'code' word, met by the world's own term for the bytes: nothing is compared byte by byte -/
theorem code_word {y : MethodName} {bytes : ByteArray} {mx : Nat} {rt : Option FieldType} {a : Array Value} {s : State} {m : MethodId} {meth : Method} {c : Code} (h1 : s.methodNamed? y = some m) (h2 : s.vm.method? m = some meth) (h3 : meth.code = some c) (h4 : c.code = bytes)
    (h5 : (c.maxLocals == mx && c.exceptionTable.isEmpty && decide (c.maxStack ≤ mostOperands) && decide (meth.sig.returnType = rt) && !meth.locks && decide (parseMethodDescriptor y.desc = some meth.sig)) = true) : (Jvm.Cond.code y bytes mx rt).before a s = true := by
  simp only [Bool.and_eq_true, beq_iff_eq, Bool.not_eq_true', decide_eq_true_eq] at h5
  obtain ⟨⟨⟨⟨⟨g1, g2⟩, g3⟩, g4⟩, g5⟩, g6⟩ := h5
  simp [Cond.before, Cond.holds, Cond.value, h1, h2, h3, h4, g1, g2, g3, g4, g5, g6]
def isCode : Jvm.Cond → Bool
  | .code _ _ _ _ => true
  | _ => false
theorem all_split {L : List Jvm.Cond} {P : Jvm.Cond → Bool} (h1 : L.all (fun c => isCode c || P c) = true) (h2 : ∀ c ∈ L.filter isCode, P c = true) : L.all P = true := by
  refine List.all_eq_true.mpr fun c hc => ?_
  have h := List.all_eq_true.mp h1 c hc
  rcases Bool.eq_false_or_eq_true (isCode c) with hi | hi
  · exact h2 c (List.mem_filter.mpr ⟨hc, hi⟩)
  · simpa [hi] using h
set_option maxRecDepth 65536 in
theorem w_c0 : (Jvm.Cond.code x code maxLocals ret).before args0 about1 = true := code_word (m := ⟨1, 1⟩) (meth := k1m1) (c := k1c1) (by decide +kernel) rfl rfl rfl (by decide +kernel)
set_option maxRecDepth 65536 in
theorem w_c1 : (Jvm.Cond.code ({ cls := "java/lang/String", name := "<init>", desc := "([C)V" } : Jvm.MethodName) jdk_42_method_3_code (2 : Nat) (Option.none : Option Jvm.ClassFile.FieldType)).before args0 about1 = true := code_word (m := ⟨7, 1⟩) (meth := k7m1) (c := k7c1) (by decide +kernel) rfl rfl rfl (by decide +kernel)
set_option maxRecDepth 65536 in
theorem w_c2 : (Jvm.Cond.code ({ cls := "java/lang/String", name := "<init>", desc := "([CIILjava/lang/Void;)V" } : Jvm.MethodName) jdk_42_method_149_code (6 : Nat) (Option.none : Option Jvm.ClassFile.FieldType)).before args0 about1 = true := code_word (m := ⟨7, 3⟩) (meth := k7m3) (c := k7c3) (by decide +kernel) rfl rfl rfl (by decide +kernel)
set_option maxRecDepth 65536 in
theorem w_c3 : (Jvm.Cond.code ({ cls := "java/lang/Object", name := "<init>", desc := "()V" } : Jvm.MethodName) object_method_1_code (1 : Nat) (Option.none : Option Jvm.ClassFile.FieldType)).before args0 about1 = true := code_word (m := ⟨0, 0⟩) (meth := k0m0) (c := k0c0) (by decide +kernel) rfl rfl rfl (by decide +kernel)
set_option maxRecDepth 65536 in
theorem w_c4 : (Jvm.Cond.code ({ cls := "java/lang/StringUTF16", name := "compress", desc := "([CII)[B" } : Jvm.MethodName) jdk_52_method_16_code (6 : Nat) (Option.some (Jvm.ClassFile.FieldType.array Jvm.ClassFile.FieldType.byte))).before args0 about1 = true := code_word (m := ⟨8, 7⟩) (meth := k8m7) (c := k8c7) (by decide +kernel) rfl rfl rfl (by decide +kernel)
set_option maxRecDepth 65536 in
theorem w_c5 : (Jvm.Cond.code ({ cls := "java/lang/StringUTF16", name := "compress", desc := "([CI[BII)I" } : Jvm.MethodName) jdk_52_method_21_code (7 : Nat) (Option.some Jvm.ClassFile.FieldType.int)).before args0 about1 = true := code_word (m := ⟨8, 8⟩) (meth := k8m8) (c := k8c8) (by decide +kernel) rfl rfl rfl (by decide +kernel)
set_option maxRecDepth 65536 in
theorem w_c6 : (Jvm.Cond.code ({ cls := "java/lang/StringUTF16", name := "coderFromArrayLen", desc := "([BI)B" } : Jvm.MethodName) jdk_52_method_15_code (2 : Nat) (Option.some Jvm.ClassFile.FieldType.byte)).before args0 about1 = true := code_word (m := ⟨8, 6⟩) (meth := k8m6) (c := k8c6) (by decide +kernel) rfl rfl rfl (by decide +kernel)
set_option maxRecDepth 65536 in
theorem w_c7 : (Jvm.Cond.code ({ cls := "com/example/atomic_bracket/atomicbracket/Bracket", name := "checkedName", desc := "(Ljava/lang/String;)Ljava/lang/String;" } : Jvm.MethodName) prog_1_method_4_code (1 : Nat) (Option.some (Jvm.ClassFile.FieldType.object "java/lang/String"))).before args0 about1 = true := code_word (m := ⟨9, 0⟩) (meth := k9m0) (c := k9c0) (by decide +kernel) rfl rfl rfl (by decide +kernel)
set_option maxRecDepth 65536 in
theorem w_c8 : (Jvm.Cond.code ({ cls := "java/util/Objects", name := "requireNonNull", desc := "(Ljava/lang/Object;Ljava/lang/String;)Ljava/lang/Object;" } : Jvm.MethodName) jdk_31_method_11_code (2 : Nat) (Option.some (Jvm.ClassFile.FieldType.object "java/lang/Object"))).before args0 about1 = true := code_word (m := ⟨10, 1⟩) (meth := k10m1) (c := k10c1) (by decide +kernel) rfl rfl rfl (by decide +kernel)
set_option maxRecDepth 65536 in
theorem w_c9 : (Jvm.Cond.code ({ cls := "java/lang/String", name := "isEmpty", desc := "()Z" } : Jvm.MethodName) jdk_42_method_55_code (1 : Nat) (Option.some Jvm.ClassFile.FieldType.boolean)).before args0 about1 = true := code_word (m := ⟨7, 2⟩) (meth := k7m2) (c := k7c2) (by decide +kernel) rfl rfl rfl (by decide +kernel)
set_option maxRecDepth 65536 in
theorem w_c10 : (Jvm.Cond.code ({ cls := "java/lang/StringUTF16", name := "toBytes", desc := "([CII)[B" } : Jvm.MethodName) jdk_52_method_14_code (5 : Nat) (Option.some (Jvm.ClassFile.FieldType.array Jvm.ClassFile.FieldType.byte))).before args0 about1 = true := code_word (m := ⟨8, 5⟩) (meth := k8m5) (c := k8c5) (by decide +kernel) rfl rfl rfl (by decide +kernel)
set_option maxRecDepth 65536 in
theorem w_c11 : (Jvm.Cond.code ({ cls := "java/lang/StringUTF16", name := "newBytesFor", desc := "(I)[B" } : Jvm.MethodName) jdk_52_method_2_code (1 : Nat) (Option.some (Jvm.ClassFile.FieldType.array Jvm.ClassFile.FieldType.byte))).before args0 about1 = true := code_word (m := ⟨8, 1⟩) (meth := k8m1) (c := k8c1) (by decide +kernel) rfl rfl rfl (by decide +kernel)
set_option maxRecDepth 65536 in
theorem w_c12 : (Jvm.Cond.code ({ cls := "java/lang/StringUTF16", name := "newBytesLength", desc := "(I)I" } : Jvm.MethodName) jdk_52_method_3_code (1 : Nat) (Option.some Jvm.ClassFile.FieldType.int)).before args0 about1 = true := code_word (m := ⟨8, 2⟩) (meth := k8m2) (c := k8c2) (by decide +kernel) rfl rfl rfl (by decide +kernel)
set_option maxRecDepth 65536 in
theorem w_c13 : (Jvm.Cond.code ({ cls := "java/lang/StringUTF16", name := "putChar", desc := "([BII)V" } : Jvm.MethodName) jdk_52_method_4_code (3 : Nat) (Option.none : Option Jvm.ClassFile.FieldType)).before args0 about1 = true := code_word (m := ⟨8, 3⟩) (meth := k8m3) (c := k8c3) (by decide +kernel) rfl rfl rfl (by decide +kernel)
set_option maxRecDepth 65536 in
theorem w_c14 : (Jvm.Cond.code ({ cls := "java/lang/StringUTF16", name := "getChar", desc := "([BI)C" } : Jvm.MethodName) jdk_52_method_5_code (2 : Nat) (Option.some Jvm.ClassFile.FieldType.char)).before args0 about1 = true := code_word (m := ⟨8, 4⟩) (meth := k8m4) (c := k8c4) (by decide +kernel) rfl rfl rfl (by decide +kernel)
def codes1 : List Jvm.Cond := [Jvm.Cond.code x code maxLocals ret, Jvm.Cond.code ({ cls := "java/lang/String", name := "<init>", desc := "([C)V" } : Jvm.MethodName) jdk_42_method_3_code (2 : Nat) (Option.none : Option Jvm.ClassFile.FieldType), Jvm.Cond.code ({ cls := "java/lang/String", name := "<init>", desc := "([CIILjava/lang/Void;)V" } : Jvm.MethodName) jdk_42_method_149_code (6 : Nat) (Option.none : Option Jvm.ClassFile.FieldType), Jvm.Cond.code ({ cls := "java/lang/Object", name := "<init>", desc := "()V" } : Jvm.MethodName) object_method_1_code (1 : Nat) (Option.none : Option Jvm.ClassFile.FieldType), Jvm.Cond.code ({ cls := "java/lang/StringUTF16", name := "compress", desc := "([CII)[B" } : Jvm.MethodName) jdk_52_method_16_code (6 : Nat) (Option.some (Jvm.ClassFile.FieldType.array Jvm.ClassFile.FieldType.byte)), Jvm.Cond.code ({ cls := "java/lang/StringUTF16", name := "compress", desc := "([CI[BII)I" } : Jvm.MethodName) jdk_52_method_21_code (7 : Nat) (Option.some Jvm.ClassFile.FieldType.int), Jvm.Cond.code ({ cls := "java/lang/StringUTF16", name := "coderFromArrayLen", desc := "([BI)B" } : Jvm.MethodName) jdk_52_method_15_code (2 : Nat) (Option.some Jvm.ClassFile.FieldType.byte), Jvm.Cond.code ({ cls := "com/example/atomic_bracket/atomicbracket/Bracket", name := "checkedName", desc := "(Ljava/lang/String;)Ljava/lang/String;" } : Jvm.MethodName) prog_1_method_4_code (1 : Nat) (Option.some (Jvm.ClassFile.FieldType.object "java/lang/String")), Jvm.Cond.code ({ cls := "java/util/Objects", name := "requireNonNull", desc := "(Ljava/lang/Object;Ljava/lang/String;)Ljava/lang/Object;" } : Jvm.MethodName) jdk_31_method_11_code (2 : Nat) (Option.some (Jvm.ClassFile.FieldType.object "java/lang/Object")), Jvm.Cond.code ({ cls := "java/lang/String", name := "isEmpty", desc := "()Z" } : Jvm.MethodName) jdk_42_method_55_code (1 : Nat) (Option.some Jvm.ClassFile.FieldType.boolean), Jvm.Cond.code ({ cls := "java/lang/StringUTF16", name := "toBytes", desc := "([CII)[B" } : Jvm.MethodName) jdk_52_method_14_code (5 : Nat) (Option.some (Jvm.ClassFile.FieldType.array Jvm.ClassFile.FieldType.byte)), Jvm.Cond.code ({ cls := "java/lang/StringUTF16", name := "newBytesFor", desc := "(I)[B" } : Jvm.MethodName) jdk_52_method_2_code (1 : Nat) (Option.some (Jvm.ClassFile.FieldType.array Jvm.ClassFile.FieldType.byte)), Jvm.Cond.code ({ cls := "java/lang/StringUTF16", name := "newBytesLength", desc := "(I)I" } : Jvm.MethodName) jdk_52_method_3_code (1 : Nat) (Option.some Jvm.ClassFile.FieldType.int), Jvm.Cond.code ({ cls := "java/lang/StringUTF16", name := "putChar", desc := "([BII)V" } : Jvm.MethodName) jdk_52_method_4_code (3 : Nat) (Option.none : Option Jvm.ClassFile.FieldType), Jvm.Cond.code ({ cls := "java/lang/StringUTF16", name := "getChar", desc := "([BI)C" } : Jvm.MethodName) jdk_52_method_5_code (2 : Nat) (Option.some Jvm.ClassFile.FieldType.char)]
set_option maxRecDepth 65536 in
theorem codes_eq : words1.filter isCode = codes1 := rfl
theorem w_codes : ∀ c ∈ words1.filter isCode, c.before args0 about1 = true := by
  rw [codes_eq]
  intro c hc
  simp only [codes1, List.mem_cons, List.not_mem_nil, or_false] at hc
  rcases hc with rfl | rfl | rfl | rfl | rfl | rfl | rfl | rfl | rfl | rfl | rfl | rfl | rfl | rfl | rfl
  · exact w_c0
  · exact w_c1
  · exact w_c2
  · exact w_c3
  · exact w_c4
  · exact w_c5
  · exact w_c6
  · exact w_c7
  · exact w_c8
  · exact w_c9
  · exact w_c10
  · exact w_c11
  · exact w_c12
  · exact w_c13
  · exact w_c14
set_option maxRecDepth 65536 in
theorem w_t1 : (words1.take 24).all (fun c => isCode c || c.before args0 about1) = true := by decide +kernel
set_option maxRecDepth 65536 in
theorem w_t2 : ((words1.drop 24).take 24).all (fun c => isCode c || c.before args0 about1) = true := by decide +kernel
set_option maxRecDepth 65536 in
theorem w_t3 : ((words1.drop 24).drop 24).all (fun c => isCode c || c.before args0 about1) = true := by decide +kernel
theorem w_tables : (allAtoms (Jvm.Cond.code x code maxLocals ret :: tables_1)).before args0 about1 = true := by
  rw [allAtoms_all]
  show words1.all (fun c => c.before args0 about1) = true
  refine all_split ?_ w_codes
  rw [← List.take_append_drop 24 words1, List.all_append, w_t1, ← List.take_append_drop 24 (words1.drop 24), List.all_append, w_t2, w_t3]
  rfl
set_option maxRecDepth 65536 in
theorem w_rest : rest_1_c.before args0 about1 = true := by decide +kernel
set_option maxRecDepth 65536 in
theorem w_case : (Jvm.Cond.and given_1 narrow_1).before args0 about1 = true := by decide +kernel
theorem w_applies : (headSpec (Jvm.Cond.code x code maxLocals ret :: tables_1) room_1).applies x e0.platform about1 = true :=
  (Spec.applies_iff w_frames).mpr ⟨w_running, w_runnable, w_alone, w_named, w_hears, w_ripe, w_room, w_tables⟩
theorem atStart : AtStart classFile x code maxLocals ret World_1 tables_1 room_1 Calls_1 rest_1 Pre_1 launch0 p0 e0 about1 theMethod args0 below0 :=
  ⟨lists_1, trivial, launch0.admits_env _ _ _, launch0.least_env, fairChoices_fair.cas, fairChoices_fair.clock, w_frames, w_args, w_heap, w_applies, trivial, w_rest, w_case⟩
end start1
theorem witness_1 : WitnessClaimed_1 := ⟨start1.p0, start1.e0, start1.about1, start1.theMethod, start1.args0, start1.below0, start1.atStart⟩
end Jvm.Pilot.@@N@@
