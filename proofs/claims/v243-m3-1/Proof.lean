import JvmDerived
import JvmDerived.Pilot.@@N@@Statement
import JvmDerived.Pilot.@@N@@Code
set_option linter.unusedVariables false
set_option linter.unusedSimpArgs false
namespace Jvm.RoadKit
open Sem ClassFile Op Lib Jvm.Stand Jvm.Free Jvm.LawKit
section New
variable {p : Program} {l : Launch} {e : Env} {R : Room} {s : State} {m : MethodId} {args : Array Value} {below : List Frame} {meth : Method} {c : Code} {T : State} {locs : List Loc} {cells slots : Nat}
theorem retI (X : Stand p l e R s m args below meth c T locs cells slots) (hx : p.tables.exec = Jvm.exec) {pc : Nat} {Ls : Array Slot} {z : Int32} {rest : List Value} (hret : meth.sig.returnType = some .int) (hd : decode c.code pc = .ok (.ireturn, 1)) {fs : List Frame}
    (hl : ∀ (f : JFrame) (acts : List Action), f.method = m → f.locked = none → f.entered = [] → (doReturn e (T.setTop f) acts (some (.int z))).1 = T.setFrames fs) : Steps p.tables e below (T.setTop (mkF m pc Ls (.int z :: rest))) (T.setFrames fs) := by
  have hm' : T.vm.method? m = some meth := X.method'
  have hn : narrow .int (.int z) = .int z := rfl
  show Steps p.tables e below (T.setTop { method := m, pc := pc, locals := Ls, stack := _ :: rest, locked := none }) _
  jvm_step X.here [X.here.top, hx, hd, hm', hret, hn]
  first | (intro acts; rw [hl _ acts rfl rfl rfl]) | rw [hl _ _ rfl rfl rfl]
  exact Steps.refl _
end New
end Jvm.RoadKit
namespace Jvm.Pilot.@@N@@
open Jvm Jvm.ClassFile Sem Op Lib Jvm.Free Jvm.Stand Jvm.LawKit Jvm.RoadKit Bundle Jvm.Pilot.@@N@@.Jvm.D
section OwnKit
variable {tb : Tables} {p : Program} {l : Launch} {e : Env} {R : Room} {s : State} {m : MethodId} {args : Array Value} {below : List Frame} {meth : Method} {c : Code} {T : State} {locs : List Loc} {cells slots : Nat} {Z : State} {a0 : Array Value} {F : State → Prop} {S S' : State}
/-- from S the run comes to a state of which F holds -/
def own_G (tb : Tables) (e : Env) (below : List Frame) (F : State → Prop) (S : State) : Prop := ∃ t, Steps tb e below S t ∧ F t
theorem own_st (st : ∀ t, Steps tb e below S' t → Steps tb e below S t) (k : own_G tb e below F S') : own_G tb e below F S := by
  obtain ⟨t, h1, h2⟩ := k
  exact ⟨t, st t h1, h2⟩
theorem own_tr (st : Steps tb e below S S') (k : own_G tb e below F S') : own_G tb e below F S := by
  obtain ⟨t, h1, h2⟩ := k
  exact ⟨t, st.trans h1, h2⟩
/-- the end of a body: it has returned v, Q holds, the frame is kept -/
def own_F (s : State) (below : List Frame) (Q : Option Value → Heap → List Loc → Prop) (k n : Nat) (t : State) : Prop := ∃ o, t.status = .running ∧ Ended t below o ∧ ∃ v L, o = .returned v ∧ Q v t.heap L ∧ FrameEnd s o t L k n
/-- a contract -/
def own_Met (l : Launch) (Z : State) (y : MethodName) (bytes : ByteArray) (maxL : Nat) (ret : Option FieldType) (ws : List Cond) (rm : Room) (as : Array Value) (h : Heap) (Q : Option Value → Heap → List Loc → Prop) (k n : Nat) : Prop :=
  MetFree l y (head1 (Jvm.Cond.code y bytes maxL ret :: ws) rm) (fun a U => a = as ∧ Z.Warmed39 U.vm ∧ U.heap = h) (fun _ _ _ _ _ => True) (fun _ U o U' => ∃ v L, o = .returned v ∧ Q v U'.heap L ∧ FrameEnd U o U' L k n)
theorem own_body {y : MethodName} {bytes : ByteArray} {maxL : Nat} {ret : Option FieldType} {ws : List Jvm.Cond} {rm : Room} {as : Array Value} {h : Heap} {Q : Option Value → Heap → List Loc → Prop} {k n : Nat} {ef : MethodId → JFrame} (hp : plainFor y = true) (hef : ∀ m, entryFrame m as maxL = ef m)
    (body : ∀ (p : Program) (e : Env) (s : State) (m : MethodId) (below : List Frame) (meth : Method) (c : Code) (T0 : State), p.tables.exec = Jvm.exec → Z.Warmed39 s.vm → c.code = bytes → c.maxLocals = maxL → s.vm.findClass y.cls = some m.cls → meth.name = y.name → meth.sig.returnType = ret → meth.locks = false →
      Stand p l e rm s m as below meth c T0 [] 0 0 → T0.heap = h → own_G p.tables e below (own_F s below Q k n) (T0.setTop (ef m))) : own_Met l Z y bytes maxL ret ws rm as h Q k n := by
  refine MetFree.of_bodySF hp hisR ?_
  intro p e s m args below meth c s₁ Bd hml0 hP hK
  obtain ⟨rfl, hZ, hh⟩ := hP
  have e0 : s₁.heap = h := by rw [← hh, Bd.state]; rfl
  obtain ⟨t, h1, o, h2, h3, v, L, h4, h5, h6⟩ := body p e s m below meth c s₁ Bd.exec hZ Bd.bytes hml0 (findClass_of_methodNamed Bd.named) (name_of_methodNamed Bd.named Bd.method).1 Bd.returns Bd.notSynchronized (Stand.of_body Bd) e0
  exact ⟨t, o, castTop (hef m) h1, h2, h3, v, L, h4, h5, h6⟩
theorem own_back {y : MethodName} {bytes : ByteArray} {maxL : Nat} {ret : Option FieldType} {rm : Room} {len W : Nat} {as' : Array Value} {h : Heap} {Q : Option Value → Heap → List Loc → Prop} (hM : own_Met l Z y bytes maxL ret [] rm as' h Q rm.cells rm.slots)
    (hZ : Z.Warmed39 s.vm) (wc : (Jvm.Cond.code y bytes maxL ret).before a0 Z = true) (wz : (Jvm.Cond.initialized y.cls).before a0 Z = true) (hf : rm.frames + 1 ≤ R.frames) (hl : W + (maxL + 11) + rm.locals ≤ R.locals) :
    Back l R p e below s args y len W (fun A a => a = as' ∧ A.U.heap = h ∧ A.cells + rm.cells ≤ R.cells ∧ A.slots + rm.slots ≤ R.slots) (fun A _ v B => ∃ L, Q v B.U.heap L ∧ B.locs = A.locs ++ L ∧ B.cells = A.cells + rm.cells ∧ B.slots = A.slots + rm.slots) := backOf (Q := Q) hM hZ wc wz hf hl
theorem own_end {Q : Option Value → Heap → List Loc → Prop} {k n : Nat} {v : Option Value} (X : Stand p l e R s m args below meth c T locs cells slots) (hlk : meth.locks = false) (hv : meth.sig.returnType = none → v = none) (hQ : Q v T.heap locs) (hk : cells ≤ k) (hn : slots ≤ n)
    (h : ∀ fs, (∀ (f : JFrame) (acts : List Action), f.method = m → f.locked = none → f.entered = [] → (doReturn e (T.setTop f) acts v).1 = T.setFrames fs) → Steps p.tables e below S (T.setFrames fs)) : own_G p.tables e below (own_F s below Q k n) S := by
  obtain ⟨fs, hr, hrun, hended, hW, hsame⟩ := X.leave (v := v) hv hlk
  exact ⟨_, h fs hr, _, hrun, hended, v, locs, rfl, hQ, ⟨_, rfl⟩, hW, hsame.mono hk hn⟩
theorem own_retI {Q : Option Value → Heap → List Loc → Prop} {k n : Nat} {pc : Nat} {Ls : Array Slot} {z : Int32} {rest : List Value} (X : Stand p l e R s m args below meth c T locs cells slots) (hx : p.tables.exec = Jvm.exec) (hret : meth.sig.returnType = some .int) (hlk : meth.locks = false) (hd : decode c.code pc = .ok (.ireturn, 1)) (hQ : Q (some (.int z)) T.heap locs) (hk : cells ≤ k) (hn : slots ≤ n) :
    own_G p.tables e below (own_F s below Q k n) (T.setTop (mkF m pc Ls (.int z :: rest))) :=
  own_end X hlk (fun h => by rw [hret] at h; cases h) hQ hk hn fun fs hr => retI X hx hret hd hr
theorem own_retN {Q : Option Value → Heap → List Loc → Prop} {k n : Nat} {pc : Nat} {Ls : Array Slot} {z : Int32} {t : FieldType} {rest : List Value} (X : Stand p l e R s m args below meth c T locs cells slots) (hx : p.tables.exec = Jvm.exec) (hret : meth.sig.returnType = some t) (hlk : meth.locks = false) (ht : t = .boolean ∨ t = .byte ∨ t = .char ∨ t = .short) (hd : decode c.code pc = .ok (.ireturn, 1)) (hQ : Q (some (.int (nar t z))) T.heap locs) (hk : cells ≤ k) (hn : slots ≤ n) :
    own_G p.tables e below (own_F s below Q k n) (T.setTop (mkF m pc Ls (.int z :: rest))) :=
  own_end X hlk (fun h => by rw [hret] at h; cases h) hQ hk hn fun fs hr => retN X hx hret ht hd hr
theorem own_retA {Q : Option Value → Heap → List Loc → Prop} {k n : Nat} {pc : Nat} {Ls : Array Slot} {w : Value} {t : FieldType} {rest : List Value} (X : Stand p l e R s m args below meth c T locs cells slots) (hx : p.tables.exec = Jvm.exec) (hret : meth.sig.returnType = some t) (ht : t.isReference = true) (hw : w.isRef = true) (hlk : meth.locks = false) (hd : decode c.code pc = .ok (.areturn, 1)) (hQ : Q (some w) T.heap locs) (hk : cells ≤ k) (hn : slots ≤ n) :
    own_G p.tables e below (own_F s below Q k n) (T.setTop (mkF m pc Ls (w :: rest))) :=
  own_end X hlk (fun h => by rw [hret] at h; cases h) hQ hk hn fun fs hr => by
    jvm_step X.here [X.here.top, hx, hd, X.method', hret, hw, ht]
    first | (intro acts; rw [hr _ acts rfl rfl rfl]) | rw [hr _ _ rfl rfl rfl]
    exact Steps.refl _
theorem own_retJ {Q : Option Value → Heap → List Loc → Prop} {k n : Nat} {pc : Nat} {Ls : Array Slot} {z : Int64} {rest : List Value} (X : Stand p l e R s m args below meth c T locs cells slots) (hx : p.tables.exec = Jvm.exec) (hret : meth.sig.returnType = some .long) (hlk : meth.locks = false) (hd : decode c.code pc = .ok (.lreturn, 1)) (hQ : Q (some (.long z)) T.heap locs) (hk : cells ≤ k) (hn : slots ≤ n) :
    own_G p.tables e below (own_F s below Q k n) (T.setTop (mkF m pc Ls (.long z :: rest))) :=
  own_end X hlk (fun h => by rw [hret] at h; cases h) hQ hk hn fun fs hr => by
    jvm_step X.here [X.here.top, hx, hd, X.method', hret, narrow]
    first | (intro acts; rw [hr _ acts rfl rfl rfl]) | rw [hr _ _ rfl rfl rfl]
    exact Steps.refl _
theorem own_ret0 {Q : Option Value → Heap → List Loc → Prop} {k n : Nat} {pc : Nat} {Ls : Array Slot} (X : Stand p l e R s m args below meth c T locs cells slots) (hx : p.tables.exec = Jvm.exec) (hret : meth.sig.returnType = none) (hlk : meth.locks = false) (hd : decode c.code pc = .ok (.return_, 1)) (hQ : Q none T.heap locs) (hk : cells ≤ k) (hn : slots ≤ n) :
    own_G p.tables e below (own_F s below Q k n) (T.setTop (mkF m pc Ls [])) :=
  own_end X hlk (fun _ => rfl) hQ hk hn fun fs hr => X.returnOut hx hret hd hr
theorem own_ltN {a b : Nat} (h : @LT.lt Addr instLTNat a b) : @LT.lt Nat instLTNat a b := h
theorem own_nat {n : Nat} (hn : n < 2147483648) : (Int32.ofNat n).toInt = (n : Int) := Int32.toInt_ofNat_of_lt hn
theorem own_clamp {n : Nat} (hn : n < 2147483648) : (Int32.ofNat n).toNatClampNeg = n := by
  rw [Int32.toNatClampNeg, own_nat hn]; rfl
theorem own_lt {i n : Nat} (h : i < n) (hn : n < 2147483648) : Int32.ofNat i < Int32.ofNat n := by
  rw [Int32.lt_iff_toInt_lt, own_nat (by omega), own_nat hn]; omega
theorem own_nn {n : Nat} (hn : n < 2147483648) : ¬ Int32.ofNat n < 0 := by
  rw [Int32.lt_iff_toInt_lt, own_nat hn, show (0 : Int32).toInt = 0 from rfl]; omega
theorem own_one (i : Nat) : Int32.ofNat i + (1 : Int32) = Int32.ofNat (i + 1) := (Int32.ofNat_add i 1).symm
theorem own_in {i n : Nat} {cl : Cell} (hs : cl.slots.size = (Int32.ofNat n).toNatClampNeg) (h : i < n) (hn : n < 2147483648) : ¬ (Int32.ofNat i < 0 ∨ cl.slots.size ≤ (Int32.ofNat i).toNatClampNeg) := by
  rw [hs, own_clamp hn, own_clamp (by omega)]
  exact fun q => q.elim (own_nn (by omega)) (fun q => by omega)
/-- the list f 0, f 1, .. : i of them -/
def own_vals (f : Nat → Int32) (i : Nat) : List Value := (List.range i).map fun j => .int (f j)
theorem own_len (f : Nat → Int32) (i : Nat) : (own_vals f i).length = i := by simp [own_vals]
theorem own_next (f : Nat → Int32) (i : Nat) : own_vals f i ++ [.int (f i)] = own_vals f (i + 1) := by simp [own_vals, List.range_succ]
theorem own_at (f : Nat → Int32) {i j : Nat} (h : j < i) (d : Value) : (own_vals f i).getD j d = .int (f j) := by simp [own_vals, List.getD_eq_getElem?_getD, h]
theorem own_set (vs : List Value) (x v : Value) : (vs ++ [x]).set vs.length v = vs ++ [v] := by simp
/-- .. where a String constant may have been interned -/
def own_FW (s : State) (below : List Frame) (Q : Option Value → Heap → List Loc → Prop) (k n : Nat) (t : State) : Prop := ∃ o, t.status = .running ∧ Ended t below o ∧ ∃ v L, o = .returned v ∧ Q v t.heap L ∧ ReturnedEndW s o t L k n
def own_MetW (l : Launch) (Z : State) (y : MethodName) (bytes : ByteArray) (maxL : Nat) (ret : Option FieldType) (ws : List Cond) (rm : Room) (as : Array Value) (h : Heap) (Q : Option Value → Heap → List Loc → Prop) (k n : Nat) : Prop :=
  MetFree l y (head1 (Jvm.Cond.code y bytes maxL ret :: ws) rm) (fun a U => a = as ∧ Z.Warmed39 U.vm ∧ U.heap = h) (fun _ _ _ _ _ => True) (fun _ U o U' => ∃ v L, o = .returned v ∧ Q v U'.heap L ∧ ReturnedEndW U o U' L k n)
theorem own_bodyW {y : MethodName} {bytes : ByteArray} {maxL : Nat} {ret : Option FieldType} {ws : List Jvm.Cond} {rm : Room} {as : Array Value} {h : Heap} {Q : Option Value → Heap → List Loc → Prop} {k n : Nat} {ef : MethodId → JFrame} (hp : plainFor y = true) (hef : ∀ m, entryFrame m as maxL = ef m)
    (body : ∀ (p : Program) (e : Env) (s : State) (m : MethodId) (below : List Frame) (meth : Method) (c : Code) (T0 : State), p.tables.exec = Jvm.exec → Z.Warmed39 s.vm → c.code = bytes → c.maxLocals = maxL → s.vm.findClass y.cls = some m.cls → meth.name = y.name → meth.sig.returnType = ret → meth.locks = false →
      Stand p l e rm s m as below meth c T0 [] 0 0 → T0.heap = h → s.Since s.vm 0 → own_G p.tables e below (own_FW s below Q k n) (T0.setTop (ef m))) : own_MetW l Z y bytes maxL ret ws rm as h Q k n := by
  refine MetFree.of_bodySF hp hisR ?_
  intro p e s m args below meth c s₁ Bd hml0 hP hK
  obtain ⟨rfl, hZ, hh⟩ := hP
  have e0 : s₁.heap = h := by rw [← hh, Bd.state]; rfl
  obtain ⟨t, h1, o, h2, h3, v, L, h4, h5, h6⟩ := body p e s m below meth c s₁ Bd.exec hZ Bd.bytes hml0 (findClass_of_methodNamed Bd.named) (name_of_methodNamed Bd.named Bd.method).1 Bd.returns Bd.notSynchronized (Stand.of_body Bd) e0 ((State.WarmedH.refl s).since 0)
  exact ⟨t, o, castTop (hef m) h1, h2, h3, v, L, h4, h5, h6⟩
theorem own_backS {y : MethodName} {bytes : ByteArray} {maxL : Nat} {ret : Option FieldType} {rm : Room} {len W : Nat} {as' : Array Value} {h : Heap} {Q : Option Value → Heap → List Loc → Prop} (hM : own_MetW l Z y bytes maxL ret [] rm as' h Q rm.cells rm.slots)
    (hZ : Z.Warmed39 s.vm) (wc : (Jvm.Cond.code y bytes maxL ret).before a0 Z = true) (wz : (Jvm.Cond.initialized y.cls).before a0 Z = true) (hf : rm.frames + 1 ≤ R.frames) (hl : W + (maxL + 11) + rm.locals ≤ R.locals) :
    BackS l R p e below s args y len W (fun A a => a = as' ∧ A.U.heap = h ∧ A.cells + rm.cells ≤ R.cells ∧ A.slots + rm.slots ≤ R.slots) (fun A _ v B => ∃ L, Q v B.U.heap L ∧ B.locs = A.locs ++ L ∧ B.cells = A.cells + rm.cells ∧ B.slots = A.slots + rm.slots) := backOfS (Q := Q) hM hZ wc wz hf hl
theorem own_endW {Q : Option Value → Heap → List Loc → Prop} {k n n1 : Nat} {v : Option Value} {vm1 : Vm} (X : Stand p l e R (s.setVm vm1) m args below meth c T locs cells slots) (hS : s.Since vm1 n1) (hSn : n1 ≤ T.heap.size) (hlk : meth.locks = false) (hv : meth.sig.returnType = none → v = none) (hQ : Q v T.heap locs) (hk : cells ≤ k) (hn : slots ≤ n)
    (h : ∀ fs, (∀ (f : JFrame) (acts : List Action), f.method = m → f.locked = none → f.entered = [] → (doReturn e (T.setTop f) acts v).1 = T.setFrames fs) → Steps p.tables e below S (T.setFrames fs)) : own_G p.tables e below (own_FW s below Q k n) S := by
  obtain ⟨fs, hr, hrun, hended, hW⟩ := X.leaveW hS hSn (v := v) hv hlk
  exact ⟨_, h fs hr, _, hrun, hended, v, locs, rfl, hQ, hW.1, hW.2.1, hW.2.2.1, hW.2.2.2.mono hk hn⟩
theorem own_retIW {Q : Option Value → Heap → List Loc → Prop} {k n n1 : Nat} {pc : Nat} {Ls : Array Slot} {z : Int32} {rest : List Value} {vm1 : Vm} (X : Stand p l e R (s.setVm vm1) m args below meth c T locs cells slots) (hS : s.Since vm1 n1) (hSn : n1 ≤ T.heap.size) (hx : p.tables.exec = Jvm.exec) (hret : meth.sig.returnType = some .int) (hlk : meth.locks = false) (hd : decode c.code pc = .ok (.ireturn, 1)) (hQ : Q (some (.int z)) T.heap locs) (hk : cells ≤ k) (hn : slots ≤ n) :
    own_G p.tables e below (own_FW s below Q k n) (T.setTop (mkF m pc Ls (.int z :: rest))) :=
  own_endW X hS hSn hlk (fun h => by rw [hret] at h; cases h) hQ hk hn fun fs hr => retI X hx hret hd hr
theorem own_retNW {Q : Option Value → Heap → List Loc → Prop} {k n n1 : Nat} {pc : Nat} {Ls : Array Slot} {z : Int32} {t : FieldType} {rest : List Value} {vm1 : Vm} (X : Stand p l e R (s.setVm vm1) m args below meth c T locs cells slots) (hS : s.Since vm1 n1) (hSn : n1 ≤ T.heap.size) (hx : p.tables.exec = Jvm.exec) (hret : meth.sig.returnType = some t) (hlk : meth.locks = false) (ht : t = .boolean ∨ t = .byte ∨ t = .char ∨ t = .short) (hd : decode c.code pc = .ok (.ireturn, 1)) (hQ : Q (some (.int (nar t z))) T.heap locs) (hk : cells ≤ k) (hn : slots ≤ n) :
    own_G p.tables e below (own_FW s below Q k n) (T.setTop (mkF m pc Ls (.int z :: rest))) :=
  own_endW X hS hSn hlk (fun h => by rw [hret] at h; cases h) hQ hk hn fun fs hr => retN X hx hret ht hd hr
theorem own_retAW {Q : Option Value → Heap → List Loc → Prop} {k n n1 : Nat} {pc : Nat} {Ls : Array Slot} {w : Value} {t : FieldType} {rest : List Value} {vm1 : Vm} (X : Stand p l e R (s.setVm vm1) m args below meth c T locs cells slots) (hS : s.Since vm1 n1) (hSn : n1 ≤ T.heap.size) (hx : p.tables.exec = Jvm.exec) (hret : meth.sig.returnType = some t) (ht : t.isReference = true) (hw : w.isRef = true) (hlk : meth.locks = false) (hd : decode c.code pc = .ok (.areturn, 1)) (hQ : Q (some w) T.heap locs) (hk : cells ≤ k) (hn : slots ≤ n) :
    own_G p.tables e below (own_FW s below Q k n) (T.setTop (mkF m pc Ls (w :: rest))) :=
  own_endW X hS hSn hlk (fun h => by rw [hret] at h; cases h) hQ hk hn fun fs hr => by
    jvm_step X.here [X.here.top, hx, hd, X.method', hret, hw, ht]
    first | (intro acts; rw [hr _ acts rfl rfl rfl]) | rw [hr _ _ rfl rfl rfl]
    exact Steps.refl _
theorem own_ret0W {Q : Option Value → Heap → List Loc → Prop} {k n n1 : Nat} {pc : Nat} {Ls : Array Slot} {vm1 : Vm} (X : Stand p l e R (s.setVm vm1) m args below meth c T locs cells slots) (hS : s.Since vm1 n1) (hSn : n1 ≤ T.heap.size) (hx : p.tables.exec = Jvm.exec) (hret : meth.sig.returnType = none) (hlk : meth.locks = false) (hd : decode c.code pc = .ok (.return_, 1)) (hQ : Q none T.heap locs) (hk : cells ≤ k) (hn : slots ≤ n) :
    own_G p.tables e below (own_FW s below Q k n) (T.setTop (mkF m pc Ls [])) :=
  own_endW X hS hSn hlk (fun _ => rfl) hQ hk hn fun fs hr => X.returnOut hx hret hd hr
theorem own_eqI {args : Array Value} {first s : State} {o : Option Outcome} {idx : List Nat} {t : Term} {k : Int32} (h : (Jvm.Cond.eq t (.int k)).value args first o s idx = some true) : t.eval args first o idx s = some (.int k) := by
  obtain ⟨x, y, h1, h2, h3, -⟩ := cmp_v (Or.inl h)
  have h4 : y = .int k := (Option.some.inj (h2.symm.trans (Term.int_eval k)))
  subst h4
  cases x with
  | int x => rw [h1]; exact congrArg (fun z => some (Value.int z)) (gotT (Cond.eq_ints h1 h2) h)
  | _ => simp [Kin, Value.isRef] at h3
end OwnKit

/-- a prime -/
def own_pr (p : Nat) : Prop := 2 ≤ p ∧ ∀ x, x ∣ p → x = 1 ∨ x = p
theorem own_eu {d a b : Nat} (hd : own_pr d) (h : d ∣ a * b) : d ∣ a ∨ d ∣ b := by
  rcases hd.2 (Nat.gcd d a) (Nat.gcd_dvd_left d a) with h1 | h1
  · exact Or.inr (Nat.Coprime.dvd_of_dvd_mul_left h1 h)
  · exact Or.inl (by rw [← h1]; exact Nat.gcd_dvd_right d a)
theorem own_eu_pow {d p : Nat} (hd : own_pr d) (hp : own_pr p) : ∀ e : Nat, d ∣ p ^ e → d = p := by
  intro e
  induction e with
  | zero =>
    intro h
    rw [Nat.pow_zero] at h
    have h1 := Nat.le_of_dvd (by decide) h
    have h2 := hd.1
    omega
  | succ e ih =>
    intro h
    rw [Nat.pow_succ] at h
    rcases own_eu hd h with q | q
    · exact ih q
    · rcases hp.2 d q with r | r
      · have := hd.1; omega
      · exact r
/-- the number that a list of primes and exponents spells -/
def own_prod : List (Nat × Nat) → Nat
  | [] => 1
  | q :: r => q.1 ^ q.2 * own_prod r
/-- primes, ascending from b on, exponents from 1 -/
def own_asc : Nat → List (Nat × Nat) → Prop
  | _, [] => True
  | b, q :: r => b < q.1 ∧ own_pr q.1 ∧ 0 < q.2 ∧ own_asc q.1 r
theorem own_asc_mono {a b : Nat} (h : a ≤ b) : ∀ L, own_asc b L → own_asc a L
  | [], _ => trivial
  | _ :: _, q => ⟨Nat.lt_of_le_of_lt h q.1, q.2⟩
theorem own_inL {d : Nat} (hd : own_pr d) : ∀ (L : List (Nat × Nat)) (b : Nat), own_asc b L → d ∣ own_prod L → b < d ∧ L ≠ []
  | [], b, _, h => by
    have h1 := Nat.le_of_dvd (by decide) (show d ∣ 1 from h)
    have h2 := hd.1
    omega
  | q :: r, b, ha, h => by
    refine ⟨?_, by simp⟩
    rcases own_eu hd (show d ∣ q.1 ^ q.2 * own_prod r from h) with z | z
    · rw [own_eu_pow hd ha.2.1 q.2 z]; exact ha.1
    · exact Nat.lt_trans ha.1 (own_inL hd r q.1 ha.2.2.2 z).1
/-- no number from 2 on below d divides r -/
def own_nd (d r : Nat) : Prop := ∀ x, 2 ≤ x → x < d → ¬ x ∣ r
theorem own_nd_pr {d r : Nat} (h2 : 2 ≤ d) (hn : own_nd d r) (h : d ∣ r) : own_pr d := by
  refine ⟨h2, fun x hx => ?_⟩
  have h1 := Nat.le_of_dvd (by omega) hx
  have h0 : x ≠ 0 := fun q => by rw [q] at hx; have := Nat.eq_zero_of_zero_dvd hx; omega
  rcases Nat.lt_or_ge x 2 with q | q
  · left; omega
  · rcases Nat.lt_or_ge x d with z | z
    · exact absurd (Nat.dvd_trans hx h) (hn x q z)
    · right; omega
theorem own_head_dvd (q : Nat × Nat) (r : List (Nat × Nat)) (h : 0 < q.2) : q.1 ∣ own_prod (q :: r) := by
  show q.1 ∣ q.1 ^ q.2 * own_prod r
  obtain ⟨k, hk⟩ : ∃ k, q.2 = k + 1 := ⟨q.2 - 1, by omega⟩
  rw [hk, Nat.pow_succ]
  exact Nat.dvd_trans (Nat.dvd_mul_left q.1 (q.1 ^ k)) (Nat.dvd_mul_right _ _)
/-- the first number that divides is the least prime -/
theorem own_hit {d b : Nat} {q : Nat × Nat} {r : List (Nat × Nat)} (h2 : 2 ≤ d) (ha : own_asc b (q :: r)) (hn : own_nd d (own_prod (q :: r))) (h : d ∣ own_prod (q :: r)) : d = q.1 := by
  have hd := own_nd_pr h2 hn h
  rcases own_eu hd (show d ∣ q.1 ^ q.2 * own_prod r from h) with z | z
  · exact own_eu_pow hd ha.2.1 q.2 z
  · have h1 := (own_inL hd r q.1 ha.2.2.2 z).1
    exact absurd (own_head_dvd q r ha.2.2.1) (hn q.1 ha.2.1.1 h1)
theorem own_miss {b : Nat} {q : Nat × Nat} {r : List (Nat × Nat)} (ha : own_asc b (q :: r)) : ¬ q.1 ∣ own_prod r := fun h => by
  have := (own_inL ha.2.1 r q.1 ha.2.2.2 h).1
  omega
theorem own_prod_pos : ∀ (L : List (Nat × Nat)) (b : Nat), own_asc b L → 0 < own_prod L
  | [], _, _ => by decide
  | q :: r, b, ha => Nat.mul_pos (Nat.pow_pos (by have := ha.2.1.1; omega)) (own_prod_pos r q.1 ha.2.2.2)
/-- what is left when no divisor is: nothing, or one prime -/
theorem own_end_list {d b : Nat} {L : List (Nat × Nat)} (ha : own_asc b L) (hn : own_nd d (own_prod L)) (h : own_prod L < d * d) : L = [] ∨ ∃ p, L = [(p, 1)] := by
  cases L with
  | nil => exact Or.inl rfl
  | cons q r =>
    right
    have hq : d ≤ q.1 := Nat.le_of_not_lt fun z => hn q.1 ha.2.1.1 z (own_head_dvd q r ha.2.2.1)
    obtain ⟨k, hk⟩ : ∃ k, q.2 = k + 1 := ⟨q.2 - 1, by have := ha.2.2.1; omega⟩
    have e : own_prod (q :: r) = q.1 * (q.1 ^ k * own_prod r) := by
      show q.1 ^ q.2 * own_prod r = _
      rw [hk, Nat.pow_succ, Nat.mul_comm (q.1 ^ k) q.1, Nat.mul_assoc]
    have hpos : 0 < q.1 ^ k * own_prod r := Nat.mul_pos (Nat.pow_pos (by have := ha.2.1.1; omega)) (own_prod_pos r q.1 ha.2.2.2)
    have h1 : q.1 ^ k * own_prod r = 1 := by
      rcases Nat.lt_or_ge (q.1 ^ k * own_prod r) 2 with z | z
      · omega
      · have hd : d ≤ q.1 ^ k * own_prod r := Nat.le_of_not_lt fun y => hn _ z y (by rw [e]; exact Nat.dvd_mul_left _ _)
        have := Nat.mul_le_mul hq hd
        rw [← e] at this
        omega
    have h2 := Nat.eq_one_of_mul_eq_one_right h1
    have h3 := Nat.eq_one_of_mul_eq_one_left h1
    have hk0 : k = 0 := by
      rcases Nat.eq_zero_or_pos k with z | z
      · exact z
      · have a1 : q.1 ^ 1 ≤ q.1 ^ k := Nat.pow_le_pow_right (by have := ha.2.1.1; omega) z
        have a2 := ha.2.1.1
        rw [Nat.pow_one] at a1
        omega
    have hr : r = [] := by
      cases r with
      | nil => rfl
      | cons q2 r2 =>
        have a1 := Nat.le_of_dvd (by rw [h3]; decide) (own_head_dvd q2 r2 ha.2.2.2.2.2.1)
        have a2 := ha.2.2.2.2.1.1
        omega
    refine ⟨q.1, ?_⟩
    rw [hr]
    congr 1
    exact Prod.ext rfl (by rw [hk, hk0])
/-- no number of [lo, lo + 2^k) from 2 on divides n -/
def own_rng (n : Nat) : Nat → Nat → Bool
  | 0, lo => Nat.ble lo 1 || Nat.blt 0 (n % lo)
  | k + 1, lo => own_rng n k lo && own_rng n k (lo + 2 ^ k)
theorem own_rng_spec {n : Nat} : ∀ (k lo : Nat), own_rng n k lo = true → ∀ x, lo ≤ x → x < lo + 2 ^ k → 2 ≤ x → ¬ x ∣ n
  | 0, lo, h, x, h1, h2, h3 => by
    have hx : x = lo := by have : 2 ^ 0 = 1 := rfl; omega
    subst hx
    simp only [own_rng, Bool.or_eq_true] at h
    rcases h with h | h
    · have := Nat.le_of_ble_eq_true h; omega
    · intro hd
      have h4 : 0 < n % x := Nat.le_of_ble_eq_true h
      have := Nat.mod_eq_zero_of_dvd hd
      omega
  | k + 1, lo, h, x, h1, h2, h3 => by
    simp only [own_rng, Bool.and_eq_true] at h
    have e : 2 ^ (k + 1) = 2 ^ k + 2 ^ k := by rw [Nat.pow_succ]; omega
    rcases Nat.lt_or_ge x (lo + 2 ^ k) with z | z
    · exact own_rng_spec k lo h.1 x h1 z h3
    · exact own_rng_spec k (lo + 2 ^ k) h.2 x z (by omega) h3
theorem own_pr_of {n k : Nat} (h2 : 2 ≤ n) (hk : n < 2 ^ k * 2 ^ k) (h : own_rng n k 0 = true ∨ ∀ x, 2 ≤ x → x < 2 ^ k → ¬ x ∣ n) : own_pr n := by
  have hall : ∀ x, 2 ≤ x → x < 2 ^ k → ¬ x ∣ n := by
    rcases h with h | h
    · exact fun x a b => own_rng_spec k 0 h x (Nat.zero_le _) (by omega) a
    · exact h
  refine ⟨h2, fun x hx => ?_⟩
  obtain ⟨y, hy⟩ := hx
  rcases Nat.lt_or_ge x 2 with q | q
  · left
    rcases Nat.eq_zero_or_pos x with z | z
    · subst z; omega
    · omega
  · right
    rcases Nat.lt_or_ge y 2 with z | z
    · have : y = 1 := by
        rcases Nat.eq_zero_or_pos y with u | u
        · subst u; omega
        · omega
      subst this; omega
    · have a : 2 ^ k ≤ x := Nat.le_of_not_lt fun u => hall x q u ⟨y, hy⟩
      have b : 2 ^ k ≤ y := Nat.le_of_not_lt fun u => hall y z u ⟨x, by rw [hy, Nat.mul_comm]⟩
      have := Nat.mul_le_mul a b
      omega

theorem own_L {n : Nat} (h : n < 9223372036854775808) : (Int64.ofNat n).toInt = (n : Int) := Int64.toInt_ofNat_of_lt h
theorem own_Lmul (a b : Nat) : Int64.ofNat a * Int64.ofNat b = Int64.ofNat (a * b) := (Int64.ofNat_mul a b).symm
theorem own_small {E n : Nat} {c : Int32} (h : Int32.ofNat E < c) (hc : c.toInt = (n : Int)) (hE : E < 32) : E < n := by
  rw [Int32.lt_iff_toInt_lt, own_nat (by omega), hc] at h
  omega
theorem own_bits : ∀ E : Fin 32, ∀ k : Fin 5, (Int32.ofNat E.1 &&& Int32.ofNat (2 ^ k.1) = 0) ↔ E.1 / 2 ^ k.1 % 2 = 0 := by decide +kernel
theorem own_bit {E k : Nat} (hE : E < 32) (hk : k < 5) : (Int32.ofNat E &&& Int32.ofNat (2 ^ k) = 0) ↔ E / 2 ^ k % 2 = 0 := own_bits ⟨E, hE⟩ ⟨k, hk⟩
theorem own_d_m2_112 : decode method_2_code 112 = .ok (.lload_n 3, 1) := by decide +kernel
theorem own_d_m2_113 : decode method_2_code 113 = .ok (.lreturn, 1) := by decide +kernel
set_option maxRecDepth 65536 in
set_option maxHeartbeats 40000000 in
theorem own_pow5 {p : Program} {l : Launch} {e : Env} {s : State} {m : MethodId} {args : Array Value} {below : List Frame} {meth : Method} {c : Code} {Z : State} {a0 : Array Value} {locs : List Loc} {cells slots : Nat} {T0 : State} {h0 : Heap}  (P E b : Nat) (hx : p.tables.exec = Jvm.exec) (hZ : Z.Warmed39 s.vm) (hw : ∀ d ∈ tables_1, d.before a0 Z = true) (hby : c.code = method_2_code) (hml : c.maxLocals = 7) (hown : s.vm.findClass "com/example/libfacet/libfacet/exact/FactorizationOfPinLaw" = some m.cls) (X0 : Stand p l e ({ frames := 0, cells := 0, slots := 0, locals := 0 } : Room) s m args below meth c T0 locs cells slots) (e0 : T0.heap = h0) (N0 : Fr Z.heap.size locs) (O0 : Old Z Z.heap.size h0) (hret : meth.sig.returnType = some .long) (hlk : meth.locks = false) (hcs : cells ≤ 0) (hss : slots ≤ 0) (hE : E < 32)
     :
    own_G p.tables e below (own_F s below (fun v h L => v = some (.long (Int64.ofNat (P ^ E))) ∧ Fr Z.heap.size L ∧ h = h0) 0 0) (T0.setTop (mkF m 112 #[.val (.long (Int64.ofNat P)), .second, .val (.int (Int32.ofNat E)), .val (.long (Int64.ofNat (P ^ (E % 2 ^ 5)))), .second, .val (.long (Int64.ofNat (b))), .second] [])) := by
  have z0 : Z.heap.size ≤ h0.size := O0.2.1
  have Kr := Keep.refl h0 []
  show own_G _ _ _ _ (T0.setTop (mkF m 112 #[.val (.long (Int64.ofNat P)), .second, .val (.int (Int32.ofNat E)), .val (.long (Int64.ofNat (P ^ (E % 2 ^ 5)))), .second, .val (.long (Int64.ofNat (b))), .second] []))
  refine own_st (fun _ k => XS.lloadN X0.here hx rfl (hb hby own_d_m2_112) rfl k) ?_
  show own_G _ _ _ _ (T0.setTop (mkF m 113 #[.val (.long (Int64.ofNat P)), .second, .val (.int (Int32.ofNat E)), .val (.long (Int64.ofNat (P ^ (E % 2 ^ 5)))), .second, .val (.long (Int64.ofNat (b))), .second] [(.long (Int64.ofNat (P ^ (E % 2 ^ 5))))]))
  exact own_retJ X0 hx hret hlk (hb hby own_d_m2_113) (by rw [e0]; exact ⟨by rw [Nat.mod_eq_of_lt (show E < 2 ^ 5 from hE)], N0, rfl⟩) hcs hss
theorem own_d_m2_87 : decode method_2_code 87 = .ok (.iload_n 2, 1) := by decide +kernel
theorem own_d_m2_88 : decode method_2_code 88 = .ok (.bipush 16, 2) := by decide +kernel
theorem own_d_m2_90 : decode method_2_code 90 = .ok (.if_icmp .lt 22, 3) := by decide +kernel
theorem own_d_m2_93 : decode method_2_code 93 = .ok (.lload 5, 2) := by decide +kernel
theorem own_d_m2_95 : decode method_2_code 95 = .ok (.lload 5, 2) := by decide +kernel
theorem own_d_m2_97 : decode method_2_code 97 = .ok (.lmul, 1) := by decide +kernel
theorem own_d_m2_98 : decode method_2_code 98 = .ok (.lstore 5, 2) := by decide +kernel
theorem own_d_m2_100 : decode method_2_code 100 = .ok (.iload_n 2, 1) := by decide +kernel
theorem own_d_m2_101 : decode method_2_code 101 = .ok (.bipush 16, 2) := by decide +kernel
theorem own_d_m2_103 : decode method_2_code 103 = .ok (.iand, 1) := by decide +kernel
theorem own_d_m2_104 : decode method_2_code 104 = .ok (.ifCond .eq 8, 3) := by decide +kernel
theorem own_d_m2_107 : decode method_2_code 107 = .ok (.lload_n 3, 1) := by decide +kernel
theorem own_d_m2_108 : decode method_2_code 108 = .ok (.lload 5, 2) := by decide +kernel
theorem own_d_m2_110 : decode method_2_code 110 = .ok (.lmul, 1) := by decide +kernel
theorem own_d_m2_111 : decode method_2_code 111 = .ok (.lstore_n 3, 1) := by decide +kernel
set_option maxRecDepth 65536 in
set_option maxHeartbeats 40000000 in
theorem own_pow4 {p : Program} {l : Launch} {e : Env} {s : State} {m : MethodId} {args : Array Value} {below : List Frame} {meth : Method} {c : Code} {Z : State} {a0 : Array Value} {locs : List Loc} {cells slots : Nat} {T0 : State} {h0 : Heap}  (P E : Nat) (hx : p.tables.exec = Jvm.exec) (hZ : Z.Warmed39 s.vm) (hw : ∀ d ∈ tables_1, d.before a0 Z = true) (hby : c.code = method_2_code) (hml : c.maxLocals = 7) (hown : s.vm.findClass "com/example/libfacet/libfacet/exact/FactorizationOfPinLaw" = some m.cls) (X0 : Stand p l e ({ frames := 0, cells := 0, slots := 0, locals := 0 } : Room) s m args below meth c T0 locs cells slots) (e0 : T0.heap = h0) (N0 : Fr Z.heap.size locs) (O0 : Old Z Z.heap.size h0) (hret : meth.sig.returnType = some .long) (hlk : meth.locks = false) (hcs : cells ≤ 0) (hss : slots ≤ 0) (hE : E < 32)
     :
    own_G p.tables e below (own_F s below (fun v h L => v = some (.long (Int64.ofNat (P ^ E))) ∧ Fr Z.heap.size L ∧ h = h0) 0 0) (T0.setTop (mkF m 87 #[.val (.long (Int64.ofNat P)), .second, .val (.int (Int32.ofNat E)), .val (.long (Int64.ofNat (P ^ (E % 2 ^ 4)))), .second, .val (.long (Int64.ofNat (P ^ 2 ^ 3))), .second] [])) := by
  have z0 : Z.heap.size ≤ h0.size := O0.2.1
  have Kr := Keep.refl h0 []
  show own_G _ _ _ _ (T0.setTop (mkF m 87 #[.val (.long (Int64.ofNat P)), .second, .val (.int (Int32.ofNat E)), .val (.long (Int64.ofNat (P ^ (E % 2 ^ 4)))), .second, .val (.long (Int64.ofNat (P ^ 2 ^ 3))), .second] []))
  refine own_st (fun _ k => XS.iloadN X0.here hx rfl (hb hby own_d_m2_87) rfl k) ?_
  show own_G _ _ _ _ (T0.setTop (mkF m 88 #[.val (.long (Int64.ofNat P)), .second, .val (.int (Int32.ofNat E)), .val (.long (Int64.ofNat (P ^ (E % 2 ^ 4)))), .second, .val (.long (Int64.ofNat (P ^ 2 ^ 3))), .second] [(.int (Int32.ofNat E))]))
  refine own_st (fun _ k => XS.bipush X0.here hx rfl (hb hby own_d_m2_88) k) ?_
  show own_G _ _ _ _ (T0.setTop (mkF m 90 #[.val (.long (Int64.ofNat P)), .second, .val (.int (Int32.ofNat E)), .val (.long (Int64.ofNat (P ^ (E % 2 ^ 4)))), .second, .val (.long (Int64.ofNat (P ^ 2 ^ 3))), .second] [(.int (16 : Int32)), (.int (Int32.ofNat E))]))
  by_cases hsm : (Int32.ofNat E) < (16 : Int32)
  · show own_G _ _ _ _ (T0.setTop (mkF m 90 #[.val (.long (Int64.ofNat P)), .second, .val (.int (Int32.ofNat E)), .val (.long (Int64.ofNat (P ^ (E % 2 ^ 4)))), .second, .val (.long (Int64.ofNat (P ^ 2 ^ 3))), .second] [(.int (16 : Int32)), (.int (Int32.ofNat E))]))
    refine own_st (fun _ k => XS.icmpYes X0.here hx rfl (pc0 := 90) (pc' := 112) rfl (hb hby own_d_m2_90) rfl (tlt hsm).1 (by decide) (by decide) k) ?_
    show own_G _ _ _ _ (T0.setTop (mkF m 112 #[.val (.long (Int64.ofNat P)), .second, .val (.int (Int32.ofNat E)), .val (.long (Int64.ofNat (P ^ (E % 2 ^ 4)))), .second, .val (.long (Int64.ofNat (P ^ 2 ^ 3))), .second] []))
    refine own_st (fun _ k => XS.lloadN X0.here hx rfl (hb hby own_d_m2_112) rfl k) ?_
    show own_G _ _ _ _ (T0.setTop (mkF m 113 #[.val (.long (Int64.ofNat P)), .second, .val (.int (Int32.ofNat E)), .val (.long (Int64.ofNat (P ^ (E % 2 ^ 4)))), .second, .val (.long (Int64.ofNat (P ^ 2 ^ 3))), .second] [(.long (Int64.ofNat (P ^ (E % 2 ^ 4))))]))
    exact own_retJ X0 hx hret hlk (hb hby own_d_m2_113) (by rw [e0]; exact ⟨by rw [Nat.mod_eq_of_lt (show E < 2 ^ 4 from own_small hsm rfl hE)], N0, rfl⟩) hcs hss
  · show own_G _ _ _ _ (T0.setTop (mkF m 90 #[.val (.long (Int64.ofNat P)), .second, .val (.int (Int32.ofNat E)), .val (.long (Int64.ofNat (P ^ (E % 2 ^ 4)))), .second, .val (.long (Int64.ofNat (P ^ 2 ^ 3))), .second] [(.int (16 : Int32)), (.int (Int32.ofNat E))]))
    refine own_st (fun _ k => XS.icmpNo X0.here hx rfl (hb hby own_d_m2_90) rfl (flt hsm).1 k) ?_
    show own_G _ _ _ _ (T0.setTop (mkF m 93 #[.val (.long (Int64.ofNat P)), .second, .val (.int (Int32.ofNat E)), .val (.long (Int64.ofNat (P ^ (E % 2 ^ 4)))), .second, .val (.long (Int64.ofNat (P ^ 2 ^ 3))), .second] []))
    refine own_st (fun _ k => XS.lload X0.here hx rfl (hb hby own_d_m2_93) rfl k) ?_
    show own_G _ _ _ _ (T0.setTop (mkF m 95 #[.val (.long (Int64.ofNat P)), .second, .val (.int (Int32.ofNat E)), .val (.long (Int64.ofNat (P ^ (E % 2 ^ 4)))), .second, .val (.long (Int64.ofNat (P ^ 2 ^ 3))), .second] [(.long (Int64.ofNat (P ^ 2 ^ 3)))]))
    refine own_st (fun _ k => XS.lload X0.here hx rfl (hb hby own_d_m2_95) rfl k) ?_
    show own_G _ _ _ _ (T0.setTop (mkF m 97 #[.val (.long (Int64.ofNat P)), .second, .val (.int (Int32.ofNat E)), .val (.long (Int64.ofNat (P ^ (E % 2 ^ 4)))), .second, .val (.long (Int64.ofNat (P ^ 2 ^ 3))), .second] [(.long (Int64.ofNat (P ^ 2 ^ 3))), (.long (Int64.ofNat (P ^ 2 ^ 3)))]))
    refine own_st (fun _ k => XS.lmul X0.here hx rfl (hb hby own_d_m2_97) rfl k) ?_
    show own_G _ _ _ _ (T0.setTop (mkF m 98 #[.val (.long (Int64.ofNat P)), .second, .val (.int (Int32.ofNat E)), .val (.long (Int64.ofNat (P ^ (E % 2 ^ 4)))), .second, .val (.long (Int64.ofNat (P ^ 2 ^ 3))), .second] [(.long ((Int64.ofNat (P ^ 2 ^ 3)) * (Int64.ofNat (P ^ 2 ^ 3))))]))
    refine own_st (fun _ k => XS.lstore X0.here hx rfl (hb hby own_d_m2_98) rfl (l' := #[.val (.long (Int64.ofNat P)), .second, .val (.int (Int32.ofNat E)), .val (.long (Int64.ofNat (P ^ (E % 2 ^ 4)))), .second, .val (.long ((Int64.ofNat (P ^ 2 ^ 3)) * (Int64.ofNat (P ^ 2 ^ 3)))), .second]) rfl k) ?_
    show own_G _ _ _ _ (T0.setTop (mkF m 100 #[.val (.long (Int64.ofNat P)), .second, .val (.int (Int32.ofNat E)), .val (.long (Int64.ofNat (P ^ (E % 2 ^ 4)))), .second, .val (.long ((Int64.ofNat (P ^ 2 ^ 3)) * (Int64.ofNat (P ^ 2 ^ 3)))), .second] []))
    refine own_st (fun _ k => XS.iloadN X0.here hx rfl (hb hby own_d_m2_100) rfl k) ?_
    show own_G _ _ _ _ (T0.setTop (mkF m 101 #[.val (.long (Int64.ofNat P)), .second, .val (.int (Int32.ofNat E)), .val (.long (Int64.ofNat (P ^ (E % 2 ^ 4)))), .second, .val (.long ((Int64.ofNat (P ^ 2 ^ 3)) * (Int64.ofNat (P ^ 2 ^ 3)))), .second] [(.int (Int32.ofNat E))]))
    refine own_st (fun _ k => XS.bipush X0.here hx rfl (hb hby own_d_m2_101) k) ?_
    show own_G _ _ _ _ (T0.setTop (mkF m 103 #[.val (.long (Int64.ofNat P)), .second, .val (.int (Int32.ofNat E)), .val (.long (Int64.ofNat (P ^ (E % 2 ^ 4)))), .second, .val (.long ((Int64.ofNat (P ^ 2 ^ 3)) * (Int64.ofNat (P ^ 2 ^ 3)))), .second] [(.int (16 : Int32)), (.int (Int32.ofNat E))]))
    refine own_st (fun _ k => XS.iand X0.here hx rfl (hb hby own_d_m2_103) rfl k) ?_
    show own_G _ _ _ _ (T0.setTop (mkF m 104 #[.val (.long (Int64.ofNat P)), .second, .val (.int (Int32.ofNat E)), .val (.long (Int64.ofNat (P ^ (E % 2 ^ 4)))), .second, .val (.long ((Int64.ofNat (P ^ 2 ^ 3)) * (Int64.ofNat (P ^ 2 ^ 3)))), .second] [(.int ((Int32.ofNat E) &&& (16 : Int32)))]))
    have hb2 : Int64.ofNat (P ^ 2 ^ 3) * Int64.ofNat (P ^ 2 ^ 3) = Int64.ofNat (P ^ 2 ^ 4) := by rw [own_Lmul, ← Nat.pow_add]
    rw [hb2]
    show own_G _ _ _ _ (T0.setTop (mkF m 104 #[.val (.long (Int64.ofNat P)), .second, .val (.int (Int32.ofNat E)), .val (.long (Int64.ofNat (P ^ (E % 2 ^ 4)))), .second, .val (.long (Int64.ofNat (P ^ 2 ^ 4))), .second] [(.int ((Int32.ofNat E) &&& (16 : Int32)))]))
    by_cases hbit : ((Int32.ofNat E) &&& (16 : Int32)) = (0 : Int32)
    · show own_G _ _ _ _ (T0.setTop (mkF m 104 #[.val (.long (Int64.ofNat P)), .second, .val (.int (Int32.ofNat E)), .val (.long (Int64.ofNat (P ^ (E % 2 ^ 4)))), .second, .val (.long (Int64.ofNat (P ^ 2 ^ 4))), .second] [(.int ((Int32.ofNat E) &&& (16 : Int32)))]))
      refine own_st (fun _ k => XS.ifYes X0.here hx rfl (pc0 := 104) (pc' := 112) rfl (hb hby own_d_m2_104) rfl ((if0 _ _).trans (teq hbit).1) (by decide) (by decide) k) ?_
      show own_G _ _ _ _ (T0.setTop (mkF m 112 #[.val (.long (Int64.ofNat P)), .second, .val (.int (Int32.ofNat E)), .val (.long (Int64.ofNat (P ^ (E % 2 ^ 4)))), .second, .val (.long (Int64.ofNat (P ^ 2 ^ 4))), .second] []))
      have hm : E % 2 ^ 4 = E % 2 ^ 5 := by have := (own_bit hE (show 4 < 5 by decide)).mp hbit; omega
      rw [hm]
      exact own_pow5 P E _ hx hZ hw hby hml hown X0 e0 N0 O0 hret hlk hcs hss hE
    · show own_G _ _ _ _ (T0.setTop (mkF m 104 #[.val (.long (Int64.ofNat P)), .second, .val (.int (Int32.ofNat E)), .val (.long (Int64.ofNat (P ^ (E % 2 ^ 4)))), .second, .val (.long (Int64.ofNat (P ^ 2 ^ 4))), .second] [(.int ((Int32.ofNat E) &&& (16 : Int32)))]))
      refine own_st (fun _ k => XS.ifNo X0.here hx rfl (hb hby own_d_m2_104) rfl ((if0 _ _).trans (feq hbit).1) k) ?_
      show own_G _ _ _ _ (T0.setTop (mkF m 107 #[.val (.long (Int64.ofNat P)), .second, .val (.int (Int32.ofNat E)), .val (.long (Int64.ofNat (P ^ (E % 2 ^ 4)))), .second, .val (.long (Int64.ofNat (P ^ 2 ^ 4))), .second] []))
      refine own_st (fun _ k => XS.lloadN X0.here hx rfl (hb hby own_d_m2_107) rfl k) ?_
      show own_G _ _ _ _ (T0.setTop (mkF m 108 #[.val (.long (Int64.ofNat P)), .second, .val (.int (Int32.ofNat E)), .val (.long (Int64.ofNat (P ^ (E % 2 ^ 4)))), .second, .val (.long (Int64.ofNat (P ^ 2 ^ 4))), .second] [(.long (Int64.ofNat (P ^ (E % 2 ^ 4))))]))
      refine own_st (fun _ k => XS.lload X0.here hx rfl (hb hby own_d_m2_108) rfl k) ?_
      show own_G _ _ _ _ (T0.setTop (mkF m 110 #[.val (.long (Int64.ofNat P)), .second, .val (.int (Int32.ofNat E)), .val (.long (Int64.ofNat (P ^ (E % 2 ^ 4)))), .second, .val (.long (Int64.ofNat (P ^ 2 ^ 4))), .second] [(.long (Int64.ofNat (P ^ 2 ^ 4))), (.long (Int64.ofNat (P ^ (E % 2 ^ 4))))]))
      refine own_st (fun _ k => XS.lmul X0.here hx rfl (hb hby own_d_m2_110) rfl k) ?_
      show own_G _ _ _ _ (T0.setTop (mkF m 111 #[.val (.long (Int64.ofNat P)), .second, .val (.int (Int32.ofNat E)), .val (.long (Int64.ofNat (P ^ (E % 2 ^ 4)))), .second, .val (.long (Int64.ofNat (P ^ 2 ^ 4))), .second] [(.long ((Int64.ofNat (P ^ (E % 2 ^ 4))) * (Int64.ofNat (P ^ 2 ^ 4))))]))
      refine own_st (fun _ k => XS.lstoreN X0.here hx rfl (hb hby own_d_m2_111) rfl (l' := #[.val (.long (Int64.ofNat P)), .second, .val (.int (Int32.ofNat E)), .val (.long ((Int64.ofNat (P ^ (E % 2 ^ 4))) * (Int64.ofNat (P ^ 2 ^ 4)))), .second, .val (.long (Int64.ofNat (P ^ 2 ^ 4))), .second]) rfl k) ?_
      show own_G _ _ _ _ (T0.setTop (mkF m 112 #[.val (.long (Int64.ofNat P)), .second, .val (.int (Int32.ofNat E)), .val (.long ((Int64.ofNat (P ^ (E % 2 ^ 4))) * (Int64.ofNat (P ^ 2 ^ 4)))), .second, .val (.long (Int64.ofNat (P ^ 2 ^ 4))), .second] []))
      have hm : E % 2 ^ 4 + 2 ^ 4 = E % 2 ^ 5 := by have := mt (own_bit hE (show 4 < 5 by decide)).mpr hbit; omega
      rw [own_Lmul, ← Nat.pow_add, hm]
      exact own_pow5 P E _ hx hZ hw hby hml hown X0 e0 N0 O0 hret hlk hcs hss hE
theorem own_d_m2_62 : decode method_2_code 62 = .ok (.iload_n 2, 1) := by decide +kernel
theorem own_d_m2_63 : decode method_2_code 63 = .ok (.bipush 8, 2) := by decide +kernel
theorem own_d_m2_65 : decode method_2_code 65 = .ok (.if_icmp .lt 47, 3) := by decide +kernel
theorem own_d_m2_68 : decode method_2_code 68 = .ok (.lload 5, 2) := by decide +kernel
theorem own_d_m2_70 : decode method_2_code 70 = .ok (.lload 5, 2) := by decide +kernel
theorem own_d_m2_72 : decode method_2_code 72 = .ok (.lmul, 1) := by decide +kernel
theorem own_d_m2_73 : decode method_2_code 73 = .ok (.lstore 5, 2) := by decide +kernel
theorem own_d_m2_75 : decode method_2_code 75 = .ok (.iload_n 2, 1) := by decide +kernel
theorem own_d_m2_76 : decode method_2_code 76 = .ok (.bipush 8, 2) := by decide +kernel
theorem own_d_m2_78 : decode method_2_code 78 = .ok (.iand, 1) := by decide +kernel
theorem own_d_m2_79 : decode method_2_code 79 = .ok (.ifCond .eq 8, 3) := by decide +kernel
theorem own_d_m2_82 : decode method_2_code 82 = .ok (.lload_n 3, 1) := by decide +kernel
theorem own_d_m2_83 : decode method_2_code 83 = .ok (.lload 5, 2) := by decide +kernel
theorem own_d_m2_85 : decode method_2_code 85 = .ok (.lmul, 1) := by decide +kernel
theorem own_d_m2_86 : decode method_2_code 86 = .ok (.lstore_n 3, 1) := by decide +kernel
set_option maxRecDepth 65536 in
set_option maxHeartbeats 40000000 in
theorem own_pow3 {p : Program} {l : Launch} {e : Env} {s : State} {m : MethodId} {args : Array Value} {below : List Frame} {meth : Method} {c : Code} {Z : State} {a0 : Array Value} {locs : List Loc} {cells slots : Nat} {T0 : State} {h0 : Heap}  (P E : Nat) (hx : p.tables.exec = Jvm.exec) (hZ : Z.Warmed39 s.vm) (hw : ∀ d ∈ tables_1, d.before a0 Z = true) (hby : c.code = method_2_code) (hml : c.maxLocals = 7) (hown : s.vm.findClass "com/example/libfacet/libfacet/exact/FactorizationOfPinLaw" = some m.cls) (X0 : Stand p l e ({ frames := 0, cells := 0, slots := 0, locals := 0 } : Room) s m args below meth c T0 locs cells slots) (e0 : T0.heap = h0) (N0 : Fr Z.heap.size locs) (O0 : Old Z Z.heap.size h0) (hret : meth.sig.returnType = some .long) (hlk : meth.locks = false) (hcs : cells ≤ 0) (hss : slots ≤ 0) (hE : E < 32)
     :
    own_G p.tables e below (own_F s below (fun v h L => v = some (.long (Int64.ofNat (P ^ E))) ∧ Fr Z.heap.size L ∧ h = h0) 0 0) (T0.setTop (mkF m 62 #[.val (.long (Int64.ofNat P)), .second, .val (.int (Int32.ofNat E)), .val (.long (Int64.ofNat (P ^ (E % 2 ^ 3)))), .second, .val (.long (Int64.ofNat (P ^ 2 ^ 2))), .second] [])) := by
  have z0 : Z.heap.size ≤ h0.size := O0.2.1
  have Kr := Keep.refl h0 []
  show own_G _ _ _ _ (T0.setTop (mkF m 62 #[.val (.long (Int64.ofNat P)), .second, .val (.int (Int32.ofNat E)), .val (.long (Int64.ofNat (P ^ (E % 2 ^ 3)))), .second, .val (.long (Int64.ofNat (P ^ 2 ^ 2))), .second] []))
  refine own_st (fun _ k => XS.iloadN X0.here hx rfl (hb hby own_d_m2_62) rfl k) ?_
  show own_G _ _ _ _ (T0.setTop (mkF m 63 #[.val (.long (Int64.ofNat P)), .second, .val (.int (Int32.ofNat E)), .val (.long (Int64.ofNat (P ^ (E % 2 ^ 3)))), .second, .val (.long (Int64.ofNat (P ^ 2 ^ 2))), .second] [(.int (Int32.ofNat E))]))
  refine own_st (fun _ k => XS.bipush X0.here hx rfl (hb hby own_d_m2_63) k) ?_
  show own_G _ _ _ _ (T0.setTop (mkF m 65 #[.val (.long (Int64.ofNat P)), .second, .val (.int (Int32.ofNat E)), .val (.long (Int64.ofNat (P ^ (E % 2 ^ 3)))), .second, .val (.long (Int64.ofNat (P ^ 2 ^ 2))), .second] [(.int (8 : Int32)), (.int (Int32.ofNat E))]))
  by_cases hsm : (Int32.ofNat E) < (8 : Int32)
  · show own_G _ _ _ _ (T0.setTop (mkF m 65 #[.val (.long (Int64.ofNat P)), .second, .val (.int (Int32.ofNat E)), .val (.long (Int64.ofNat (P ^ (E % 2 ^ 3)))), .second, .val (.long (Int64.ofNat (P ^ 2 ^ 2))), .second] [(.int (8 : Int32)), (.int (Int32.ofNat E))]))
    refine own_st (fun _ k => XS.icmpYes X0.here hx rfl (pc0 := 65) (pc' := 112) rfl (hb hby own_d_m2_65) rfl (tlt hsm).1 (by decide) (by decide) k) ?_
    show own_G _ _ _ _ (T0.setTop (mkF m 112 #[.val (.long (Int64.ofNat P)), .second, .val (.int (Int32.ofNat E)), .val (.long (Int64.ofNat (P ^ (E % 2 ^ 3)))), .second, .val (.long (Int64.ofNat (P ^ 2 ^ 2))), .second] []))
    refine own_st (fun _ k => XS.lloadN X0.here hx rfl (hb hby own_d_m2_112) rfl k) ?_
    show own_G _ _ _ _ (T0.setTop (mkF m 113 #[.val (.long (Int64.ofNat P)), .second, .val (.int (Int32.ofNat E)), .val (.long (Int64.ofNat (P ^ (E % 2 ^ 3)))), .second, .val (.long (Int64.ofNat (P ^ 2 ^ 2))), .second] [(.long (Int64.ofNat (P ^ (E % 2 ^ 3))))]))
    exact own_retJ X0 hx hret hlk (hb hby own_d_m2_113) (by rw [e0]; exact ⟨by rw [Nat.mod_eq_of_lt (show E < 2 ^ 3 from own_small hsm rfl hE)], N0, rfl⟩) hcs hss
  · show own_G _ _ _ _ (T0.setTop (mkF m 65 #[.val (.long (Int64.ofNat P)), .second, .val (.int (Int32.ofNat E)), .val (.long (Int64.ofNat (P ^ (E % 2 ^ 3)))), .second, .val (.long (Int64.ofNat (P ^ 2 ^ 2))), .second] [(.int (8 : Int32)), (.int (Int32.ofNat E))]))
    refine own_st (fun _ k => XS.icmpNo X0.here hx rfl (hb hby own_d_m2_65) rfl (flt hsm).1 k) ?_
    show own_G _ _ _ _ (T0.setTop (mkF m 68 #[.val (.long (Int64.ofNat P)), .second, .val (.int (Int32.ofNat E)), .val (.long (Int64.ofNat (P ^ (E % 2 ^ 3)))), .second, .val (.long (Int64.ofNat (P ^ 2 ^ 2))), .second] []))
    refine own_st (fun _ k => XS.lload X0.here hx rfl (hb hby own_d_m2_68) rfl k) ?_
    show own_G _ _ _ _ (T0.setTop (mkF m 70 #[.val (.long (Int64.ofNat P)), .second, .val (.int (Int32.ofNat E)), .val (.long (Int64.ofNat (P ^ (E % 2 ^ 3)))), .second, .val (.long (Int64.ofNat (P ^ 2 ^ 2))), .second] [(.long (Int64.ofNat (P ^ 2 ^ 2)))]))
    refine own_st (fun _ k => XS.lload X0.here hx rfl (hb hby own_d_m2_70) rfl k) ?_
    show own_G _ _ _ _ (T0.setTop (mkF m 72 #[.val (.long (Int64.ofNat P)), .second, .val (.int (Int32.ofNat E)), .val (.long (Int64.ofNat (P ^ (E % 2 ^ 3)))), .second, .val (.long (Int64.ofNat (P ^ 2 ^ 2))), .second] [(.long (Int64.ofNat (P ^ 2 ^ 2))), (.long (Int64.ofNat (P ^ 2 ^ 2)))]))
    refine own_st (fun _ k => XS.lmul X0.here hx rfl (hb hby own_d_m2_72) rfl k) ?_
    show own_G _ _ _ _ (T0.setTop (mkF m 73 #[.val (.long (Int64.ofNat P)), .second, .val (.int (Int32.ofNat E)), .val (.long (Int64.ofNat (P ^ (E % 2 ^ 3)))), .second, .val (.long (Int64.ofNat (P ^ 2 ^ 2))), .second] [(.long ((Int64.ofNat (P ^ 2 ^ 2)) * (Int64.ofNat (P ^ 2 ^ 2))))]))
    refine own_st (fun _ k => XS.lstore X0.here hx rfl (hb hby own_d_m2_73) rfl (l' := #[.val (.long (Int64.ofNat P)), .second, .val (.int (Int32.ofNat E)), .val (.long (Int64.ofNat (P ^ (E % 2 ^ 3)))), .second, .val (.long ((Int64.ofNat (P ^ 2 ^ 2)) * (Int64.ofNat (P ^ 2 ^ 2)))), .second]) rfl k) ?_
    show own_G _ _ _ _ (T0.setTop (mkF m 75 #[.val (.long (Int64.ofNat P)), .second, .val (.int (Int32.ofNat E)), .val (.long (Int64.ofNat (P ^ (E % 2 ^ 3)))), .second, .val (.long ((Int64.ofNat (P ^ 2 ^ 2)) * (Int64.ofNat (P ^ 2 ^ 2)))), .second] []))
    refine own_st (fun _ k => XS.iloadN X0.here hx rfl (hb hby own_d_m2_75) rfl k) ?_
    show own_G _ _ _ _ (T0.setTop (mkF m 76 #[.val (.long (Int64.ofNat P)), .second, .val (.int (Int32.ofNat E)), .val (.long (Int64.ofNat (P ^ (E % 2 ^ 3)))), .second, .val (.long ((Int64.ofNat (P ^ 2 ^ 2)) * (Int64.ofNat (P ^ 2 ^ 2)))), .second] [(.int (Int32.ofNat E))]))
    refine own_st (fun _ k => XS.bipush X0.here hx rfl (hb hby own_d_m2_76) k) ?_
    show own_G _ _ _ _ (T0.setTop (mkF m 78 #[.val (.long (Int64.ofNat P)), .second, .val (.int (Int32.ofNat E)), .val (.long (Int64.ofNat (P ^ (E % 2 ^ 3)))), .second, .val (.long ((Int64.ofNat (P ^ 2 ^ 2)) * (Int64.ofNat (P ^ 2 ^ 2)))), .second] [(.int (8 : Int32)), (.int (Int32.ofNat E))]))
    refine own_st (fun _ k => XS.iand X0.here hx rfl (hb hby own_d_m2_78) rfl k) ?_
    show own_G _ _ _ _ (T0.setTop (mkF m 79 #[.val (.long (Int64.ofNat P)), .second, .val (.int (Int32.ofNat E)), .val (.long (Int64.ofNat (P ^ (E % 2 ^ 3)))), .second, .val (.long ((Int64.ofNat (P ^ 2 ^ 2)) * (Int64.ofNat (P ^ 2 ^ 2)))), .second] [(.int ((Int32.ofNat E) &&& (8 : Int32)))]))
    have hb2 : Int64.ofNat (P ^ 2 ^ 2) * Int64.ofNat (P ^ 2 ^ 2) = Int64.ofNat (P ^ 2 ^ 3) := by rw [own_Lmul, ← Nat.pow_add]
    rw [hb2]
    show own_G _ _ _ _ (T0.setTop (mkF m 79 #[.val (.long (Int64.ofNat P)), .second, .val (.int (Int32.ofNat E)), .val (.long (Int64.ofNat (P ^ (E % 2 ^ 3)))), .second, .val (.long (Int64.ofNat (P ^ 2 ^ 3))), .second] [(.int ((Int32.ofNat E) &&& (8 : Int32)))]))
    by_cases hbit : ((Int32.ofNat E) &&& (8 : Int32)) = (0 : Int32)
    · show own_G _ _ _ _ (T0.setTop (mkF m 79 #[.val (.long (Int64.ofNat P)), .second, .val (.int (Int32.ofNat E)), .val (.long (Int64.ofNat (P ^ (E % 2 ^ 3)))), .second, .val (.long (Int64.ofNat (P ^ 2 ^ 3))), .second] [(.int ((Int32.ofNat E) &&& (8 : Int32)))]))
      refine own_st (fun _ k => XS.ifYes X0.here hx rfl (pc0 := 79) (pc' := 87) rfl (hb hby own_d_m2_79) rfl ((if0 _ _).trans (teq hbit).1) (by decide) (by decide) k) ?_
      show own_G _ _ _ _ (T0.setTop (mkF m 87 #[.val (.long (Int64.ofNat P)), .second, .val (.int (Int32.ofNat E)), .val (.long (Int64.ofNat (P ^ (E % 2 ^ 3)))), .second, .val (.long (Int64.ofNat (P ^ 2 ^ 3))), .second] []))
      have hm : E % 2 ^ 3 = E % 2 ^ 4 := by have := (own_bit hE (show 3 < 5 by decide)).mp hbit; omega
      rw [hm]
      exact own_pow4 P E hx hZ hw hby hml hown X0 e0 N0 O0 hret hlk hcs hss hE
    · show own_G _ _ _ _ (T0.setTop (mkF m 79 #[.val (.long (Int64.ofNat P)), .second, .val (.int (Int32.ofNat E)), .val (.long (Int64.ofNat (P ^ (E % 2 ^ 3)))), .second, .val (.long (Int64.ofNat (P ^ 2 ^ 3))), .second] [(.int ((Int32.ofNat E) &&& (8 : Int32)))]))
      refine own_st (fun _ k => XS.ifNo X0.here hx rfl (hb hby own_d_m2_79) rfl ((if0 _ _).trans (feq hbit).1) k) ?_
      show own_G _ _ _ _ (T0.setTop (mkF m 82 #[.val (.long (Int64.ofNat P)), .second, .val (.int (Int32.ofNat E)), .val (.long (Int64.ofNat (P ^ (E % 2 ^ 3)))), .second, .val (.long (Int64.ofNat (P ^ 2 ^ 3))), .second] []))
      refine own_st (fun _ k => XS.lloadN X0.here hx rfl (hb hby own_d_m2_82) rfl k) ?_
      show own_G _ _ _ _ (T0.setTop (mkF m 83 #[.val (.long (Int64.ofNat P)), .second, .val (.int (Int32.ofNat E)), .val (.long (Int64.ofNat (P ^ (E % 2 ^ 3)))), .second, .val (.long (Int64.ofNat (P ^ 2 ^ 3))), .second] [(.long (Int64.ofNat (P ^ (E % 2 ^ 3))))]))
      refine own_st (fun _ k => XS.lload X0.here hx rfl (hb hby own_d_m2_83) rfl k) ?_
      show own_G _ _ _ _ (T0.setTop (mkF m 85 #[.val (.long (Int64.ofNat P)), .second, .val (.int (Int32.ofNat E)), .val (.long (Int64.ofNat (P ^ (E % 2 ^ 3)))), .second, .val (.long (Int64.ofNat (P ^ 2 ^ 3))), .second] [(.long (Int64.ofNat (P ^ 2 ^ 3))), (.long (Int64.ofNat (P ^ (E % 2 ^ 3))))]))
      refine own_st (fun _ k => XS.lmul X0.here hx rfl (hb hby own_d_m2_85) rfl k) ?_
      show own_G _ _ _ _ (T0.setTop (mkF m 86 #[.val (.long (Int64.ofNat P)), .second, .val (.int (Int32.ofNat E)), .val (.long (Int64.ofNat (P ^ (E % 2 ^ 3)))), .second, .val (.long (Int64.ofNat (P ^ 2 ^ 3))), .second] [(.long ((Int64.ofNat (P ^ (E % 2 ^ 3))) * (Int64.ofNat (P ^ 2 ^ 3))))]))
      refine own_st (fun _ k => XS.lstoreN X0.here hx rfl (hb hby own_d_m2_86) rfl (l' := #[.val (.long (Int64.ofNat P)), .second, .val (.int (Int32.ofNat E)), .val (.long ((Int64.ofNat (P ^ (E % 2 ^ 3))) * (Int64.ofNat (P ^ 2 ^ 3)))), .second, .val (.long (Int64.ofNat (P ^ 2 ^ 3))), .second]) rfl k) ?_
      show own_G _ _ _ _ (T0.setTop (mkF m 87 #[.val (.long (Int64.ofNat P)), .second, .val (.int (Int32.ofNat E)), .val (.long ((Int64.ofNat (P ^ (E % 2 ^ 3))) * (Int64.ofNat (P ^ 2 ^ 3)))), .second, .val (.long (Int64.ofNat (P ^ 2 ^ 3))), .second] []))
      have hm : E % 2 ^ 3 + 2 ^ 3 = E % 2 ^ 4 := by have := mt (own_bit hE (show 3 < 5 by decide)).mpr hbit; omega
      rw [own_Lmul, ← Nat.pow_add, hm]
      exact own_pow4 P E hx hZ hw hby hml hown X0 e0 N0 O0 hret hlk hcs hss hE
theorem own_d_m2_39 : decode method_2_code 39 = .ok (.iload_n 2, 1) := by decide +kernel
theorem own_d_m2_40 : decode method_2_code 40 = .ok (.iconst 4, 1) := by decide +kernel
theorem own_d_m2_41 : decode method_2_code 41 = .ok (.if_icmp .lt 71, 3) := by decide +kernel
theorem own_d_m2_44 : decode method_2_code 44 = .ok (.lload 5, 2) := by decide +kernel
theorem own_d_m2_46 : decode method_2_code 46 = .ok (.lload 5, 2) := by decide +kernel
theorem own_d_m2_48 : decode method_2_code 48 = .ok (.lmul, 1) := by decide +kernel
theorem own_d_m2_49 : decode method_2_code 49 = .ok (.lstore 5, 2) := by decide +kernel
theorem own_d_m2_51 : decode method_2_code 51 = .ok (.iload_n 2, 1) := by decide +kernel
theorem own_d_m2_52 : decode method_2_code 52 = .ok (.iconst 4, 1) := by decide +kernel
theorem own_d_m2_53 : decode method_2_code 53 = .ok (.iand, 1) := by decide +kernel
theorem own_d_m2_54 : decode method_2_code 54 = .ok (.ifCond .eq 8, 3) := by decide +kernel
theorem own_d_m2_57 : decode method_2_code 57 = .ok (.lload_n 3, 1) := by decide +kernel
theorem own_d_m2_58 : decode method_2_code 58 = .ok (.lload 5, 2) := by decide +kernel
theorem own_d_m2_60 : decode method_2_code 60 = .ok (.lmul, 1) := by decide +kernel
theorem own_d_m2_61 : decode method_2_code 61 = .ok (.lstore_n 3, 1) := by decide +kernel
set_option maxRecDepth 65536 in
set_option maxHeartbeats 40000000 in
theorem own_pow2 {p : Program} {l : Launch} {e : Env} {s : State} {m : MethodId} {args : Array Value} {below : List Frame} {meth : Method} {c : Code} {Z : State} {a0 : Array Value} {locs : List Loc} {cells slots : Nat} {T0 : State} {h0 : Heap}  (P E : Nat) (hx : p.tables.exec = Jvm.exec) (hZ : Z.Warmed39 s.vm) (hw : ∀ d ∈ tables_1, d.before a0 Z = true) (hby : c.code = method_2_code) (hml : c.maxLocals = 7) (hown : s.vm.findClass "com/example/libfacet/libfacet/exact/FactorizationOfPinLaw" = some m.cls) (X0 : Stand p l e ({ frames := 0, cells := 0, slots := 0, locals := 0 } : Room) s m args below meth c T0 locs cells slots) (e0 : T0.heap = h0) (N0 : Fr Z.heap.size locs) (O0 : Old Z Z.heap.size h0) (hret : meth.sig.returnType = some .long) (hlk : meth.locks = false) (hcs : cells ≤ 0) (hss : slots ≤ 0) (hE : E < 32)
     :
    own_G p.tables e below (own_F s below (fun v h L => v = some (.long (Int64.ofNat (P ^ E))) ∧ Fr Z.heap.size L ∧ h = h0) 0 0) (T0.setTop (mkF m 39 #[.val (.long (Int64.ofNat P)), .second, .val (.int (Int32.ofNat E)), .val (.long (Int64.ofNat (P ^ (E % 2 ^ 2)))), .second, .val (.long (Int64.ofNat (P ^ 2 ^ 1))), .second] [])) := by
  have z0 : Z.heap.size ≤ h0.size := O0.2.1
  have Kr := Keep.refl h0 []
  show own_G _ _ _ _ (T0.setTop (mkF m 39 #[.val (.long (Int64.ofNat P)), .second, .val (.int (Int32.ofNat E)), .val (.long (Int64.ofNat (P ^ (E % 2 ^ 2)))), .second, .val (.long (Int64.ofNat (P ^ 2 ^ 1))), .second] []))
  refine own_st (fun _ k => XS.iloadN X0.here hx rfl (hb hby own_d_m2_39) rfl k) ?_
  show own_G _ _ _ _ (T0.setTop (mkF m 40 #[.val (.long (Int64.ofNat P)), .second, .val (.int (Int32.ofNat E)), .val (.long (Int64.ofNat (P ^ (E % 2 ^ 2)))), .second, .val (.long (Int64.ofNat (P ^ 2 ^ 1))), .second] [(.int (Int32.ofNat E))]))
  refine own_st (fun _ k => XS.iconst X0.here hx rfl (hb hby own_d_m2_40) k) ?_
  show own_G _ _ _ _ (T0.setTop (mkF m 41 #[.val (.long (Int64.ofNat P)), .second, .val (.int (Int32.ofNat E)), .val (.long (Int64.ofNat (P ^ (E % 2 ^ 2)))), .second, .val (.long (Int64.ofNat (P ^ 2 ^ 1))), .second] [(.int (4 : Int32)), (.int (Int32.ofNat E))]))
  by_cases hsm : (Int32.ofNat E) < (4 : Int32)
  · show own_G _ _ _ _ (T0.setTop (mkF m 41 #[.val (.long (Int64.ofNat P)), .second, .val (.int (Int32.ofNat E)), .val (.long (Int64.ofNat (P ^ (E % 2 ^ 2)))), .second, .val (.long (Int64.ofNat (P ^ 2 ^ 1))), .second] [(.int (4 : Int32)), (.int (Int32.ofNat E))]))
    refine own_st (fun _ k => XS.icmpYes X0.here hx rfl (pc0 := 41) (pc' := 112) rfl (hb hby own_d_m2_41) rfl (tlt hsm).1 (by decide) (by decide) k) ?_
    show own_G _ _ _ _ (T0.setTop (mkF m 112 #[.val (.long (Int64.ofNat P)), .second, .val (.int (Int32.ofNat E)), .val (.long (Int64.ofNat (P ^ (E % 2 ^ 2)))), .second, .val (.long (Int64.ofNat (P ^ 2 ^ 1))), .second] []))
    refine own_st (fun _ k => XS.lloadN X0.here hx rfl (hb hby own_d_m2_112) rfl k) ?_
    show own_G _ _ _ _ (T0.setTop (mkF m 113 #[.val (.long (Int64.ofNat P)), .second, .val (.int (Int32.ofNat E)), .val (.long (Int64.ofNat (P ^ (E % 2 ^ 2)))), .second, .val (.long (Int64.ofNat (P ^ 2 ^ 1))), .second] [(.long (Int64.ofNat (P ^ (E % 2 ^ 2))))]))
    exact own_retJ X0 hx hret hlk (hb hby own_d_m2_113) (by rw [e0]; exact ⟨by rw [Nat.mod_eq_of_lt (show E < 2 ^ 2 from own_small hsm rfl hE)], N0, rfl⟩) hcs hss
  · show own_G _ _ _ _ (T0.setTop (mkF m 41 #[.val (.long (Int64.ofNat P)), .second, .val (.int (Int32.ofNat E)), .val (.long (Int64.ofNat (P ^ (E % 2 ^ 2)))), .second, .val (.long (Int64.ofNat (P ^ 2 ^ 1))), .second] [(.int (4 : Int32)), (.int (Int32.ofNat E))]))
    refine own_st (fun _ k => XS.icmpNo X0.here hx rfl (hb hby own_d_m2_41) rfl (flt hsm).1 k) ?_
    show own_G _ _ _ _ (T0.setTop (mkF m 44 #[.val (.long (Int64.ofNat P)), .second, .val (.int (Int32.ofNat E)), .val (.long (Int64.ofNat (P ^ (E % 2 ^ 2)))), .second, .val (.long (Int64.ofNat (P ^ 2 ^ 1))), .second] []))
    refine own_st (fun _ k => XS.lload X0.here hx rfl (hb hby own_d_m2_44) rfl k) ?_
    show own_G _ _ _ _ (T0.setTop (mkF m 46 #[.val (.long (Int64.ofNat P)), .second, .val (.int (Int32.ofNat E)), .val (.long (Int64.ofNat (P ^ (E % 2 ^ 2)))), .second, .val (.long (Int64.ofNat (P ^ 2 ^ 1))), .second] [(.long (Int64.ofNat (P ^ 2 ^ 1)))]))
    refine own_st (fun _ k => XS.lload X0.here hx rfl (hb hby own_d_m2_46) rfl k) ?_
    show own_G _ _ _ _ (T0.setTop (mkF m 48 #[.val (.long (Int64.ofNat P)), .second, .val (.int (Int32.ofNat E)), .val (.long (Int64.ofNat (P ^ (E % 2 ^ 2)))), .second, .val (.long (Int64.ofNat (P ^ 2 ^ 1))), .second] [(.long (Int64.ofNat (P ^ 2 ^ 1))), (.long (Int64.ofNat (P ^ 2 ^ 1)))]))
    refine own_st (fun _ k => XS.lmul X0.here hx rfl (hb hby own_d_m2_48) rfl k) ?_
    show own_G _ _ _ _ (T0.setTop (mkF m 49 #[.val (.long (Int64.ofNat P)), .second, .val (.int (Int32.ofNat E)), .val (.long (Int64.ofNat (P ^ (E % 2 ^ 2)))), .second, .val (.long (Int64.ofNat (P ^ 2 ^ 1))), .second] [(.long ((Int64.ofNat (P ^ 2 ^ 1)) * (Int64.ofNat (P ^ 2 ^ 1))))]))
    refine own_st (fun _ k => XS.lstore X0.here hx rfl (hb hby own_d_m2_49) rfl (l' := #[.val (.long (Int64.ofNat P)), .second, .val (.int (Int32.ofNat E)), .val (.long (Int64.ofNat (P ^ (E % 2 ^ 2)))), .second, .val (.long ((Int64.ofNat (P ^ 2 ^ 1)) * (Int64.ofNat (P ^ 2 ^ 1)))), .second]) rfl k) ?_
    show own_G _ _ _ _ (T0.setTop (mkF m 51 #[.val (.long (Int64.ofNat P)), .second, .val (.int (Int32.ofNat E)), .val (.long (Int64.ofNat (P ^ (E % 2 ^ 2)))), .second, .val (.long ((Int64.ofNat (P ^ 2 ^ 1)) * (Int64.ofNat (P ^ 2 ^ 1)))), .second] []))
    refine own_st (fun _ k => XS.iloadN X0.here hx rfl (hb hby own_d_m2_51) rfl k) ?_
    show own_G _ _ _ _ (T0.setTop (mkF m 52 #[.val (.long (Int64.ofNat P)), .second, .val (.int (Int32.ofNat E)), .val (.long (Int64.ofNat (P ^ (E % 2 ^ 2)))), .second, .val (.long ((Int64.ofNat (P ^ 2 ^ 1)) * (Int64.ofNat (P ^ 2 ^ 1)))), .second] [(.int (Int32.ofNat E))]))
    refine own_st (fun _ k => XS.iconst X0.here hx rfl (hb hby own_d_m2_52) k) ?_
    show own_G _ _ _ _ (T0.setTop (mkF m 53 #[.val (.long (Int64.ofNat P)), .second, .val (.int (Int32.ofNat E)), .val (.long (Int64.ofNat (P ^ (E % 2 ^ 2)))), .second, .val (.long ((Int64.ofNat (P ^ 2 ^ 1)) * (Int64.ofNat (P ^ 2 ^ 1)))), .second] [(.int (4 : Int32)), (.int (Int32.ofNat E))]))
    refine own_st (fun _ k => XS.iand X0.here hx rfl (hb hby own_d_m2_53) rfl k) ?_
    show own_G _ _ _ _ (T0.setTop (mkF m 54 #[.val (.long (Int64.ofNat P)), .second, .val (.int (Int32.ofNat E)), .val (.long (Int64.ofNat (P ^ (E % 2 ^ 2)))), .second, .val (.long ((Int64.ofNat (P ^ 2 ^ 1)) * (Int64.ofNat (P ^ 2 ^ 1)))), .second] [(.int ((Int32.ofNat E) &&& (4 : Int32)))]))
    have hb2 : Int64.ofNat (P ^ 2 ^ 1) * Int64.ofNat (P ^ 2 ^ 1) = Int64.ofNat (P ^ 2 ^ 2) := by rw [own_Lmul, ← Nat.pow_add]
    rw [hb2]
    show own_G _ _ _ _ (T0.setTop (mkF m 54 #[.val (.long (Int64.ofNat P)), .second, .val (.int (Int32.ofNat E)), .val (.long (Int64.ofNat (P ^ (E % 2 ^ 2)))), .second, .val (.long (Int64.ofNat (P ^ 2 ^ 2))), .second] [(.int ((Int32.ofNat E) &&& (4 : Int32)))]))
    by_cases hbit : ((Int32.ofNat E) &&& (4 : Int32)) = (0 : Int32)
    · show own_G _ _ _ _ (T0.setTop (mkF m 54 #[.val (.long (Int64.ofNat P)), .second, .val (.int (Int32.ofNat E)), .val (.long (Int64.ofNat (P ^ (E % 2 ^ 2)))), .second, .val (.long (Int64.ofNat (P ^ 2 ^ 2))), .second] [(.int ((Int32.ofNat E) &&& (4 : Int32)))]))
      refine own_st (fun _ k => XS.ifYes X0.here hx rfl (pc0 := 54) (pc' := 62) rfl (hb hby own_d_m2_54) rfl ((if0 _ _).trans (teq hbit).1) (by decide) (by decide) k) ?_
      show own_G _ _ _ _ (T0.setTop (mkF m 62 #[.val (.long (Int64.ofNat P)), .second, .val (.int (Int32.ofNat E)), .val (.long (Int64.ofNat (P ^ (E % 2 ^ 2)))), .second, .val (.long (Int64.ofNat (P ^ 2 ^ 2))), .second] []))
      have hm : E % 2 ^ 2 = E % 2 ^ 3 := by have := (own_bit hE (show 2 < 5 by decide)).mp hbit; omega
      rw [hm]
      exact own_pow3 P E hx hZ hw hby hml hown X0 e0 N0 O0 hret hlk hcs hss hE
    · show own_G _ _ _ _ (T0.setTop (mkF m 54 #[.val (.long (Int64.ofNat P)), .second, .val (.int (Int32.ofNat E)), .val (.long (Int64.ofNat (P ^ (E % 2 ^ 2)))), .second, .val (.long (Int64.ofNat (P ^ 2 ^ 2))), .second] [(.int ((Int32.ofNat E) &&& (4 : Int32)))]))
      refine own_st (fun _ k => XS.ifNo X0.here hx rfl (hb hby own_d_m2_54) rfl ((if0 _ _).trans (feq hbit).1) k) ?_
      show own_G _ _ _ _ (T0.setTop (mkF m 57 #[.val (.long (Int64.ofNat P)), .second, .val (.int (Int32.ofNat E)), .val (.long (Int64.ofNat (P ^ (E % 2 ^ 2)))), .second, .val (.long (Int64.ofNat (P ^ 2 ^ 2))), .second] []))
      refine own_st (fun _ k => XS.lloadN X0.here hx rfl (hb hby own_d_m2_57) rfl k) ?_
      show own_G _ _ _ _ (T0.setTop (mkF m 58 #[.val (.long (Int64.ofNat P)), .second, .val (.int (Int32.ofNat E)), .val (.long (Int64.ofNat (P ^ (E % 2 ^ 2)))), .second, .val (.long (Int64.ofNat (P ^ 2 ^ 2))), .second] [(.long (Int64.ofNat (P ^ (E % 2 ^ 2))))]))
      refine own_st (fun _ k => XS.lload X0.here hx rfl (hb hby own_d_m2_58) rfl k) ?_
      show own_G _ _ _ _ (T0.setTop (mkF m 60 #[.val (.long (Int64.ofNat P)), .second, .val (.int (Int32.ofNat E)), .val (.long (Int64.ofNat (P ^ (E % 2 ^ 2)))), .second, .val (.long (Int64.ofNat (P ^ 2 ^ 2))), .second] [(.long (Int64.ofNat (P ^ 2 ^ 2))), (.long (Int64.ofNat (P ^ (E % 2 ^ 2))))]))
      refine own_st (fun _ k => XS.lmul X0.here hx rfl (hb hby own_d_m2_60) rfl k) ?_
      show own_G _ _ _ _ (T0.setTop (mkF m 61 #[.val (.long (Int64.ofNat P)), .second, .val (.int (Int32.ofNat E)), .val (.long (Int64.ofNat (P ^ (E % 2 ^ 2)))), .second, .val (.long (Int64.ofNat (P ^ 2 ^ 2))), .second] [(.long ((Int64.ofNat (P ^ (E % 2 ^ 2))) * (Int64.ofNat (P ^ 2 ^ 2))))]))
      refine own_st (fun _ k => XS.lstoreN X0.here hx rfl (hb hby own_d_m2_61) rfl (l' := #[.val (.long (Int64.ofNat P)), .second, .val (.int (Int32.ofNat E)), .val (.long ((Int64.ofNat (P ^ (E % 2 ^ 2))) * (Int64.ofNat (P ^ 2 ^ 2)))), .second, .val (.long (Int64.ofNat (P ^ 2 ^ 2))), .second]) rfl k) ?_
      show own_G _ _ _ _ (T0.setTop (mkF m 62 #[.val (.long (Int64.ofNat P)), .second, .val (.int (Int32.ofNat E)), .val (.long ((Int64.ofNat (P ^ (E % 2 ^ 2))) * (Int64.ofNat (P ^ 2 ^ 2)))), .second, .val (.long (Int64.ofNat (P ^ 2 ^ 2))), .second] []))
      have hm : E % 2 ^ 2 + 2 ^ 2 = E % 2 ^ 3 := by have := mt (own_bit hE (show 2 < 5 by decide)).mpr hbit; omega
      rw [own_Lmul, ← Nat.pow_add, hm]
      exact own_pow3 P E hx hZ hw hby hml hown X0 e0 N0 O0 hret hlk hcs hss hE
theorem own_d_m2_16 : decode method_2_code 16 = .ok (.iload_n 2, 1) := by decide +kernel
theorem own_d_m2_17 : decode method_2_code 17 = .ok (.iconst 2, 1) := by decide +kernel
theorem own_d_m2_18 : decode method_2_code 18 = .ok (.if_icmp .lt 94, 3) := by decide +kernel
theorem own_d_m2_21 : decode method_2_code 21 = .ok (.lload 5, 2) := by decide +kernel
theorem own_d_m2_23 : decode method_2_code 23 = .ok (.lload 5, 2) := by decide +kernel
theorem own_d_m2_25 : decode method_2_code 25 = .ok (.lmul, 1) := by decide +kernel
theorem own_d_m2_26 : decode method_2_code 26 = .ok (.lstore 5, 2) := by decide +kernel
theorem own_d_m2_28 : decode method_2_code 28 = .ok (.iload_n 2, 1) := by decide +kernel
theorem own_d_m2_29 : decode method_2_code 29 = .ok (.iconst 2, 1) := by decide +kernel
theorem own_d_m2_30 : decode method_2_code 30 = .ok (.iand, 1) := by decide +kernel
theorem own_d_m2_31 : decode method_2_code 31 = .ok (.ifCond .eq 8, 3) := by decide +kernel
theorem own_d_m2_34 : decode method_2_code 34 = .ok (.lload_n 3, 1) := by decide +kernel
theorem own_d_m2_35 : decode method_2_code 35 = .ok (.lload 5, 2) := by decide +kernel
theorem own_d_m2_37 : decode method_2_code 37 = .ok (.lmul, 1) := by decide +kernel
theorem own_d_m2_38 : decode method_2_code 38 = .ok (.lstore_n 3, 1) := by decide +kernel
set_option maxRecDepth 65536 in
set_option maxHeartbeats 40000000 in
theorem own_pow1 {p : Program} {l : Launch} {e : Env} {s : State} {m : MethodId} {args : Array Value} {below : List Frame} {meth : Method} {c : Code} {Z : State} {a0 : Array Value} {locs : List Loc} {cells slots : Nat} {T0 : State} {h0 : Heap}  (P E : Nat) (hx : p.tables.exec = Jvm.exec) (hZ : Z.Warmed39 s.vm) (hw : ∀ d ∈ tables_1, d.before a0 Z = true) (hby : c.code = method_2_code) (hml : c.maxLocals = 7) (hown : s.vm.findClass "com/example/libfacet/libfacet/exact/FactorizationOfPinLaw" = some m.cls) (X0 : Stand p l e ({ frames := 0, cells := 0, slots := 0, locals := 0 } : Room) s m args below meth c T0 locs cells slots) (e0 : T0.heap = h0) (N0 : Fr Z.heap.size locs) (O0 : Old Z Z.heap.size h0) (hret : meth.sig.returnType = some .long) (hlk : meth.locks = false) (hcs : cells ≤ 0) (hss : slots ≤ 0) (hE : E < 32)
     :
    own_G p.tables e below (own_F s below (fun v h L => v = some (.long (Int64.ofNat (P ^ E))) ∧ Fr Z.heap.size L ∧ h = h0) 0 0) (T0.setTop (mkF m 16 #[.val (.long (Int64.ofNat P)), .second, .val (.int (Int32.ofNat E)), .val (.long (Int64.ofNat (P ^ (E % 2 ^ 1)))), .second, .val (.long (Int64.ofNat (P ^ 2 ^ 0))), .second] [])) := by
  have z0 : Z.heap.size ≤ h0.size := O0.2.1
  have Kr := Keep.refl h0 []
  show own_G _ _ _ _ (T0.setTop (mkF m 16 #[.val (.long (Int64.ofNat P)), .second, .val (.int (Int32.ofNat E)), .val (.long (Int64.ofNat (P ^ (E % 2 ^ 1)))), .second, .val (.long (Int64.ofNat (P ^ 2 ^ 0))), .second] []))
  refine own_st (fun _ k => XS.iloadN X0.here hx rfl (hb hby own_d_m2_16) rfl k) ?_
  show own_G _ _ _ _ (T0.setTop (mkF m 17 #[.val (.long (Int64.ofNat P)), .second, .val (.int (Int32.ofNat E)), .val (.long (Int64.ofNat (P ^ (E % 2 ^ 1)))), .second, .val (.long (Int64.ofNat (P ^ 2 ^ 0))), .second] [(.int (Int32.ofNat E))]))
  refine own_st (fun _ k => XS.iconst X0.here hx rfl (hb hby own_d_m2_17) k) ?_
  show own_G _ _ _ _ (T0.setTop (mkF m 18 #[.val (.long (Int64.ofNat P)), .second, .val (.int (Int32.ofNat E)), .val (.long (Int64.ofNat (P ^ (E % 2 ^ 1)))), .second, .val (.long (Int64.ofNat (P ^ 2 ^ 0))), .second] [(.int (2 : Int32)), (.int (Int32.ofNat E))]))
  by_cases hsm : (Int32.ofNat E) < (2 : Int32)
  · show own_G _ _ _ _ (T0.setTop (mkF m 18 #[.val (.long (Int64.ofNat P)), .second, .val (.int (Int32.ofNat E)), .val (.long (Int64.ofNat (P ^ (E % 2 ^ 1)))), .second, .val (.long (Int64.ofNat (P ^ 2 ^ 0))), .second] [(.int (2 : Int32)), (.int (Int32.ofNat E))]))
    refine own_st (fun _ k => XS.icmpYes X0.here hx rfl (pc0 := 18) (pc' := 112) rfl (hb hby own_d_m2_18) rfl (tlt hsm).1 (by decide) (by decide) k) ?_
    show own_G _ _ _ _ (T0.setTop (mkF m 112 #[.val (.long (Int64.ofNat P)), .second, .val (.int (Int32.ofNat E)), .val (.long (Int64.ofNat (P ^ (E % 2 ^ 1)))), .second, .val (.long (Int64.ofNat (P ^ 2 ^ 0))), .second] []))
    refine own_st (fun _ k => XS.lloadN X0.here hx rfl (hb hby own_d_m2_112) rfl k) ?_
    show own_G _ _ _ _ (T0.setTop (mkF m 113 #[.val (.long (Int64.ofNat P)), .second, .val (.int (Int32.ofNat E)), .val (.long (Int64.ofNat (P ^ (E % 2 ^ 1)))), .second, .val (.long (Int64.ofNat (P ^ 2 ^ 0))), .second] [(.long (Int64.ofNat (P ^ (E % 2 ^ 1))))]))
    exact own_retJ X0 hx hret hlk (hb hby own_d_m2_113) (by rw [e0]; exact ⟨by rw [Nat.mod_eq_of_lt (show E < 2 ^ 1 from own_small hsm rfl hE)], N0, rfl⟩) hcs hss
  · show own_G _ _ _ _ (T0.setTop (mkF m 18 #[.val (.long (Int64.ofNat P)), .second, .val (.int (Int32.ofNat E)), .val (.long (Int64.ofNat (P ^ (E % 2 ^ 1)))), .second, .val (.long (Int64.ofNat (P ^ 2 ^ 0))), .second] [(.int (2 : Int32)), (.int (Int32.ofNat E))]))
    refine own_st (fun _ k => XS.icmpNo X0.here hx rfl (hb hby own_d_m2_18) rfl (flt hsm).1 k) ?_
    show own_G _ _ _ _ (T0.setTop (mkF m 21 #[.val (.long (Int64.ofNat P)), .second, .val (.int (Int32.ofNat E)), .val (.long (Int64.ofNat (P ^ (E % 2 ^ 1)))), .second, .val (.long (Int64.ofNat (P ^ 2 ^ 0))), .second] []))
    refine own_st (fun _ k => XS.lload X0.here hx rfl (hb hby own_d_m2_21) rfl k) ?_
    show own_G _ _ _ _ (T0.setTop (mkF m 23 #[.val (.long (Int64.ofNat P)), .second, .val (.int (Int32.ofNat E)), .val (.long (Int64.ofNat (P ^ (E % 2 ^ 1)))), .second, .val (.long (Int64.ofNat (P ^ 2 ^ 0))), .second] [(.long (Int64.ofNat (P ^ 2 ^ 0)))]))
    refine own_st (fun _ k => XS.lload X0.here hx rfl (hb hby own_d_m2_23) rfl k) ?_
    show own_G _ _ _ _ (T0.setTop (mkF m 25 #[.val (.long (Int64.ofNat P)), .second, .val (.int (Int32.ofNat E)), .val (.long (Int64.ofNat (P ^ (E % 2 ^ 1)))), .second, .val (.long (Int64.ofNat (P ^ 2 ^ 0))), .second] [(.long (Int64.ofNat (P ^ 2 ^ 0))), (.long (Int64.ofNat (P ^ 2 ^ 0)))]))
    refine own_st (fun _ k => XS.lmul X0.here hx rfl (hb hby own_d_m2_25) rfl k) ?_
    show own_G _ _ _ _ (T0.setTop (mkF m 26 #[.val (.long (Int64.ofNat P)), .second, .val (.int (Int32.ofNat E)), .val (.long (Int64.ofNat (P ^ (E % 2 ^ 1)))), .second, .val (.long (Int64.ofNat (P ^ 2 ^ 0))), .second] [(.long ((Int64.ofNat (P ^ 2 ^ 0)) * (Int64.ofNat (P ^ 2 ^ 0))))]))
    refine own_st (fun _ k => XS.lstore X0.here hx rfl (hb hby own_d_m2_26) rfl (l' := #[.val (.long (Int64.ofNat P)), .second, .val (.int (Int32.ofNat E)), .val (.long (Int64.ofNat (P ^ (E % 2 ^ 1)))), .second, .val (.long ((Int64.ofNat (P ^ 2 ^ 0)) * (Int64.ofNat (P ^ 2 ^ 0)))), .second]) rfl k) ?_
    show own_G _ _ _ _ (T0.setTop (mkF m 28 #[.val (.long (Int64.ofNat P)), .second, .val (.int (Int32.ofNat E)), .val (.long (Int64.ofNat (P ^ (E % 2 ^ 1)))), .second, .val (.long ((Int64.ofNat (P ^ 2 ^ 0)) * (Int64.ofNat (P ^ 2 ^ 0)))), .second] []))
    refine own_st (fun _ k => XS.iloadN X0.here hx rfl (hb hby own_d_m2_28) rfl k) ?_
    show own_G _ _ _ _ (T0.setTop (mkF m 29 #[.val (.long (Int64.ofNat P)), .second, .val (.int (Int32.ofNat E)), .val (.long (Int64.ofNat (P ^ (E % 2 ^ 1)))), .second, .val (.long ((Int64.ofNat (P ^ 2 ^ 0)) * (Int64.ofNat (P ^ 2 ^ 0)))), .second] [(.int (Int32.ofNat E))]))
    refine own_st (fun _ k => XS.iconst X0.here hx rfl (hb hby own_d_m2_29) k) ?_
    show own_G _ _ _ _ (T0.setTop (mkF m 30 #[.val (.long (Int64.ofNat P)), .second, .val (.int (Int32.ofNat E)), .val (.long (Int64.ofNat (P ^ (E % 2 ^ 1)))), .second, .val (.long ((Int64.ofNat (P ^ 2 ^ 0)) * (Int64.ofNat (P ^ 2 ^ 0)))), .second] [(.int (2 : Int32)), (.int (Int32.ofNat E))]))
    refine own_st (fun _ k => XS.iand X0.here hx rfl (hb hby own_d_m2_30) rfl k) ?_
    show own_G _ _ _ _ (T0.setTop (mkF m 31 #[.val (.long (Int64.ofNat P)), .second, .val (.int (Int32.ofNat E)), .val (.long (Int64.ofNat (P ^ (E % 2 ^ 1)))), .second, .val (.long ((Int64.ofNat (P ^ 2 ^ 0)) * (Int64.ofNat (P ^ 2 ^ 0)))), .second] [(.int ((Int32.ofNat E) &&& (2 : Int32)))]))
    have hb2 : Int64.ofNat (P ^ 2 ^ 0) * Int64.ofNat (P ^ 2 ^ 0) = Int64.ofNat (P ^ 2 ^ 1) := by rw [own_Lmul, ← Nat.pow_add]
    rw [hb2]
    show own_G _ _ _ _ (T0.setTop (mkF m 31 #[.val (.long (Int64.ofNat P)), .second, .val (.int (Int32.ofNat E)), .val (.long (Int64.ofNat (P ^ (E % 2 ^ 1)))), .second, .val (.long (Int64.ofNat (P ^ 2 ^ 1))), .second] [(.int ((Int32.ofNat E) &&& (2 : Int32)))]))
    by_cases hbit : ((Int32.ofNat E) &&& (2 : Int32)) = (0 : Int32)
    · show own_G _ _ _ _ (T0.setTop (mkF m 31 #[.val (.long (Int64.ofNat P)), .second, .val (.int (Int32.ofNat E)), .val (.long (Int64.ofNat (P ^ (E % 2 ^ 1)))), .second, .val (.long (Int64.ofNat (P ^ 2 ^ 1))), .second] [(.int ((Int32.ofNat E) &&& (2 : Int32)))]))
      refine own_st (fun _ k => XS.ifYes X0.here hx rfl (pc0 := 31) (pc' := 39) rfl (hb hby own_d_m2_31) rfl ((if0 _ _).trans (teq hbit).1) (by decide) (by decide) k) ?_
      show own_G _ _ _ _ (T0.setTop (mkF m 39 #[.val (.long (Int64.ofNat P)), .second, .val (.int (Int32.ofNat E)), .val (.long (Int64.ofNat (P ^ (E % 2 ^ 1)))), .second, .val (.long (Int64.ofNat (P ^ 2 ^ 1))), .second] []))
      have hm : E % 2 ^ 1 = E % 2 ^ 2 := by have := (own_bit hE (show 1 < 5 by decide)).mp hbit; omega
      rw [hm]
      exact own_pow2 P E hx hZ hw hby hml hown X0 e0 N0 O0 hret hlk hcs hss hE
    · show own_G _ _ _ _ (T0.setTop (mkF m 31 #[.val (.long (Int64.ofNat P)), .second, .val (.int (Int32.ofNat E)), .val (.long (Int64.ofNat (P ^ (E % 2 ^ 1)))), .second, .val (.long (Int64.ofNat (P ^ 2 ^ 1))), .second] [(.int ((Int32.ofNat E) &&& (2 : Int32)))]))
      refine own_st (fun _ k => XS.ifNo X0.here hx rfl (hb hby own_d_m2_31) rfl ((if0 _ _).trans (feq hbit).1) k) ?_
      show own_G _ _ _ _ (T0.setTop (mkF m 34 #[.val (.long (Int64.ofNat P)), .second, .val (.int (Int32.ofNat E)), .val (.long (Int64.ofNat (P ^ (E % 2 ^ 1)))), .second, .val (.long (Int64.ofNat (P ^ 2 ^ 1))), .second] []))
      refine own_st (fun _ k => XS.lloadN X0.here hx rfl (hb hby own_d_m2_34) rfl k) ?_
      show own_G _ _ _ _ (T0.setTop (mkF m 35 #[.val (.long (Int64.ofNat P)), .second, .val (.int (Int32.ofNat E)), .val (.long (Int64.ofNat (P ^ (E % 2 ^ 1)))), .second, .val (.long (Int64.ofNat (P ^ 2 ^ 1))), .second] [(.long (Int64.ofNat (P ^ (E % 2 ^ 1))))]))
      refine own_st (fun _ k => XS.lload X0.here hx rfl (hb hby own_d_m2_35) rfl k) ?_
      show own_G _ _ _ _ (T0.setTop (mkF m 37 #[.val (.long (Int64.ofNat P)), .second, .val (.int (Int32.ofNat E)), .val (.long (Int64.ofNat (P ^ (E % 2 ^ 1)))), .second, .val (.long (Int64.ofNat (P ^ 2 ^ 1))), .second] [(.long (Int64.ofNat (P ^ 2 ^ 1))), (.long (Int64.ofNat (P ^ (E % 2 ^ 1))))]))
      refine own_st (fun _ k => XS.lmul X0.here hx rfl (hb hby own_d_m2_37) rfl k) ?_
      show own_G _ _ _ _ (T0.setTop (mkF m 38 #[.val (.long (Int64.ofNat P)), .second, .val (.int (Int32.ofNat E)), .val (.long (Int64.ofNat (P ^ (E % 2 ^ 1)))), .second, .val (.long (Int64.ofNat (P ^ 2 ^ 1))), .second] [(.long ((Int64.ofNat (P ^ (E % 2 ^ 1))) * (Int64.ofNat (P ^ 2 ^ 1))))]))
      refine own_st (fun _ k => XS.lstoreN X0.here hx rfl (hb hby own_d_m2_38) rfl (l' := #[.val (.long (Int64.ofNat P)), .second, .val (.int (Int32.ofNat E)), .val (.long ((Int64.ofNat (P ^ (E % 2 ^ 1))) * (Int64.ofNat (P ^ 2 ^ 1)))), .second, .val (.long (Int64.ofNat (P ^ 2 ^ 1))), .second]) rfl k) ?_
      show own_G _ _ _ _ (T0.setTop (mkF m 39 #[.val (.long (Int64.ofNat P)), .second, .val (.int (Int32.ofNat E)), .val (.long ((Int64.ofNat (P ^ (E % 2 ^ 1))) * (Int64.ofNat (P ^ 2 ^ 1)))), .second, .val (.long (Int64.ofNat (P ^ 2 ^ 1))), .second] []))
      have hm : E % 2 ^ 1 + 2 ^ 1 = E % 2 ^ 2 := by have := mt (own_bit hE (show 1 < 5 by decide)).mpr hbit; omega
      rw [own_Lmul, ← Nat.pow_add, hm]
      exact own_pow2 P E hx hZ hw hby hml hown X0 e0 N0 O0 hret hlk hcs hss hE
theorem own_pn62 : plainName "com/example/libfacet/libfacet/exact/FactorizationOfPinLaw" = true := by first | (simp [plainName, overriddenIn]; done) | decide +kernel
theorem own_d_m2_0 : decode method_2_code 0 = .ok (.lconst 1, 1) := by decide +kernel
theorem own_d_m2_1 : decode method_2_code 1 = .ok (.lstore_n 3, 1) := by decide +kernel
theorem own_d_m2_2 : decode method_2_code 2 = .ok (.lload_n 0, 1) := by decide +kernel
theorem own_d_m2_3 : decode method_2_code 3 = .ok (.lstore 5, 2) := by decide +kernel
theorem own_d_m2_5 : decode method_2_code 5 = .ok (.iload_n 2, 1) := by decide +kernel
theorem own_d_m2_6 : decode method_2_code 6 = .ok (.iconst 1, 1) := by decide +kernel
theorem own_d_m2_7 : decode method_2_code 7 = .ok (.iand, 1) := by decide +kernel
theorem own_d_m2_8 : decode method_2_code 8 = .ok (.ifCond .eq 8, 3) := by decide +kernel
theorem own_d_m2_11 : decode method_2_code 11 = .ok (.lload_n 3, 1) := by decide +kernel
theorem own_d_m2_12 : decode method_2_code 12 = .ok (.lload 5, 2) := by decide +kernel
theorem own_d_m2_14 : decode method_2_code 14 = .ok (.lmul, 1) := by decide +kernel
theorem own_d_m2_15 : decode method_2_code 15 = .ok (.lstore_n 3, 1) := by decide +kernel
set_option maxRecDepth 65536 in
set_option maxHeartbeats 40000000 in
theorem own_pow (l : Launch) (Z : State) (a0 : Array Value) (hw : ∀ d ∈ tables_1, d.before a0 Z = true) (ws : List Jvm.Cond)  (P E : Nat) (h0 : Heap) (O0 : Old Z Z.heap.size h0) (hE : E < 32) :
    own_Met l Z (⟨"com/example/libfacet/libfacet/exact/FactorizationOfPinLaw", "pow", "(JI)J"⟩ : MethodName) method_2_code 7 (some .long) ws ({ frames := 0, cells := 0, slots := 0, locals := 0 } : Room) #[(.long (Int64.ofNat P)), (.int (Int32.ofNat E))] h0 (fun v h L => v = some (.long (Int64.ofNat (P ^ E))) ∧ Fr Z.heap.size L ∧ h = h0) (({ frames := 0, cells := 0, slots := 0, locals := 0 } : Room)).cells (({ frames := 0, cells := 0, slots := 0, locals := 0 } : Room)).slots := by
  refine own_body (ef := fun m => mkF m 0 #[.val (.long (Int64.ofNat P)), .second, .val (.int (Int32.ofNat E)), .unset, .unset, .unset, .unset] []) (plainFor_of_name own_pn62) (fun m => by first | (simp [entryFrame, mkF, argsToLocals, Value.category]; done) | rfl) ?_
  intro p e s m below meth c T0 hx hZ hby hml hown hnm hret hlk X0 e0
  have N0 := Fr.nil Z.heap.size
  have z0 : Z.heap.size ≤ h0.size := O0.2.1
  have Kr := Keep.refl h0 []
  show own_G _ _ _ _ (T0.setTop (mkF m 0 #[.val (.long (Int64.ofNat P)), .second, .val (.int (Int32.ofNat E)), .unset, .unset, .unset, .unset] []))
  refine own_st (fun _ k => XS.lconst X0.here hx rfl (hb hby own_d_m2_0) k) ?_
  show own_G _ _ _ _ (T0.setTop (mkF m 1 #[.val (.long (Int64.ofNat P)), .second, .val (.int (Int32.ofNat E)), .unset, .unset, .unset, .unset] [(.long (1 : Int64))]))
  refine own_st (fun _ k => XS.lstoreN X0.here hx rfl (hb hby own_d_m2_1) rfl (l' := #[.val (.long (Int64.ofNat P)), .second, .val (.int (Int32.ofNat E)), .val (.long (1 : Int64)), .second, .unset, .unset]) rfl k) ?_
  show own_G _ _ _ _ (T0.setTop (mkF m 2 #[.val (.long (Int64.ofNat P)), .second, .val (.int (Int32.ofNat E)), .val (.long (1 : Int64)), .second, .unset, .unset] []))
  refine own_st (fun _ k => XS.lloadN X0.here hx rfl (hb hby own_d_m2_2) rfl k) ?_
  show own_G _ _ _ _ (T0.setTop (mkF m 3 #[.val (.long (Int64.ofNat P)), .second, .val (.int (Int32.ofNat E)), .val (.long (1 : Int64)), .second, .unset, .unset] [(.long (Int64.ofNat P))]))
  refine own_st (fun _ k => XS.lstore X0.here hx rfl (hb hby own_d_m2_3) rfl (l' := #[.val (.long (Int64.ofNat P)), .second, .val (.int (Int32.ofNat E)), .val (.long (1 : Int64)), .second, .val (.long (Int64.ofNat P)), .second]) rfl k) ?_
  show own_G _ _ _ _ (T0.setTop (mkF m 5 #[.val (.long (Int64.ofNat P)), .second, .val (.int (Int32.ofNat E)), .val (.long (1 : Int64)), .second, .val (.long (Int64.ofNat P)), .second] []))
  refine own_st (fun _ k => XS.iloadN X0.here hx rfl (hb hby own_d_m2_5) rfl k) ?_
  show own_G _ _ _ _ (T0.setTop (mkF m 6 #[.val (.long (Int64.ofNat P)), .second, .val (.int (Int32.ofNat E)), .val (.long (1 : Int64)), .second, .val (.long (Int64.ofNat P)), .second] [(.int (Int32.ofNat E))]))
  refine own_st (fun _ k => XS.iconst X0.here hx rfl (hb hby own_d_m2_6) k) ?_
  show own_G _ _ _ _ (T0.setTop (mkF m 7 #[.val (.long (Int64.ofNat P)), .second, .val (.int (Int32.ofNat E)), .val (.long (1 : Int64)), .second, .val (.long (Int64.ofNat P)), .second] [(.int (1 : Int32)), (.int (Int32.ofNat E))]))
  refine own_st (fun _ k => XS.iand X0.here hx rfl (hb hby own_d_m2_7) rfl k) ?_
  show own_G _ _ _ _ (T0.setTop (mkF m 8 #[.val (.long (Int64.ofNat P)), .second, .val (.int (Int32.ofNat E)), .val (.long (1 : Int64)), .second, .val (.long (Int64.ofNat P)), .second] [(.int ((Int32.ofNat E) &&& (1 : Int32)))]))
  by_cases hbit : ((Int32.ofNat E) &&& (1 : Int32)) = (0 : Int32)
  · show own_G _ _ _ _ (T0.setTop (mkF m 8 #[.val (.long (Int64.ofNat P)), .second, .val (.int (Int32.ofNat E)), .val (.long (1 : Int64)), .second, .val (.long (Int64.ofNat P)), .second] [(.int ((Int32.ofNat E) &&& (1 : Int32)))]))
    refine own_st (fun _ k => XS.ifYes X0.here hx rfl (pc0 := 8) (pc' := 16) rfl (hb hby own_d_m2_8) rfl ((if0 _ _).trans (teq hbit).1) (by decide) (by decide) k) ?_
    show own_G _ _ _ _ (T0.setTop (mkF m 16 #[.val (.long (Int64.ofNat P)), .second, .val (.int (Int32.ofNat E)), .val (.long (1 : Int64)), .second, .val (.long (Int64.ofNat P)), .second] []))
    have hm : E % 2 ^ 1 = 0 := by have := (own_bit (k := 0) hE (by decide)).mp hbit; omega
    have q := own_pow1 P E hx hZ hw hby hml hown X0 e0 N0 O0 hret hlk (Nat.le_refl _) (Nat.le_refl _) hE
    rw [hm, Nat.pow_zero P, Nat.pow_zero 2, Nat.pow_one P] at q
    exact q
  · show own_G _ _ _ _ (T0.setTop (mkF m 8 #[.val (.long (Int64.ofNat P)), .second, .val (.int (Int32.ofNat E)), .val (.long (1 : Int64)), .second, .val (.long (Int64.ofNat P)), .second] [(.int ((Int32.ofNat E) &&& (1 : Int32)))]))
    refine own_st (fun _ k => XS.ifNo X0.here hx rfl (hb hby own_d_m2_8) rfl ((if0 _ _).trans (feq hbit).1) k) ?_
    show own_G _ _ _ _ (T0.setTop (mkF m 11 #[.val (.long (Int64.ofNat P)), .second, .val (.int (Int32.ofNat E)), .val (.long (1 : Int64)), .second, .val (.long (Int64.ofNat P)), .second] []))
    refine own_st (fun _ k => XS.lloadN X0.here hx rfl (hb hby own_d_m2_11) rfl k) ?_
    show own_G _ _ _ _ (T0.setTop (mkF m 12 #[.val (.long (Int64.ofNat P)), .second, .val (.int (Int32.ofNat E)), .val (.long (1 : Int64)), .second, .val (.long (Int64.ofNat P)), .second] [(.long (1 : Int64))]))
    refine own_st (fun _ k => XS.lload X0.here hx rfl (hb hby own_d_m2_12) rfl k) ?_
    show own_G _ _ _ _ (T0.setTop (mkF m 14 #[.val (.long (Int64.ofNat P)), .second, .val (.int (Int32.ofNat E)), .val (.long (1 : Int64)), .second, .val (.long (Int64.ofNat P)), .second] [(.long (Int64.ofNat P)), (.long (1 : Int64))]))
    refine own_st (fun _ k => XS.lmul X0.here hx rfl (hb hby own_d_m2_14) rfl k) ?_
    show own_G _ _ _ _ (T0.setTop (mkF m 15 #[.val (.long (Int64.ofNat P)), .second, .val (.int (Int32.ofNat E)), .val (.long (1 : Int64)), .second, .val (.long (Int64.ofNat P)), .second] [(.long ((1 : Int64) * (Int64.ofNat P)))]))
    refine own_st (fun _ k => XS.lstoreN X0.here hx rfl (hb hby own_d_m2_15) rfl (l' := #[.val (.long (Int64.ofNat P)), .second, .val (.int (Int32.ofNat E)), .val (.long ((1 : Int64) * (Int64.ofNat P))), .second, .val (.long (Int64.ofNat P)), .second]) rfl k) ?_
    show own_G _ _ _ _ (T0.setTop (mkF m 16 #[.val (.long (Int64.ofNat P)), .second, .val (.int (Int32.ofNat E)), .val (.long ((1 : Int64) * (Int64.ofNat P))), .second, .val (.long (Int64.ofNat P)), .second] []))
    have hm : E % 2 ^ 1 = 1 := by have := mt (own_bit (k := 0) hE (by decide)).mpr hbit; omega
    have q := own_pow1 P E hx hZ hw hby hml hown X0 e0 N0 O0 hret hlk (Nat.le_refl _) (Nat.le_refl _) hE
    rw [hm, Nat.pow_zero 2, Nat.pow_one P] at q
    rw [Int64.one_mul]
    exact q
def own_sat (n : Nat) : Nat := if 2147483647 < n then 2147483648 else n
theorem own_cmpL {n m : Nat} (hn : n < 9223372036854775808) (hm : m < 9223372036854775808) : (0 : Int32) < lcmpW (Int64.ofNat n) (Int64.ofNat m) ↔ m < n := by
  rw [lw_gt, Int64.lt_iff_toInt_lt, own_L hn, own_L hm]
  omega
theorem own_d_m3_0 : decode method_3_code 0 = .ok (.lload_n 0, 1) := by decide +kernel
theorem own_d_m3_1 : decode method_3_code 1 = .ok (.lload_n 2, 1) := by decide +kernel
theorem own_d_m3_2 : decode method_3_code 2 = .ok (.lmul, 1) := by decide +kernel
theorem own_d_m3_3 : decode method_3_code 3 = .ok (.lstore 4, 2) := by decide +kernel
theorem own_d_m3_5 : decode method_3_code 5 = .ok (.lload 4, 2) := by decide +kernel
theorem own_d_m3_7 : decode method_3_code 7 = .ok (.ldc2_w 7, 3) := by decide +kernel
theorem own_d_m3_10 : decode method_3_code 10 = .ok (.lcmp, 1) := by decide +kernel
theorem own_d_m3_11 : decode method_3_code 11 = .ok (.ifCond .le 9, 3) := by decide +kernel
theorem own_d_m3_14 : decode method_3_code 14 = .ok (.ldc2_w 9, 3) := by decide +kernel
theorem own_d_m3_17 : decode method_3_code 17 = .ok (.goto 5, 3) := by decide +kernel
theorem own_d_m3_22 : decode method_3_code 22 = .ok (.lreturn, 1) := by decide +kernel
theorem own_d_m3_20 : decode method_3_code 20 = .ok (.lload 4, 2) := by decide +kernel
set_option maxRecDepth 65536 in
set_option maxHeartbeats 40000000 in
theorem own_mul (l : Launch) (Z : State) (a0 : Array Value) (hw : ∀ d ∈ tables_1, d.before a0 Z = true) (ws : List Jvm.Cond)  (X Y : Nat) (h0 : Heap) (O0 : Old Z Z.heap.size h0) (hX : X ≤ 2147483648) (hY : Y ≤ 2147483648) :
    own_Met l Z (⟨"com/example/libfacet/libfacet/exact/FactorizationOfPinLaw", "mul", "(JJ)J"⟩ : MethodName) method_3_code 6 (some .long) ws ({ frames := 0, cells := 0, slots := 0, locals := 0 } : Room) #[(.long (Int64.ofNat X)), (.long (Int64.ofNat Y))] h0 (fun v h L => v = some (.long (Int64.ofNat (own_sat (X * Y)))) ∧ Fr Z.heap.size L ∧ h = h0) (({ frames := 0, cells := 0, slots := 0, locals := 0 } : Room)).cells (({ frames := 0, cells := 0, slots := 0, locals := 0 } : Room)).slots := by
  refine own_body (ef := fun m => mkF m 0 #[.val (.long (Int64.ofNat X)), .second, .val (.long (Int64.ofNat Y)), .second, .unset, .unset] []) (plainFor_of_name own_pn62) (fun m => by first | (simp [entryFrame, mkF, argsToLocals, Value.category]; done) | rfl) ?_
  intro p e s m below meth c T0 hx hZ hby hml hown hnm hret hlk X0 e0
  have N0 := Fr.nil Z.heap.size
  have z0 : Z.heap.size ≤ h0.size := O0.2.1
  have Kr := Keep.refl h0 []
  show own_G _ _ _ _ (T0.setTop (mkF m 0 #[.val (.long (Int64.ofNat X)), .second, .val (.long (Int64.ofNat Y)), .second, .unset, .unset] []))
  have hXY : X * Y < 9223372036854775808 := by have := Nat.mul_le_mul hX hY; omega
  refine own_st (fun _ k => XS.lloadN X0.here hx rfl (hb hby own_d_m3_0) rfl k) ?_
  show own_G _ _ _ _ (T0.setTop (mkF m 1 #[.val (.long (Int64.ofNat X)), .second, .val (.long (Int64.ofNat Y)), .second, .unset, .unset] [(.long (Int64.ofNat X))]))
  refine own_st (fun _ k => XS.lloadN X0.here hx rfl (hb hby own_d_m3_1) rfl k) ?_
  show own_G _ _ _ _ (T0.setTop (mkF m 2 #[.val (.long (Int64.ofNat X)), .second, .val (.long (Int64.ofNat Y)), .second, .unset, .unset] [(.long (Int64.ofNat Y)), (.long (Int64.ofNat X))]))
  refine own_st (fun _ k => XS.lmul X0.here hx rfl (hb hby own_d_m3_2) rfl k) ?_
  show own_G _ _ _ _ (T0.setTop (mkF m 3 #[.val (.long (Int64.ofNat X)), .second, .val (.long (Int64.ofNat Y)), .second, .unset, .unset] [(.long ((Int64.ofNat X) * (Int64.ofNat Y)))]))
  rw [own_Lmul]
  show own_G _ _ _ _ (T0.setTop (mkF m 3 #[.val (.long (Int64.ofNat X)), .second, .val (.long (Int64.ofNat Y)), .second, .unset, .unset] [(.long (Int64.ofNat (X * Y)))]))
  refine own_st (fun _ k => XS.lstore X0.here hx rfl (hb hby own_d_m3_3) rfl (l' := #[.val (.long (Int64.ofNat X)), .second, .val (.long (Int64.ofNat Y)), .second, .val (.long (Int64.ofNat (X * Y))), .second]) rfl k) ?_
  show own_G _ _ _ _ (T0.setTop (mkF m 5 #[.val (.long (Int64.ofNat X)), .second, .val (.long (Int64.ofNat Y)), .second, .val (.long (Int64.ofNat (X * Y))), .second] []))
  refine own_st (fun _ k => XS.lload X0.here hx rfl (hb hby own_d_m3_5) rfl k) ?_
  show own_G _ _ _ _ (T0.setTop (mkF m 7 #[.val (.long (Int64.ofNat X)), .second, .val (.long (Int64.ofNat Y)), .second, .val (.long (Int64.ofNat (X * Y))), .second] [(.long (Int64.ofNat (X * Y)))]))
  refine own_st (X0.ldc2Long hx hown (mvT hZ (hw _ (List.mem_of_getElem? (i := 13) rfl))) (g := (mkF m 7 #[.val (.long (Int64.ofNat X)), .second, .val (.long (Int64.ofNat Y)), .second, .val (.long (Int64.ofNat (X * Y))), .second] [(.long (Int64.ofNat (X * Y)))])) rfl (hb hby own_d_m3_7)) ?_
  show own_G _ _ _ _ (T0.setTop (mkF m 10 #[.val (.long (Int64.ofNat X)), .second, .val (.long (Int64.ofNat Y)), .second, .val (.long (Int64.ofNat (X * Y))), .second] [(.long (2147483647 : Int64)), (.long (Int64.ofNat (X * Y)))]))
  refine own_st (fun _ k => XS.lcmp X0.here hx rfl (hb hby own_d_m3_10) rfl k) ?_
  show own_G _ _ _ _ (T0.setTop (mkF m 11 #[.val (.long (Int64.ofNat X)), .second, .val (.long (Int64.ofNat Y)), .second, .val (.long (Int64.ofNat (X * Y))), .second] [(.int (lcmpW (Int64.ofNat (X * Y)) (2147483647 : Int64)))]))
  by_cases hgt : (0 : Int32) < (lcmpW (Int64.ofNat (X * Y)) (2147483647 : Int64))
  · show own_G _ _ _ _ (T0.setTop (mkF m 11 #[.val (.long (Int64.ofNat X)), .second, .val (.long (Int64.ofNat Y)), .second, .val (.long (Int64.ofNat (X * Y))), .second] [(.int (lcmpW (Int64.ofNat (X * Y)) (2147483647 : Int64)))]))
    refine own_st (fun _ k => XS.ifNo X0.here hx rfl (hb hby own_d_m3_11) rfl ((if0 _ _).trans (tlt hgt).2.2.2) k) ?_
    show own_G _ _ _ _ (T0.setTop (mkF m 14 #[.val (.long (Int64.ofNat X)), .second, .val (.long (Int64.ofNat Y)), .second, .val (.long (Int64.ofNat (X * Y))), .second] []))
    refine own_st (X0.ldc2Long hx hown (mvT hZ (hw _ (List.mem_of_getElem? (i := 78) rfl))) (g := (mkF m 14 #[.val (.long (Int64.ofNat X)), .second, .val (.long (Int64.ofNat Y)), .second, .val (.long (Int64.ofNat (X * Y))), .second] [])) rfl (hb hby own_d_m3_14)) ?_
    show own_G _ _ _ _ (T0.setTop (mkF m 17 #[.val (.long (Int64.ofNat X)), .second, .val (.long (Int64.ofNat Y)), .second, .val (.long (Int64.ofNat (X * Y))), .second] [(.long (2147483648 : Int64))]))
    refine own_st (fun _ k => XS.goto X0.here hx rfl (pc0 := 17) (pc' := 22) rfl (hb hby own_d_m3_17) (by decide) (by decide) k) ?_
    show own_G _ _ _ _ (T0.setTop (mkF m 22 #[.val (.long (Int64.ofNat X)), .second, .val (.long (Int64.ofNat Y)), .second, .val (.long (Int64.ofNat (X * Y))), .second] [(.long (2147483648 : Int64))]))
    exact own_retJ X0 hx hret hlk (hb hby own_d_m3_22) (by rw [e0]; exact ⟨by unfold own_sat; rw [if_pos ((own_cmpL (m := 2147483647) hXY (by decide)).mp hgt)]; rfl, N0, rfl⟩) (by decide) (by decide)
  · show own_G _ _ _ _ (T0.setTop (mkF m 11 #[.val (.long (Int64.ofNat X)), .second, .val (.long (Int64.ofNat Y)), .second, .val (.long (Int64.ofNat (X * Y))), .second] [(.int (lcmpW (Int64.ofNat (X * Y)) (2147483647 : Int64)))]))
    refine own_st (fun _ k => XS.ifYes X0.here hx rfl (pc0 := 11) (pc' := 20) rfl (hb hby own_d_m3_11) rfl ((if0 _ _).trans (flt hgt).2.2.2) (by decide) (by decide) k) ?_
    show own_G _ _ _ _ (T0.setTop (mkF m 20 #[.val (.long (Int64.ofNat X)), .second, .val (.long (Int64.ofNat Y)), .second, .val (.long (Int64.ofNat (X * Y))), .second] []))
    refine own_st (fun _ k => XS.lload X0.here hx rfl (hb hby own_d_m3_20) rfl k) ?_
    show own_G _ _ _ _ (T0.setTop (mkF m 22 #[.val (.long (Int64.ofNat X)), .second, .val (.long (Int64.ofNat Y)), .second, .val (.long (Int64.ofNat (X * Y))), .second] [(.long (Int64.ofNat (X * Y)))]))
    exact own_retJ X0 hx hret hlk (hb hby own_d_m3_22) (by rw [e0]; exact ⟨by unfold own_sat; rw [if_neg (mt (own_cmpL (m := 2147483647) hXY (by decide)).mpr hgt)], N0, rfl⟩) (by decide) (by decide)
theorem own_pn87 : plainFor (⟨"java/lang/Math", "min", "(II)I"⟩ : MethodName) = true := by decide +kernel
theorem own_d_jdk_29_m69_0 : decode jdk_29_method_69_code 0 = .ok (.iload_n 0, 1) := by decide +kernel
theorem own_d_jdk_29_m69_1 : decode jdk_29_method_69_code 1 = .ok (.iload_n 1, 1) := by decide +kernel
theorem own_d_jdk_29_m69_2 : decode jdk_29_method_69_code 2 = .ok (.if_icmp .gt 7, 3) := by decide +kernel
theorem own_d_jdk_29_m69_9 : decode jdk_29_method_69_code 9 = .ok (.iload_n 1, 1) := by decide +kernel
theorem own_d_jdk_29_m69_10 : decode jdk_29_method_69_code 10 = .ok (.ireturn, 1) := by decide +kernel
theorem own_d_jdk_29_m69_5 : decode jdk_29_method_69_code 5 = .ok (.iload_n 0, 1) := by decide +kernel
theorem own_d_jdk_29_m69_6 : decode jdk_29_method_69_code 6 = .ok (.goto 4, 3) := by decide +kernel
set_option maxRecDepth 65536 in
set_option maxHeartbeats 40000000 in
theorem own_min (l : Launch) (Z : State) (a0 : Array Value) (hw : ∀ d ∈ tables_1, d.before a0 Z = true) (ws : List Jvm.Cond)  (a b : Nat) (h0 : Heap) (O0 : Old Z Z.heap.size h0) (hba : b ≤ a) (ha : a ≤ 1000) :
    own_Met l Z (⟨"java/lang/Math", "min", "(II)I"⟩ : MethodName) jdk_29_method_69_code 2 (some .int) ws ({ frames := 0, cells := 0, slots := 0, locals := 0 } : Room) #[(.int (Int32.ofNat a)), (.int (Int32.ofNat b))] h0 (fun v h L => v = some (.int (Int32.ofNat b)) ∧ Fr Z.heap.size L ∧ h = h0) (({ frames := 0, cells := 0, slots := 0, locals := 0 } : Room)).cells (({ frames := 0, cells := 0, slots := 0, locals := 0 } : Room)).slots := by
  refine own_body (ef := fun m => mkF m 0 #[.val (.int (Int32.ofNat a)), .val (.int (Int32.ofNat b))] []) own_pn87 (fun m => by first | (simp [entryFrame, mkF, argsToLocals, Value.category]; done) | rfl) ?_
  intro p e s m below meth c T0 hx hZ hby hml hown hnm hret hlk X0 e0
  have N0 := Fr.nil Z.heap.size
  have z0 : Z.heap.size ≤ h0.size := O0.2.1
  have Kr := Keep.refl h0 []
  show own_G _ _ _ _ (T0.setTop (mkF m 0 #[.val (.int (Int32.ofNat a)), .val (.int (Int32.ofNat b))] []))
  refine own_st (fun _ k => XS.iloadN X0.here hx rfl (hb hby own_d_jdk_29_m69_0) rfl k) ?_
  show own_G _ _ _ _ (T0.setTop (mkF m 1 #[.val (.int (Int32.ofNat a)), .val (.int (Int32.ofNat b))] [(.int (Int32.ofNat a))]))
  refine own_st (fun _ k => XS.iloadN X0.here hx rfl (hb hby own_d_jdk_29_m69_1) rfl k) ?_
  show own_G _ _ _ _ (T0.setTop (mkF m 2 #[.val (.int (Int32.ofNat a)), .val (.int (Int32.ofNat b))] [(.int (Int32.ofNat b)), (.int (Int32.ofNat a))]))
  by_cases hab : b < a
  · skip
    refine own_st (fun _ k => XS.icmpYes X0.here hx rfl (pc0 := 2) (pc' := 9) rfl (hb hby own_d_jdk_29_m69_2) rfl (tlt (own_lt hab (by omega))).2.2.1 (by decide) (by decide) k) ?_
    show own_G _ _ _ _ (T0.setTop (mkF m 9 #[.val (.int (Int32.ofNat a)), .val (.int (Int32.ofNat b))] []))
    refine own_st (fun _ k => XS.iloadN X0.here hx rfl (hb hby own_d_jdk_29_m69_9) rfl k) ?_
    show own_G _ _ _ _ (T0.setTop (mkF m 10 #[.val (.int (Int32.ofNat a)), .val (.int (Int32.ofNat b))] [(.int (Int32.ofNat b))]))
    exact own_retI X0 hx hret hlk (hb hby own_d_jdk_29_m69_10) (by rw [e0]; exact ⟨rfl, N0, rfl⟩) (by decide) (by decide)
  · skip
    refine own_st (fun _ k => XS.icmpNo X0.here hx rfl (hb hby own_d_jdk_29_m69_2) rfl (flt (by rw [Int32.lt_iff_toInt_lt, own_nat (by omega), own_nat (by omega)]; omega)).2.2.1 k) ?_
    show own_G _ _ _ _ (T0.setTop (mkF m 5 #[.val (.int (Int32.ofNat a)), .val (.int (Int32.ofNat b))] []))
    refine own_st (fun _ k => XS.iloadN X0.here hx rfl (hb hby own_d_jdk_29_m69_5) rfl k) ?_
    show own_G _ _ _ _ (T0.setTop (mkF m 6 #[.val (.int (Int32.ofNat a)), .val (.int (Int32.ofNat b))] [(.int (Int32.ofNat a))]))
    refine own_st (fun _ k => XS.goto X0.here hx rfl (pc0 := 6) (pc' := 10) rfl (hb hby own_d_jdk_29_m69_6) (by decide) (by decide) k) ?_
    show own_G _ _ _ _ (T0.setTop (mkF m 10 #[.val (.int (Int32.ofNat a)), .val (.int (Int32.ofNat b))] [(.int (Int32.ofNat a))]))
    exact own_retI X0 hx hret hlk (hb hby own_d_jdk_29_m69_10) (by rw [e0]; exact ⟨by rw [show a = b by omega], N0, rfl⟩) (by decide) (by decide)
def own_valsL (g : Nat → Int64) (i : Nat) : List Value := (List.range i).map fun j => .long (g j)
theorem own_lenL (g : Nat → Int64) (i : Nat) : (own_valsL g i).length = i := by simp [own_valsL]
theorem own_nextL (g : Nat → Int64) (i : Nat) : own_valsL g i ++ [.long (g i)] = own_valsL g (i + 1) := by simp [own_valsL, List.range_succ]
theorem own_atL (g : Nat → Int64) {i j : Nat} (h : j < i) (d : Value) : (own_valsL g i).getD j d = .long (g j) := by simp [own_valsL, List.getD_eq_getElem?_getD, h]
theorem own_get {cl : Cell} {n N i : Nat} {f : Nat → Int32} {d : Value} (S : cl.slots.size = (Int32.ofNat N).toNatClampNeg) (H : Has cl (own_vals f n) d) (h : i < n) (hN : n ≤ N) (hn : N < 2147483648) : cl.slots[(Int32.ofNat i).toNatClampNeg]? = some (.int (f i)) := by
  rw [own_clamp (by omega)]
  have q := H i (by rw [S, own_clamp hn]; omega)
  rw [own_at f h] at q
  exact q
theorem own_getL {cl : Cell} {n N i : Nat} {g : Nat → Int64} {d : Value} (S : cl.slots.size = (Int32.ofNat N).toNatClampNeg) (H : Has cl (own_valsL g n) d) (h : i < n) (hN : n ≤ N) (hn : N < 2147483648) : cl.slots[(Int32.ofNat i).toNatClampNeg]? = some (.long (g i)) := by
  rw [own_clamp (by omega)]
  have q := H i (by rw [S, own_clamp hn]; omega)
  rw [own_atL g h] at q
  exact q
theorem own_last {cl : Cell} {N i : Nat} {vs : List Value} {x d : Value} (S : cl.slots.size = (Int32.ofNat N).toNatClampNeg) (H : Has cl (vs ++ [x]) d) (hi : vs.length = i) (h : i < N) (hn : N < 2147483648) : cl.slots[(Int32.ofNat i).toNatClampNeg]? = some x := by
  rw [own_clamp (by omega)]
  have q := H i (by rw [S, own_clamp hn]; omega)
  rw [q, ← hi]
  simp [List.getD_eq_getElem?_getD]
theorem own_cp {Z : State} {h : Heap} {b : Addr} {kb : ClassId} {ty : FieldType} {N : Int32} {dv : Value} {vs : List Value} {k : Nat} (hl : vs.length = k) (V : Arv Z h b kb ty N ((([] ++ List.replicate k dv).take (0 : Int32).toNatClampNeg) ++ ((List.range k).map fun i => vs.getD (0 + i) dv) ++ ([] ++ List.replicate k dv).drop ((0 : Int32).toNatClampNeg + k)) dv) : Arv Z h b kb ty N vs dv := by
  have e : ((([] ++ List.replicate k dv).take (0 : Int32).toNatClampNeg) ++ ((List.range k).map fun i => vs.getD (0 + i) dv) ++ ([] ++ List.replicate k dv).drop ((0 : Int32).toNatClampNeg + k)) = vs := by
    rw [show (0 : Int32).toNatClampNeg = 0 from rfl]
    simp only [List.nil_append, List.take_zero, Nat.zero_add, List.drop_replicate, Nat.sub_self, List.replicate_zero, List.append_nil]
    refine List.ext_getElem (by simp [hl]) fun i h1 h2 => ?_
    simp [List.getD_eq_getElem?_getD, h2]
  rw [e] at V
  exact V
theorem own_div {r d : Nat} (hr : r < 2147483648) (hd : 0 < d) (hd2 : d < 2147483648) : Int32.ofNat r / Int32.ofNat d = Int32.ofNat (r / d) := by
  apply Int32.toInt_inj.mp
  have h1 : r / d ≤ r := Nat.div_le_self r d
  have h := (c_idiv (Int32.ofNat r) (Int32.ofNat d) (d : Int) (own_nat hd2) (fun q => by have := congrArg Int32.toInt q; rw [own_nat hd2, show (-1 : Int32).toInt = -1 from rfl] at this; omega)).1 (by rw [own_nat hr]; omega)
  rw [h, own_nat hr, own_nat (by omega), Int.natCast_ediv]
theorem own_mod {r d : Nat} (hr : r < 2147483648) (hd : 0 < d) (hd2 : d < 2147483648) : Int32.ofNat r % Int32.ofNat d = Int32.ofNat (r % d) := by
  apply Int32.toInt_inj.mp
  have h1 : r % d ≤ r := Nat.mod_le r d
  have h := (c_irem (Int32.ofNat r) (Int32.ofNat d) (d : Int) (own_nat hd2)).1 (by rw [own_nat hr]; omega)
  rw [h, own_nat hr, own_nat (by omega), Int.natCast_emod]
theorem own_ne0 {d : Nat} (h : 0 < d) (hd : d < 2147483648) : Int32.ofNat d ≠ 0 := fun q => by
  have := congrArg Int32.toInt q
  rw [own_nat hd, show (0 : Int32).toInt = 0 from rfl] at this
  omega
theorem own_nlt {a b : Nat} (h : ¬ a < b) (ha : a < 2147483648) (hb : b < 2147483648) : ¬ Int32.ofNat a < Int32.ofNat b := by
  rw [Int32.lt_iff_toInt_lt, own_nat ha, own_nat hb]
  omega
theorem own_ofne {a b : Nat} (h : a ≠ b) (ha : a < 2147483648) (hb : b < 2147483648) : ¬ Int32.ofNat a = Int32.ofNat b := fun q => by
  have := congrArg Int32.toInt q
  rw [own_nat ha, own_nat hb] at this
  omega
theorem own_pn95 : plainName "java/util/Arrays" = true := by first | (simp [plainName, overriddenIn]; done) | decide +kernel
theorem own_d_jdk_65_m123_0 : decode jdk_65_method_123_code 0 = .ok (.iload_n 1, 1) := by decide +kernel
theorem own_d_jdk_65_m123_1 : decode jdk_65_method_123_code 1 = .ok (.aload_n 0, 1) := by decide +kernel
theorem own_d_jdk_65_m123_2 : decode jdk_65_method_123_code 2 = .ok (.arraylength, 1) := by decide +kernel
theorem own_d_jdk_65_m123_3 : decode jdk_65_method_123_code 3 = .ok (.if_icmp .ne 11, 3) := by decide +kernel
theorem own_d_jdk_65_m123_14 : decode jdk_65_method_123_code 14 = .ok (.iload_n 1, 1) := by decide +kernel
theorem own_d_jdk_65_m123_15 : decode jdk_65_method_123_code 15 = .ok (.newarray .int, 2) := by decide +kernel
theorem own_d_jdk_65_m123_17 : decode jdk_65_method_123_code 17 = .ok (.astore_n 2, 1) := by decide +kernel
theorem own_d_jdk_65_m123_18 : decode jdk_65_method_123_code 18 = .ok (.aload_n 0, 1) := by decide +kernel
theorem own_d_jdk_65_m123_19 : decode jdk_65_method_123_code 19 = .ok (.iconst 0, 1) := by decide +kernel
theorem own_d_jdk_65_m123_20 : decode jdk_65_method_123_code 20 = .ok (.aload_n 2, 1) := by decide +kernel
theorem own_d_jdk_65_m123_21 : decode jdk_65_method_123_code 21 = .ok (.iconst 0, 1) := by decide +kernel
theorem own_d_jdk_65_m123_22 : decode jdk_65_method_123_code 22 = .ok (.aload_n 0, 1) := by decide +kernel
theorem own_d_jdk_65_m123_23 : decode jdk_65_method_123_code 23 = .ok (.arraylength, 1) := by decide +kernel
theorem own_d_jdk_65_m123_24 : decode jdk_65_method_123_code 24 = .ok (.iload_n 1, 1) := by decide +kernel
theorem own_d_jdk_65_m123_25 : decode jdk_65_method_123_code 25 = .ok (.invokestatic 304, 3) := by decide +kernel
theorem own_pd111 : parseMethodDescriptor "(II)I" = some ⟨[.int, .int], some .int⟩ := by decide +kernel
theorem own_d_jdk_65_m123_28 : decode jdk_65_method_123_code 28 = .ok (.invokestatic 150, 3) := by decide +kernel
theorem own_d_jdk_65_m123_31 : decode jdk_65_method_123_code 31 = .ok (.aload_n 2, 1) := by decide +kernel
theorem own_d_jdk_65_m123_32 : decode jdk_65_method_123_code 32 = .ok (.areturn, 1) := by decide +kernel
set_option maxRecDepth 65536 in
set_option maxHeartbeats 40000000 in
theorem own_cpI (l : Launch) (Z : State) (a0 : Array Value) (hw : ∀ d ∈ tables_1, d.before a0 Z = true) (ws : List Jvm.Cond) (a1 : Addr) (nk : Nat) (f : Nat → Int32) (ka : ClassId) (h0 : Heap) (O0 : Old Z Z.heap.size h0) (hk : nk ≤ 4) (V1 : Arv Z h0 a1 ka .int (Int32.ofNat 32) (own_vals f nk) (.int (0 : Int32))) :
    own_Met l Z (⟨"java/util/Arrays", "copyOf", "([II)[I"⟩ : MethodName) jdk_65_method_123_code 3 (some (.array .int)) ws ({ frames := 1, cells := 1, slots := 4, locals := 40 } : Room) #[(.ref a1), (.int (Int32.ofNat nk))] h0 (fun v h L => ∃ b kb, v = some (.ref b) ∧ Fr Z.heap.size L ∧ Keep h0 h [] ∧ h0.size ≤ b ∧ @LT.lt Nat instLTNat b h.size ∧ Arv Z h b kb .int (Int32.ofNat nk) (own_vals f nk) (.int (0 : Int32)) ∧ Exa Z h b "[I") (({ frames := 1, cells := 1, slots := 4, locals := 40 } : Room)).cells (({ frames := 1, cells := 1, slots := 4, locals := 40 } : Room)).slots := by
  refine own_body (ef := fun m => mkF m 0 #[.val (.ref a1), .val (.int (Int32.ofNat nk)), .unset] []) (plainFor_of_name own_pn95) (fun m => by first | (simp [entryFrame, mkF, argsToLocals, Value.category]; done) | rfl) ?_
  intro p e s m below meth c T0 hx hZ hby hml hown hnm hret hlk X0 e0
  have N0 := Fr.nil Z.heap.size
  have z0 : Z.heap.size ≤ h0.size := O0.2.1
  have Kr := Keep.refl h0 []
  show own_G _ _ _ _ (T0.setTop (mkF m 0 #[.val (.ref a1), .val (.int (Int32.ofNat nk)), .unset] []))
  have lta := own_ltN V1.lt
  refine own_st (fun _ k => XS.iloadN X0.here hx rfl (hb hby own_d_jdk_65_m123_0) rfl k) ?_
  show own_G _ _ _ _ (T0.setTop (mkF m 1 #[.val (.ref a1), .val (.int (Int32.ofNat nk)), .unset] [(.int (Int32.ofNat nk))]))
  refine own_st (fun _ k => XS.aloadN X0.here hx rfl (hb hby own_d_jdk_65_m123_1) rfl rfl k) ?_
  show own_G _ _ _ _ (T0.setTop (mkF m 2 #[.val (.ref a1), .val (.int (Int32.ofNat nk)), .unset] [(.ref a1), (.int (Int32.ofNat nk))]))
  obtain ⟨cl1, Ar1, qk1, Sz1, Mz1, Hz1, Uz1⟩ := id V1
  refine own_st (X0.arraylength hx (by rw [e0]; exact Ar1.1) (State.isArrayOf_alike hZ.alike Ar1.2.1) (g := (mkF m 2 #[.val (.ref a1), .val (.int (Int32.ofNat nk)), .unset] [(.ref a1), (.int (Int32.ofNat nk))])) rfl rfl (hb hby own_d_jdk_65_m123_2)) ?_
  rw [len_of Sz1 Mz1]
  show own_G _ _ _ _ (T0.setTop (mkF m 3 #[.val (.ref a1), .val (.int (Int32.ofNat nk)), .unset] [(.int (Int32.ofNat 32)), (.int (Int32.ofNat nk))]))
  refine own_st (fun _ k => XS.icmpYes X0.here hx rfl (pc0 := 3) (pc' := 14) rfl (hb hby own_d_jdk_65_m123_3) rfl (feq (own_ofne (show nk ≠ 32 by omega) (by omega) (by decide))).2 (by decide) (by decide) k) ?_
  show own_G _ _ _ _ (T0.setTop (mkF m 14 #[.val (.ref a1), .val (.int (Int32.ofNat nk)), .unset] []))
  refine own_st (fun _ k => XS.iloadN X0.here hx rfl (hb hby own_d_jdk_65_m123_14) rfl k) ?_
  show own_G _ _ _ _ (T0.setTop (mkF m 15 #[.val (.ref a1), .val (.int (Int32.ofNat nk)), .unset] [(.int (Int32.ofNat nk))]))
  obtain ⟨T2, h2, k2, X2, e2, E2, A2, Ex2, st2⟩ := newPE X0 hx hZ (hw _ (List.mem_of_getElem? (i := 0) rfl)) e0 (g := (mkF m 15 #[.val (.ref a1), .val (.int (Int32.ofNat nk)), .unset] [(.int (Int32.ofNat nk))])) rfl (hb hby own_d_jdk_65_m123_15) rfl (own_nn (by omega)) (cap := 4) (by rw [own_clamp (by omega)]; omega) (by decide) (by decide) (by decide) (ad := "[I") (by decide)
  obtain ⟨b2, g2⟩ : ∃ z, z = h0.size := ⟨_, rfl⟩
  rw [← g2] at A2 Ex2 st2
  refine own_st st2 ?_
  have z3 : h0.size ≤ h2.size := E2.1
  have O4 := Old.ext O0 E2
  have K5 : Keep h0 h2 [] := Kr.ext E2
  have V2 : Arv Z h2 b2 k2 .int (Int32.ofNat nk) ([] ++ List.replicate nk (.int (0 : Int32))) (.int (0 : Int32)) := (Arv.new A2 (own_nn (by omega))).pad (pad_rep [] (.int (0 : Int32)) nk)
  have lt2 := own_ltN A2.lt
  show own_G _ _ _ _ (T2.setTop (mkF m 17 #[.val (.ref a1), .val (.int (Int32.ofNat nk)), .unset] [(.ref b2)]))
  refine own_st (fun _ k => XS.astoreN X2.here hx rfl (hb hby own_d_jdk_65_m123_17) rfl rfl (l' := #[.val (.ref a1), .val (.int (Int32.ofNat nk)), .val (.ref b2)]) rfl k) ?_
  show own_G _ _ _ _ (T2.setTop (mkF m 18 #[.val (.ref a1), .val (.int (Int32.ofNat nk)), .val (.ref b2)] []))
  refine own_st (fun _ k => XS.aloadN X2.here hx rfl (hb hby own_d_jdk_65_m123_18) rfl rfl k) ?_
  show own_G _ _ _ _ (T2.setTop (mkF m 19 #[.val (.ref a1), .val (.int (Int32.ofNat nk)), .val (.ref b2)] [(.ref a1)]))
  refine own_st (fun _ k => XS.iconst X2.here hx rfl (hb hby own_d_jdk_65_m123_19) k) ?_
  show own_G _ _ _ _ (T2.setTop (mkF m 20 #[.val (.ref a1), .val (.int (Int32.ofNat nk)), .val (.ref b2)] [(.int (0 : Int32)), (.ref a1)]))
  refine own_st (fun _ k => XS.aloadN X2.here hx rfl (hb hby own_d_jdk_65_m123_20) rfl rfl k) ?_
  show own_G _ _ _ _ (T2.setTop (mkF m 21 #[.val (.ref a1), .val (.int (Int32.ofNat nk)), .val (.ref b2)] [(.ref b2), (.int (0 : Int32)), (.ref a1)]))
  refine own_st (fun _ k => XS.iconst X2.here hx rfl (hb hby own_d_jdk_65_m123_21) k) ?_
  show own_G _ _ _ _ (T2.setTop (mkF m 22 #[.val (.ref a1), .val (.int (Int32.ofNat nk)), .val (.ref b2)] [(.int (0 : Int32)), (.ref b2), (.int (0 : Int32)), (.ref a1)]))
  refine own_st (fun _ k => XS.aloadN X2.here hx rfl (hb hby own_d_jdk_65_m123_22) rfl rfl k) ?_
  show own_G _ _ _ _ (T2.setTop (mkF m 23 #[.val (.ref a1), .val (.int (Int32.ofNat nk)), .val (.ref b2)] [(.ref a1), (.int (0 : Int32)), (.ref b2), (.int (0 : Int32)), (.ref a1)]))
  have q6 : Arv Z h2 a1 ka .int (Int32.ofNat 32) (own_vals f nk) (.int (0 : Int32)) := (V1.ext E2)
  obtain ⟨cl7, Ar7, qk7, Sz7, Mz7, Hz7, Uz7⟩ := id q6
  refine own_st (X2.arraylength hx (by rw [e2]; exact Ar7.1) (State.isArrayOf_alike hZ.alike Ar7.2.1) (g := (mkF m 23 #[.val (.ref a1), .val (.int (Int32.ofNat nk)), .val (.ref b2)] [(.ref a1), (.int (0 : Int32)), (.ref b2), (.int (0 : Int32)), (.ref a1)])) rfl rfl (hb hby own_d_jdk_65_m123_23)) ?_
  rw [len_of Sz7 Mz7]
  show own_G _ _ _ _ (T2.setTop (mkF m 24 #[.val (.ref a1), .val (.int (Int32.ofNat nk)), .val (.ref b2)] [(.int (Int32.ofNat 32)), (.int (0 : Int32)), (.ref b2), (.int (0 : Int32)), (.ref a1)]))
  refine own_st (fun _ k => XS.iloadN X2.here hx rfl (hb hby own_d_jdk_65_m123_24) rfl k) ?_
  show own_G _ _ _ _ (T2.setTop (mkF m 25 #[.val (.ref a1), .val (.int (Int32.ofNat nk)), .val (.ref b2)] [(.int (Int32.ofNat nk)), (.int (Int32.ofNat 32)), (.int (0 : Int32)), (.ref b2), (.int (0 : Int32)), (.ref a1)]))
  obtain ⟨_, _, ⟨T8, L8, k8, n8⟩, -, X8, ⟨Lc8, hQ8, l8, y8, z8⟩, st8⟩ := Jvm.LawKit.callS X2 hx (y := (⟨"java/lang/Math", "min", "(II)I"⟩ : MethodName)) hown (mvT hZ (hw _ (List.mem_of_getElem? (i := 25) rfl))) (mvT hZ (hw _ (List.mem_of_getElem? (i := 26) rfl))) (mvT hZ (hw _ (List.mem_of_getElem? (i := 27) rfl))) (mvT hZ (hw _ (List.mem_of_getElem? (i := 28) rfl))) (by decide) (own_back (rm := ({ frames := 0, cells := 0, slots := 0, locals := 0 } : Room)) (W := 4) (own_min l Z a0 hw [] 32 nk h2 O4 (by omega) (by decide)) hZ (hw _ (List.mem_of_getElem? (i := 28) rfl)) (hw _ (List.mem_of_getElem? (i := 27) rfl)) (by decide) (by decide)) (g := (mkF m 25 #[.val (.ref a1), .val (.int (Int32.ofNat nk)), .val (.ref b2)] [(.int (Int32.ofNat nk)), (.int (Int32.ofNat 32)), (.int (0 : Int32)), (.ref b2), (.int (0 : Int32)), (.ref a1)])) rfl (by rw [hml]; rfl) (argsL := [(.int (Int32.ofNat 32)), (.int (Int32.ofNat nk))]) (rest := [(.int (0 : Int32)), (.ref b2), (.int (0 : Int32)), (.ref a1)]) (lenOf own_pd111 rfl) rfl (by show 2 * 0 + _ ≤ _; exact Nat.le_of_eq rfl) (hb hby own_d_jdk_65_m123_25) (fun _ _ => ⟨rfl, e2, (by decide : 0 + 1 + 0 ≤ _), (by decide : 0 + 4 + 0 ≤ _)⟩)
  dsimp only [Pt.U, Pt.locs, Pt.cells, Pt.slots] at X8 l8 y8 z8 st8 hQ8
  subst l8 y8 z8
  obtain ⟨rfl, N8q, eh8⟩ := hQ8
  have N8 := Fr.app N0 N8q
  refine own_st st8 ?_
  show own_G _ _ _ _ (T8.setTop (mkF m 28 #[.val (.ref a1), .val (.int (Int32.ofNat nk)), .val (.ref b2)] [(.int (Int32.ofNat nk)), (.int (0 : Int32)), (.ref b2), (.int (0 : Int32)), (.ref a1)]))
  obtain ⟨T9, h9, L9, X9, e9, N9, K9_, V9, st9⟩ := cpA X8 hx hZ hown (hw _ (List.mem_of_getElem? (i := 29) rfl)) (hw _ (List.mem_of_getElem? (i := 32) rfl)) (hw _ (List.mem_of_getElem? (i := 30) rfl)) (hw _ (List.mem_of_getElem? (i := 31) rfl)) eh8 q6 V2 (Or.inl ⟨rfl, rfl⟩) (by decide) (by decide) (own_nn (show nk < 2147483648 by omega)) (by rw [own_clamp (show nk < 2147483648 by omega)]; show 0 + nk ≤ 32; omega) (by rw [own_clamp (show nk < 2147483648 by omega)]; show 0 + nk ≤ nk; omega) (us := (List.range nk).map fun i => ((own_vals f nk)).getD (0 + i) (.int (0 : Int32))) (by rw [own_clamp (show nk < 2147483648 by omega)]; rfl) (by rw [own_clamp (show nk < 2147483648 by omega)]; simp) N8 (by omega) (g := (mkF m 28 #[.val (.ref a1), .val (.int (Int32.ofNat nk)), .val (.ref b2)] [(.int (Int32.ofNat nk)), (.int (0 : Int32)), (.ref b2), (.int (0 : Int32)), (.ref a1)])) rfl (by rw [hml]; rfl) rfl (hb hby own_d_jdk_65_m123_28) (by decide) (W := 0) (by show 2 * 0 + _ ≤ _; exact Nat.le_of_eq rfl) (by decide)
  refine own_st st9 ?_
  have z10 : h2.size ≤ h9.size := K9_.1
  have O11 := Old.keep O4 K9_ (allS (by omega) all0)
  have K12 : Keep h0 h9 [] := K5.trans K9_ (allS (Or.inr (by omega)) all0)
  have V9' : Arv Z h9 b2 k2 .int (Int32.ofNat nk) (own_vals f nk) (.int (0 : Int32)) := own_cp (k := nk) (own_len f nk) (by have q := V9; rw [own_clamp (show nk < 2147483648 by omega)] at q; exact q)
  show own_G _ _ _ _ (T9.setTop (mkF m 31 #[.val (.ref a1), .val (.int (Int32.ofNat nk)), .val (.ref b2)] []))
  refine own_st (fun _ k => XS.aloadN X9.here hx rfl (hb hby own_d_jdk_65_m123_31) rfl rfl k) ?_
  show own_G _ _ _ _ (T9.setTop (mkF m 32 #[.val (.ref a1), .val (.int (Int32.ofNat nk)), .val (.ref b2)] [(.ref b2)]))
  have q13 : Exa Z h9 b2 "[I" := (Ex2.keep K9_)
  exact own_retA X9 hx hret rfl rfl hlk (hb hby own_d_jdk_65_m123_32) (by rw [e9]; exact ⟨b2, k2, rfl, N9, K12, by omega, own_ltN V9'.lt, V9', q13⟩) (by decide) (by decide)
theorem own_d_jdk_65_m124_0 : decode jdk_65_method_124_code 0 = .ok (.iload_n 1, 1) := by decide +kernel
theorem own_d_jdk_65_m124_1 : decode jdk_65_method_124_code 1 = .ok (.aload_n 0, 1) := by decide +kernel
theorem own_d_jdk_65_m124_2 : decode jdk_65_method_124_code 2 = .ok (.arraylength, 1) := by decide +kernel
theorem own_d_jdk_65_m124_3 : decode jdk_65_method_124_code 3 = .ok (.if_icmp .ne 11, 3) := by decide +kernel
theorem own_d_jdk_65_m124_14 : decode jdk_65_method_124_code 14 = .ok (.iload_n 1, 1) := by decide +kernel
theorem own_d_jdk_65_m124_15 : decode jdk_65_method_124_code 15 = .ok (.newarray .long, 2) := by decide +kernel
theorem own_d_jdk_65_m124_17 : decode jdk_65_method_124_code 17 = .ok (.astore_n 2, 1) := by decide +kernel
theorem own_d_jdk_65_m124_18 : decode jdk_65_method_124_code 18 = .ok (.aload_n 0, 1) := by decide +kernel
theorem own_d_jdk_65_m124_19 : decode jdk_65_method_124_code 19 = .ok (.iconst 0, 1) := by decide +kernel
theorem own_d_jdk_65_m124_20 : decode jdk_65_method_124_code 20 = .ok (.aload_n 2, 1) := by decide +kernel
theorem own_d_jdk_65_m124_21 : decode jdk_65_method_124_code 21 = .ok (.iconst 0, 1) := by decide +kernel
theorem own_d_jdk_65_m124_22 : decode jdk_65_method_124_code 22 = .ok (.aload_n 0, 1) := by decide +kernel
theorem own_d_jdk_65_m124_23 : decode jdk_65_method_124_code 23 = .ok (.arraylength, 1) := by decide +kernel
theorem own_d_jdk_65_m124_24 : decode jdk_65_method_124_code 24 = .ok (.iload_n 1, 1) := by decide +kernel
theorem own_d_jdk_65_m124_25 : decode jdk_65_method_124_code 25 = .ok (.invokestatic 304, 3) := by decide +kernel
theorem own_d_jdk_65_m124_28 : decode jdk_65_method_124_code 28 = .ok (.invokestatic 150, 3) := by decide +kernel
theorem own_d_jdk_65_m124_31 : decode jdk_65_method_124_code 31 = .ok (.aload_n 2, 1) := by decide +kernel
theorem own_d_jdk_65_m124_32 : decode jdk_65_method_124_code 32 = .ok (.areturn, 1) := by decide +kernel
set_option maxRecDepth 65536 in
set_option maxHeartbeats 40000000 in
theorem own_cpJ (l : Launch) (Z : State) (a0 : Array Value) (hw : ∀ d ∈ tables_1, d.before a0 Z = true) (ws : List Jvm.Cond) (a1 : Addr) (nk : Nat) (g : Nat → Int64) (ka : ClassId) (h0 : Heap) (O0 : Old Z Z.heap.size h0) (hk : nk ≤ 4) (V1 : Arv Z h0 a1 ka .long (Int32.ofNat 32) (own_valsL g nk) (.long (0 : Int64))) :
    own_Met l Z (⟨"java/util/Arrays", "copyOf", "([JI)[J"⟩ : MethodName) jdk_65_method_124_code 3 (some (.array .long)) ws ({ frames := 1, cells := 1, slots := 4, locals := 40 } : Room) #[(.ref a1), (.int (Int32.ofNat nk))] h0 (fun v h L => ∃ b kb, v = some (.ref b) ∧ Fr Z.heap.size L ∧ Keep h0 h [] ∧ h0.size ≤ b ∧ @LT.lt Nat instLTNat b h.size ∧ Arv Z h b kb .long (Int32.ofNat nk) (own_valsL g nk) (.long (0 : Int64)) ∧ Exa Z h b "[J") (({ frames := 1, cells := 1, slots := 4, locals := 40 } : Room)).cells (({ frames := 1, cells := 1, slots := 4, locals := 40 } : Room)).slots := by
  refine own_body (ef := fun m => mkF m 0 #[.val (.ref a1), .val (.int (Int32.ofNat nk)), .unset] []) (plainFor_of_name own_pn95) (fun m => by first | (simp [entryFrame, mkF, argsToLocals, Value.category]; done) | rfl) ?_
  intro p e s m below meth c T0 hx hZ hby hml hown hnm hret hlk X0 e0
  have N0 := Fr.nil Z.heap.size
  have z0 : Z.heap.size ≤ h0.size := O0.2.1
  have Kr := Keep.refl h0 []
  show own_G _ _ _ _ (T0.setTop (mkF m 0 #[.val (.ref a1), .val (.int (Int32.ofNat nk)), .unset] []))
  have lta := own_ltN V1.lt
  refine own_st (fun _ k => XS.iloadN X0.here hx rfl (hb hby own_d_jdk_65_m124_0) rfl k) ?_
  show own_G _ _ _ _ (T0.setTop (mkF m 1 #[.val (.ref a1), .val (.int (Int32.ofNat nk)), .unset] [(.int (Int32.ofNat nk))]))
  refine own_st (fun _ k => XS.aloadN X0.here hx rfl (hb hby own_d_jdk_65_m124_1) rfl rfl k) ?_
  show own_G _ _ _ _ (T0.setTop (mkF m 2 #[.val (.ref a1), .val (.int (Int32.ofNat nk)), .unset] [(.ref a1), (.int (Int32.ofNat nk))]))
  obtain ⟨cl1, Ar1, qk1, Sz1, Mz1, Hz1, Uz1⟩ := id V1
  refine own_st (X0.arraylength hx (by rw [e0]; exact Ar1.1) (State.isArrayOf_alike hZ.alike Ar1.2.1) (g := (mkF m 2 #[.val (.ref a1), .val (.int (Int32.ofNat nk)), .unset] [(.ref a1), (.int (Int32.ofNat nk))])) rfl rfl (hb hby own_d_jdk_65_m124_2)) ?_
  rw [len_of Sz1 Mz1]
  show own_G _ _ _ _ (T0.setTop (mkF m 3 #[.val (.ref a1), .val (.int (Int32.ofNat nk)), .unset] [(.int (Int32.ofNat 32)), (.int (Int32.ofNat nk))]))
  refine own_st (fun _ k => XS.icmpYes X0.here hx rfl (pc0 := 3) (pc' := 14) rfl (hb hby own_d_jdk_65_m124_3) rfl (feq (own_ofne (show nk ≠ 32 by omega) (by omega) (by decide))).2 (by decide) (by decide) k) ?_
  show own_G _ _ _ _ (T0.setTop (mkF m 14 #[.val (.ref a1), .val (.int (Int32.ofNat nk)), .unset] []))
  refine own_st (fun _ k => XS.iloadN X0.here hx rfl (hb hby own_d_jdk_65_m124_14) rfl k) ?_
  show own_G _ _ _ _ (T0.setTop (mkF m 15 #[.val (.ref a1), .val (.int (Int32.ofNat nk)), .unset] [(.int (Int32.ofNat nk))]))
  obtain ⟨T2, h2, k2, X2, e2, E2, A2, Ex2, st2⟩ := newPE X0 hx hZ (hw _ (List.mem_of_getElem? (i := 14) rfl)) e0 (g := (mkF m 15 #[.val (.ref a1), .val (.int (Int32.ofNat nk)), .unset] [(.int (Int32.ofNat nk))])) rfl (hb hby own_d_jdk_65_m124_15) rfl (own_nn (by omega)) (cap := 4) (by rw [own_clamp (by omega)]; omega) (by decide) (by decide) (by decide) (ad := "[J") (by decide)
  obtain ⟨b2, g2⟩ : ∃ z, z = h0.size := ⟨_, rfl⟩
  rw [← g2] at A2 Ex2 st2
  refine own_st st2 ?_
  have z3 : h0.size ≤ h2.size := E2.1
  have O4 := Old.ext O0 E2
  have K5 : Keep h0 h2 [] := Kr.ext E2
  have V2 : Arv Z h2 b2 k2 .long (Int32.ofNat nk) ([] ++ List.replicate nk (.long (0 : Int64))) (.long (0 : Int64)) := (Arv.new A2 (own_nn (by omega))).pad (pad_rep [] (.long (0 : Int64)) nk)
  have lt2 := own_ltN A2.lt
  show own_G _ _ _ _ (T2.setTop (mkF m 17 #[.val (.ref a1), .val (.int (Int32.ofNat nk)), .unset] [(.ref b2)]))
  refine own_st (fun _ k => XS.astoreN X2.here hx rfl (hb hby own_d_jdk_65_m124_17) rfl rfl (l' := #[.val (.ref a1), .val (.int (Int32.ofNat nk)), .val (.ref b2)]) rfl k) ?_
  show own_G _ _ _ _ (T2.setTop (mkF m 18 #[.val (.ref a1), .val (.int (Int32.ofNat nk)), .val (.ref b2)] []))
  refine own_st (fun _ k => XS.aloadN X2.here hx rfl (hb hby own_d_jdk_65_m124_18) rfl rfl k) ?_
  show own_G _ _ _ _ (T2.setTop (mkF m 19 #[.val (.ref a1), .val (.int (Int32.ofNat nk)), .val (.ref b2)] [(.ref a1)]))
  refine own_st (fun _ k => XS.iconst X2.here hx rfl (hb hby own_d_jdk_65_m124_19) k) ?_
  show own_G _ _ _ _ (T2.setTop (mkF m 20 #[.val (.ref a1), .val (.int (Int32.ofNat nk)), .val (.ref b2)] [(.int (0 : Int32)), (.ref a1)]))
  refine own_st (fun _ k => XS.aloadN X2.here hx rfl (hb hby own_d_jdk_65_m124_20) rfl rfl k) ?_
  show own_G _ _ _ _ (T2.setTop (mkF m 21 #[.val (.ref a1), .val (.int (Int32.ofNat nk)), .val (.ref b2)] [(.ref b2), (.int (0 : Int32)), (.ref a1)]))
  refine own_st (fun _ k => XS.iconst X2.here hx rfl (hb hby own_d_jdk_65_m124_21) k) ?_
  show own_G _ _ _ _ (T2.setTop (mkF m 22 #[.val (.ref a1), .val (.int (Int32.ofNat nk)), .val (.ref b2)] [(.int (0 : Int32)), (.ref b2), (.int (0 : Int32)), (.ref a1)]))
  refine own_st (fun _ k => XS.aloadN X2.here hx rfl (hb hby own_d_jdk_65_m124_22) rfl rfl k) ?_
  show own_G _ _ _ _ (T2.setTop (mkF m 23 #[.val (.ref a1), .val (.int (Int32.ofNat nk)), .val (.ref b2)] [(.ref a1), (.int (0 : Int32)), (.ref b2), (.int (0 : Int32)), (.ref a1)]))
  have q6 : Arv Z h2 a1 ka .long (Int32.ofNat 32) (own_valsL g nk) (.long (0 : Int64)) := (V1.ext E2)
  obtain ⟨cl7, Ar7, qk7, Sz7, Mz7, Hz7, Uz7⟩ := id q6
  refine own_st (X2.arraylength hx (by rw [e2]; exact Ar7.1) (State.isArrayOf_alike hZ.alike Ar7.2.1) (g := (mkF m 23 #[.val (.ref a1), .val (.int (Int32.ofNat nk)), .val (.ref b2)] [(.ref a1), (.int (0 : Int32)), (.ref b2), (.int (0 : Int32)), (.ref a1)])) rfl rfl (hb hby own_d_jdk_65_m124_23)) ?_
  rw [len_of Sz7 Mz7]
  show own_G _ _ _ _ (T2.setTop (mkF m 24 #[.val (.ref a1), .val (.int (Int32.ofNat nk)), .val (.ref b2)] [(.int (Int32.ofNat 32)), (.int (0 : Int32)), (.ref b2), (.int (0 : Int32)), (.ref a1)]))
  refine own_st (fun _ k => XS.iloadN X2.here hx rfl (hb hby own_d_jdk_65_m124_24) rfl k) ?_
  show own_G _ _ _ _ (T2.setTop (mkF m 25 #[.val (.ref a1), .val (.int (Int32.ofNat nk)), .val (.ref b2)] [(.int (Int32.ofNat nk)), (.int (Int32.ofNat 32)), (.int (0 : Int32)), (.ref b2), (.int (0 : Int32)), (.ref a1)]))
  obtain ⟨_, _, ⟨T8, L8, k8, n8⟩, -, X8, ⟨Lc8, hQ8, l8, y8, z8⟩, st8⟩ := Jvm.LawKit.callS X2 hx (y := (⟨"java/lang/Math", "min", "(II)I"⟩ : MethodName)) hown (mvT hZ (hw _ (List.mem_of_getElem? (i := 25) rfl))) (mvT hZ (hw _ (List.mem_of_getElem? (i := 26) rfl))) (mvT hZ (hw _ (List.mem_of_getElem? (i := 27) rfl))) (mvT hZ (hw _ (List.mem_of_getElem? (i := 28) rfl))) (by decide) (own_back (rm := ({ frames := 0, cells := 0, slots := 0, locals := 0 } : Room)) (W := 4) (own_min l Z a0 hw [] 32 nk h2 O4 (by omega) (by decide)) hZ (hw _ (List.mem_of_getElem? (i := 28) rfl)) (hw _ (List.mem_of_getElem? (i := 27) rfl)) (by decide) (by decide)) (g := (mkF m 25 #[.val (.ref a1), .val (.int (Int32.ofNat nk)), .val (.ref b2)] [(.int (Int32.ofNat nk)), (.int (Int32.ofNat 32)), (.int (0 : Int32)), (.ref b2), (.int (0 : Int32)), (.ref a1)])) rfl (by rw [hml]; rfl) (argsL := [(.int (Int32.ofNat 32)), (.int (Int32.ofNat nk))]) (rest := [(.int (0 : Int32)), (.ref b2), (.int (0 : Int32)), (.ref a1)]) (lenOf own_pd111 rfl) rfl (by show 2 * 0 + _ ≤ _; exact Nat.le_of_eq rfl) (hb hby own_d_jdk_65_m124_25) (fun _ _ => ⟨rfl, e2, (by decide : 0 + 1 + 0 ≤ _), (by decide : 0 + 4 + 0 ≤ _)⟩)
  dsimp only [Pt.U, Pt.locs, Pt.cells, Pt.slots] at X8 l8 y8 z8 st8 hQ8
  subst l8 y8 z8
  obtain ⟨rfl, N8q, eh8⟩ := hQ8
  have N8 := Fr.app N0 N8q
  refine own_st st8 ?_
  show own_G _ _ _ _ (T8.setTop (mkF m 28 #[.val (.ref a1), .val (.int (Int32.ofNat nk)), .val (.ref b2)] [(.int (Int32.ofNat nk)), (.int (0 : Int32)), (.ref b2), (.int (0 : Int32)), (.ref a1)]))
  obtain ⟨T9, h9, L9, X9, e9, N9, K9_, V9, st9⟩ := cpA X8 hx hZ hown (hw _ (List.mem_of_getElem? (i := 29) rfl)) (hw _ (List.mem_of_getElem? (i := 32) rfl)) (hw _ (List.mem_of_getElem? (i := 30) rfl)) (hw _ (List.mem_of_getElem? (i := 31) rfl)) eh8 q6 V2 (Or.inl ⟨rfl, rfl⟩) (by decide) (by decide) (own_nn (show nk < 2147483648 by omega)) (by rw [own_clamp (show nk < 2147483648 by omega)]; show 0 + nk ≤ 32; omega) (by rw [own_clamp (show nk < 2147483648 by omega)]; show 0 + nk ≤ nk; omega) (us := (List.range nk).map fun i => ((own_valsL g nk)).getD (0 + i) (.long (0 : Int64))) (by rw [own_clamp (show nk < 2147483648 by omega)]; rfl) (by rw [own_clamp (show nk < 2147483648 by omega)]; simp) N8 (by omega) (g := (mkF m 28 #[.val (.ref a1), .val (.int (Int32.ofNat nk)), .val (.ref b2)] [(.int (Int32.ofNat nk)), (.int (0 : Int32)), (.ref b2), (.int (0 : Int32)), (.ref a1)])) rfl (by rw [hml]; rfl) rfl (hb hby own_d_jdk_65_m124_28) (by decide) (W := 0) (by show 2 * 0 + _ ≤ _; exact Nat.le_of_eq rfl) (by decide)
  refine own_st st9 ?_
  have z10 : h2.size ≤ h9.size := K9_.1
  have O11 := Old.keep O4 K9_ (allS (by omega) all0)
  have K12 : Keep h0 h9 [] := K5.trans K9_ (allS (Or.inr (by omega)) all0)
  have V9' : Arv Z h9 b2 k2 .long (Int32.ofNat nk) (own_valsL g nk) (.long (0 : Int64)) := own_cp (k := nk) (own_lenL g nk) (by have q := V9; rw [own_clamp (show nk < 2147483648 by omega)] at q; exact q)
  show own_G _ _ _ _ (T9.setTop (mkF m 31 #[.val (.ref a1), .val (.int (Int32.ofNat nk)), .val (.ref b2)] []))
  refine own_st (fun _ k => XS.aloadN X9.here hx rfl (hb hby own_d_jdk_65_m124_31) rfl rfl k) ?_
  show own_G _ _ _ _ (T9.setTop (mkF m 32 #[.val (.ref a1), .val (.int (Int32.ofNat nk)), .val (.ref b2)] [(.ref b2)]))
  have q13 : Exa Z h9 b2 "[J" := (Ex2.keep K9_)
  exact own_retA X9 hx hret rfl rfl hlk (hb hby own_d_jdk_65_m124_32) (by rw [e9]; exact ⟨b2, k2, rfl, N9, K12, by omega, own_ltN V9'.lt, V9', q13⟩) (by decide) (by decide)
theorem own_d_jdk_48_m9_8 : decode jdk_48_method_9_code 8 = .ok (.iload 5, 2) := by decide +kernel
theorem own_d_jdk_48_m9_10 : decode jdk_48_method_9_code 10 = .ok (.iload 4, 2) := by decide +kernel
theorem own_d_jdk_48_m9_12 : decode jdk_48_method_9_code 12 = .ok (.if_icmp .ge 19, 3) := by decide +kernel
theorem own_d_jdk_48_m9_15 : decode jdk_48_method_9_code 15 = .ok (.bipush 31, 2) := by decide +kernel
theorem own_d_jdk_48_m9_17 : decode jdk_48_method_9_code 17 = .ok (.iload_n 0, 1) := by decide +kernel
theorem own_d_jdk_48_m9_18 : decode jdk_48_method_9_code 18 = .ok (.imul, 1) := by decide +kernel
theorem own_d_jdk_48_m9_19 : decode jdk_48_method_9_code 19 = .ok (.aload_n 1, 1) := by decide +kernel
theorem own_d_jdk_48_m9_20 : decode jdk_48_method_9_code 20 = .ok (.iload 5, 2) := by decide +kernel
theorem own_d_jdk_48_m9_22 : decode jdk_48_method_9_code 22 = .ok (.iaload, 1) := by decide +kernel
theorem own_d_jdk_48_m9_23 : decode jdk_48_method_9_code 23 = .ok (.iadd, 1) := by decide +kernel
theorem own_d_jdk_48_m9_24 : decode jdk_48_method_9_code 24 = .ok (.istore_n 0, 1) := by decide +kernel
theorem own_d_jdk_48_m9_25 : decode jdk_48_method_9_code 25 = .ok (.iinc 5 1, 3) := by decide +kernel
theorem own_d_jdk_48_m9_28 : decode jdk_48_method_9_code 28 = .ok (.goto (-20), 3) := by decide +kernel
theorem own_d_jdk_48_m9_31 : decode jdk_48_method_9_code 31 = .ok (.iload_n 0, 1) := by decide +kernel
theorem own_d_jdk_48_m9_32 : decode jdk_48_method_9_code 32 = .ok (.ireturn, 1) := by decide +kernel
set_option maxRecDepth 65536 in
set_option maxHeartbeats 40000000 in
theorem own_ash_turn {p : Program} {l : Launch} {e : Env} {s : State} {m : MethodId} {args : Array Value} {below : List Frame} {meth : Method} {c : Code} {Z : State} {a0 : Array Value} {locs : List Loc} {cells slots : Nat} {T0 : State} {h0 : Heap}  (a1 : Addr) (ka : ClassId) (f : Nat → Int32) (i n : Nat) (r : Int32) (hx : p.tables.exec = Jvm.exec) (hZ : Z.Warmed39 s.vm) (hw : ∀ d ∈ tables_1, d.before a0 Z = true) (hby : c.code = jdk_48_method_9_code) (hml : c.maxLocals = 6) (hown : s.vm.findClass "jdk/internal/util/ArraysSupport" = some m.cls) (X0 : Stand p l e ({ frames := 0, cells := 0, slots := 0, locals := 0 } : Room) s m args below meth c T0 locs cells slots) (e0 : T0.heap = h0) (N0 : Fr Z.heap.size locs) (O0 : Old Z Z.heap.size h0) (hret : meth.sig.returnType = some .int) (hlk : meth.locks = false) (hcs : cells ≤ 0) (hss : slots ≤ 0) (hn : n ≤ 4) (V1 : Arv Z h0 a1 ka .int (Int32.ofNat n) (own_vals f n) (.int (0 : Int32))) (hi0 : i ≤ n)
    (k : i < n → ∀ r : Int32, own_G p.tables e below (own_F s below (fun v h L => ∃ r : Int32, v = some (.int r) ∧ Fr Z.heap.size L ∧ h = h0) 0 0) (T0.setTop (mkF m 8 #[.val (.int r), .val (.ref a1), .val (.int (0 : Int32)), .val (.int (Int32.ofNat n)), .val (.int (Int32.ofNat n)), .val (.int (Int32.ofNat (i + 1)))] []))) :
    own_G p.tables e below (own_F s below (fun v h L => ∃ r : Int32, v = some (.int r) ∧ Fr Z.heap.size L ∧ h = h0) 0 0) (T0.setTop (mkF m 8 #[.val (.int r), .val (.ref a1), .val (.int (0 : Int32)), .val (.int (Int32.ofNat n)), .val (.int (Int32.ofNat n)), .val (.int (Int32.ofNat i))] [])) := by
  have z0 : Z.heap.size ≤ h0.size := O0.2.1
  have Kr := Keep.refl h0 []
  show own_G _ _ _ _ (T0.setTop (mkF m 8 #[.val (.int r), .val (.ref a1), .val (.int (0 : Int32)), .val (.int (Int32.ofNat n)), .val (.int (Int32.ofNat n)), .val (.int (Int32.ofNat i))] []))
  refine own_st (fun _ k => XS.iload X0.here hx rfl (hb hby own_d_jdk_48_m9_8) rfl k) ?_
  show own_G _ _ _ _ (T0.setTop (mkF m 10 #[.val (.int r), .val (.ref a1), .val (.int (0 : Int32)), .val (.int (Int32.ofNat n)), .val (.int (Int32.ofNat n)), .val (.int (Int32.ofNat i))] [(.int (Int32.ofNat i))]))
  refine own_st (fun _ k => XS.iload X0.here hx rfl (hb hby own_d_jdk_48_m9_10) rfl k) ?_
  show own_G _ _ _ _ (T0.setTop (mkF m 12 #[.val (.int r), .val (.ref a1), .val (.int (0 : Int32)), .val (.int (Int32.ofNat n)), .val (.int (Int32.ofNat n)), .val (.int (Int32.ofNat i))] [(.int (Int32.ofNat n)), (.int (Int32.ofNat i))]))
  by_cases hi : i < n
  · skip
    refine own_st (fun _ k => XS.icmpNo X0.here hx rfl (hb hby own_d_jdk_48_m9_12) rfl (tlt (own_lt hi (by omega))).2.1 k) ?_
    show own_G _ _ _ _ (T0.setTop (mkF m 15 #[.val (.int r), .val (.ref a1), .val (.int (0 : Int32)), .val (.int (Int32.ofNat n)), .val (.int (Int32.ofNat n)), .val (.int (Int32.ofNat i))] []))
    refine own_st (fun _ k => XS.bipush X0.here hx rfl (hb hby own_d_jdk_48_m9_15) k) ?_
    show own_G _ _ _ _ (T0.setTop (mkF m 17 #[.val (.int r), .val (.ref a1), .val (.int (0 : Int32)), .val (.int (Int32.ofNat n)), .val (.int (Int32.ofNat n)), .val (.int (Int32.ofNat i))] [(.int (31 : Int32))]))
    refine own_st (fun _ k => XS.iloadN X0.here hx rfl (hb hby own_d_jdk_48_m9_17) rfl k) ?_
    show own_G _ _ _ _ (T0.setTop (mkF m 18 #[.val (.int r), .val (.ref a1), .val (.int (0 : Int32)), .val (.int (Int32.ofNat n)), .val (.int (Int32.ofNat n)), .val (.int (Int32.ofNat i))] [(.int r), (.int (31 : Int32))]))
    refine own_st (fun _ k => XS.imul X0.here hx rfl (hb hby own_d_jdk_48_m9_18) rfl k) ?_
    show own_G _ _ _ _ (T0.setTop (mkF m 19 #[.val (.int r), .val (.ref a1), .val (.int (0 : Int32)), .val (.int (Int32.ofNat n)), .val (.int (Int32.ofNat n)), .val (.int (Int32.ofNat i))] [(.int ((31 : Int32) * r))]))
    refine own_st (fun _ k => XS.aloadN X0.here hx rfl (hb hby own_d_jdk_48_m9_19) rfl rfl k) ?_
    show own_G _ _ _ _ (T0.setTop (mkF m 20 #[.val (.int r), .val (.ref a1), .val (.int (0 : Int32)), .val (.int (Int32.ofNat n)), .val (.int (Int32.ofNat n)), .val (.int (Int32.ofNat i))] [(.ref a1), (.int ((31 : Int32) * r))]))
    refine own_st (fun _ k => XS.iload X0.here hx rfl (hb hby own_d_jdk_48_m9_20) rfl k) ?_
    show own_G _ _ _ _ (T0.setTop (mkF m 22 #[.val (.int r), .val (.ref a1), .val (.int (0 : Int32)), .val (.int (Int32.ofNat n)), .val (.int (Int32.ofNat n)), .val (.int (Int32.ofNat i))] [(.int (Int32.ofNat i)), (.ref a1), (.int ((31 : Int32) * r))]))
    obtain ⟨cl1, Ar1, qk1, Sz1, Mz1, Hz1, Uz1⟩ := id V1
    refine own_st (X0.iaload hx (j := (Int32.ofNat i)) (v := (.int (f i))) (by rw [e0]; exact Ar1.1) (State.isArrayOf_alike hZ.alike Ar1.2.1) Ar1.2.2 (own_in Sz1 hi (by omega)) (own_get Sz1 Hz1 hi (Nat.le_refl _) (by omega)) (g := (mkF m 22 #[.val (.int r), .val (.ref a1), .val (.int (0 : Int32)), .val (.int (Int32.ofNat n)), .val (.int (Int32.ofNat n)), .val (.int (Int32.ofNat i))] [(.int (Int32.ofNat i)), (.ref a1), (.int ((31 : Int32) * r))])) rfl rfl (hb hby own_d_jdk_48_m9_22)) ?_
    show own_G _ _ _ _ (T0.setTop (mkF m 23 #[.val (.int r), .val (.ref a1), .val (.int (0 : Int32)), .val (.int (Int32.ofNat n)), .val (.int (Int32.ofNat n)), .val (.int (Int32.ofNat i))] [(.int (f i)), (.int ((31 : Int32) * r))]))
    refine own_st (fun _ k => XS.iadd X0.here hx rfl (hb hby own_d_jdk_48_m9_23) rfl k) ?_
    show own_G _ _ _ _ (T0.setTop (mkF m 24 #[.val (.int r), .val (.ref a1), .val (.int (0 : Int32)), .val (.int (Int32.ofNat n)), .val (.int (Int32.ofNat n)), .val (.int (Int32.ofNat i))] [(.int (((31 : Int32) * r) + (f i)))]))
    refine own_st (fun _ k => XS.istoreN X0.here hx rfl (hb hby own_d_jdk_48_m9_24) rfl (l' := #[.val (.int (((31 : Int32) * r) + (f i))), .val (.ref a1), .val (.int (0 : Int32)), .val (.int (Int32.ofNat n)), .val (.int (Int32.ofNat n)), .val (.int (Int32.ofNat i))]) rfl k) ?_
    show own_G _ _ _ _ (T0.setTop (mkF m 25 #[.val (.int (((31 : Int32) * r) + (f i))), .val (.ref a1), .val (.int (0 : Int32)), .val (.int (Int32.ofNat n)), .val (.int (Int32.ofNat n)), .val (.int (Int32.ofNat i))] []))
    refine own_st (fun _ k => XS.iinc X0.here hx rfl (hb hby own_d_jdk_48_m9_25) rfl (l' := #[.val (.int (((31 : Int32) * r) + (f i))), .val (.ref a1), .val (.int (0 : Int32)), .val (.int (Int32.ofNat n)), .val (.int (Int32.ofNat n)), .val (.int ((Int32.ofNat i) + (1 : Int32)))]) rfl k) ?_
    show own_G _ _ _ _ (T0.setTop (mkF m 28 #[.val (.int (((31 : Int32) * r) + (f i))), .val (.ref a1), .val (.int (0 : Int32)), .val (.int (Int32.ofNat n)), .val (.int (Int32.ofNat n)), .val (.int ((Int32.ofNat i) + (1 : Int32)))] []))
    refine own_st (fun _ k => XS.goto X0.here hx rfl (pc0 := 28) (pc' := 8) rfl (hb hby own_d_jdk_48_m9_28) (by decide) (by decide) k) ?_
    show own_G _ _ _ _ (T0.setTop (mkF m 8 #[.val (.int (((31 : Int32) * r) + (f i))), .val (.ref a1), .val (.int (0 : Int32)), .val (.int (Int32.ofNat n)), .val (.int (Int32.ofNat n)), .val (.int ((Int32.ofNat i) + (1 : Int32)))] []))
    rw [own_one]
    show own_G _ _ _ _ (T0.setTop (mkF m 8 #[.val (.int (((31 : Int32) * r) + (f i))), .val (.ref a1), .val (.int (0 : Int32)), .val (.int (Int32.ofNat n)), .val (.int (Int32.ofNat n)), .val (.int (Int32.ofNat (i + 1)))] []))
    exact k hi _
  · skip
    refine own_st (fun _ k => XS.icmpYes X0.here hx rfl (pc0 := 12) (pc' := 31) rfl (hb hby own_d_jdk_48_m9_12) rfl (flt (own_nlt hi (by omega) (by omega))).2.1 (by decide) (by decide) k) ?_
    show own_G _ _ _ _ (T0.setTop (mkF m 31 #[.val (.int r), .val (.ref a1), .val (.int (0 : Int32)), .val (.int (Int32.ofNat n)), .val (.int (Int32.ofNat n)), .val (.int (Int32.ofNat i))] []))
    refine own_st (fun _ k => XS.iloadN X0.here hx rfl (hb hby own_d_jdk_48_m9_31) rfl k) ?_
    show own_G _ _ _ _ (T0.setTop (mkF m 32 #[.val (.int r), .val (.ref a1), .val (.int (0 : Int32)), .val (.int (Int32.ofNat n)), .val (.int (Int32.ofNat n)), .val (.int (Int32.ofNat i))] [(.int r)]))
    exact own_retI X0 hx hret hlk (hb hby own_d_jdk_48_m9_32) (by rw [e0]; exact ⟨_, rfl, N0, rfl⟩) hcs hss
theorem own_ash_loop {p : Program} {l : Launch} {e : Env} {s : State} {m : MethodId} {args : Array Value} {below : List Frame} {meth : Method} {c : Code} {Z : State} {a0 : Array Value} {h0 : Heap} {locs : List Loc} {cells slots : Nat} {T0 : State} (a1 : Addr) (ka : ClassId) (f : Nat → Int32) (n : Nat) (hx : p.tables.exec = Jvm.exec) (hZ : Z.Warmed39 s.vm) (hw : ∀ d ∈ tables_1, d.before a0 Z = true) (hby : c.code = jdk_48_method_9_code) (hml : c.maxLocals = 6) (hown : s.vm.findClass "jdk/internal/util/ArraysSupport" = some m.cls) (X0 : Stand p l e ({ frames := 0, cells := 0, slots := 0, locals := 0 } : Room) s m args below meth c T0 locs cells slots) (e0 : T0.heap = h0) (N0 : Fr Z.heap.size locs) (O0 : Old Z Z.heap.size h0) (hret : meth.sig.returnType = some .int) (hlk : meth.locks = false) (hcs : cells ≤ 0) (hss : slots ≤ 0) (hn : n ≤ 4) (V1 : Arv Z h0 a1 ka .int (Int32.ofNat n) (own_vals f n) (.int (0 : Int32))) :
    ∀ (t i : Nat) (r : Int32), i + t = n → own_G p.tables e below (own_F s below (fun v h L => ∃ r : Int32, v = some (.int r) ∧ Fr Z.heap.size L ∧ h = h0) 0 0) (T0.setTop (mkF m 8 #[.val (.int r), .val (.ref a1), .val (.int (0 : Int32)), .val (.int (Int32.ofNat n)), .val (.int (Int32.ofNat n)), .val (.int (Int32.ofNat i))] [])) := by
  intro t
  induction t with
  | zero =>
    intro i r hi
    exact own_ash_turn a1 ka f i n r hx hZ hw hby hml hown X0 e0 N0 O0 hret hlk hcs hss hn V1 (by omega) (fun q => by omega)
  | succ t ih =>
    intro i r hi
    exact own_ash_turn a1 ka f i n r hx hZ hw hby hml hown X0 e0 N0 O0 hret hlk hcs hss hn V1 (by omega) (fun q r => ih (i + 1) r (by omega))
theorem own_pn148 : plainName "jdk/internal/util/ArraysSupport" = true := by first | (simp [plainName, overriddenIn]; done) | decide +kernel
theorem own_d_jdk_48_m9_0 : decode jdk_48_method_9_code 0 = .ok (.iload_n 2, 1) := by decide +kernel
theorem own_d_jdk_48_m9_1 : decode jdk_48_method_9_code 1 = .ok (.iload_n 3, 1) := by decide +kernel
theorem own_d_jdk_48_m9_2 : decode jdk_48_method_9_code 2 = .ok (.iadd, 1) := by decide +kernel
theorem own_d_jdk_48_m9_3 : decode jdk_48_method_9_code 3 = .ok (.istore 4, 2) := by decide +kernel
theorem own_d_jdk_48_m9_5 : decode jdk_48_method_9_code 5 = .ok (.iload_n 2, 1) := by decide +kernel
theorem own_d_jdk_48_m9_6 : decode jdk_48_method_9_code 6 = .ok (.istore 5, 2) := by decide +kernel
set_option maxRecDepth 65536 in
set_option maxHeartbeats 40000000 in
theorem own_ash (l : Launch) (Z : State) (a0 : Array Value) (hw : ∀ d ∈ tables_1, d.before a0 Z = true) (ws : List Jvm.Cond) (r : Int32) (a1 : Addr) (ka : ClassId) (f : Nat → Int32) (n : Nat) (h0 : Heap) (O0 : Old Z Z.heap.size h0) (hn : n ≤ 4) (V1 : Arv Z h0 a1 ka .int (Int32.ofNat n) (own_vals f n) (.int (0 : Int32))) :
    own_Met l Z (⟨"jdk/internal/util/ArraysSupport", "hashCode", "(I[III)I"⟩ : MethodName) jdk_48_method_9_code 6 (some .int) ws ({ frames := 0, cells := 0, slots := 0, locals := 0 } : Room) #[(.int r), (.ref a1), (.int (0 : Int32)), (.int (Int32.ofNat n))] h0 (fun v h L => ∃ r : Int32, v = some (.int r) ∧ Fr Z.heap.size L ∧ h = h0) (({ frames := 0, cells := 0, slots := 0, locals := 0 } : Room)).cells (({ frames := 0, cells := 0, slots := 0, locals := 0 } : Room)).slots := by
  refine own_body (ef := fun m => mkF m 0 #[.val (.int r), .val (.ref a1), .val (.int (0 : Int32)), .val (.int (Int32.ofNat n)), .unset, .unset] []) (plainFor_of_name own_pn148) (fun m => by first | (simp [entryFrame, mkF, argsToLocals, Value.category]; done) | rfl) ?_
  intro p e s m below meth c T0 hx hZ hby hml hown hnm hret hlk X0 e0
  have N0 := Fr.nil Z.heap.size
  have z0 : Z.heap.size ≤ h0.size := O0.2.1
  have Kr := Keep.refl h0 []
  show own_G _ _ _ _ (T0.setTop (mkF m 0 #[.val (.int r), .val (.ref a1), .val (.int (0 : Int32)), .val (.int (Int32.ofNat n)), .unset, .unset] []))
  refine own_st (fun _ k => XS.iloadN X0.here hx rfl (hb hby own_d_jdk_48_m9_0) rfl k) ?_
  show own_G _ _ _ _ (T0.setTop (mkF m 1 #[.val (.int r), .val (.ref a1), .val (.int (0 : Int32)), .val (.int (Int32.ofNat n)), .unset, .unset] [(.int (0 : Int32))]))
  refine own_st (fun _ k => XS.iloadN X0.here hx rfl (hb hby own_d_jdk_48_m9_1) rfl k) ?_
  show own_G _ _ _ _ (T0.setTop (mkF m 2 #[.val (.int r), .val (.ref a1), .val (.int (0 : Int32)), .val (.int (Int32.ofNat n)), .unset, .unset] [(.int (Int32.ofNat n)), (.int (0 : Int32))]))
  refine own_st (fun _ k => XS.iadd X0.here hx rfl (hb hby own_d_jdk_48_m9_2) rfl k) ?_
  show own_G _ _ _ _ (T0.setTop (mkF m 3 #[.val (.int r), .val (.ref a1), .val (.int (0 : Int32)), .val (.int (Int32.ofNat n)), .unset, .unset] [(.int ((0 : Int32) + (Int32.ofNat n)))]))
  rw [Int32.zero_add]
  show own_G _ _ _ _ (T0.setTop (mkF m 3 #[.val (.int r), .val (.ref a1), .val (.int (0 : Int32)), .val (.int (Int32.ofNat n)), .unset, .unset] [(.int (Int32.ofNat n))]))
  refine own_st (fun _ k => XS.istore X0.here hx rfl (hb hby own_d_jdk_48_m9_3) rfl (l' := #[.val (.int r), .val (.ref a1), .val (.int (0 : Int32)), .val (.int (Int32.ofNat n)), .val (.int (Int32.ofNat n)), .unset]) rfl k) ?_
  show own_G _ _ _ _ (T0.setTop (mkF m 5 #[.val (.int r), .val (.ref a1), .val (.int (0 : Int32)), .val (.int (Int32.ofNat n)), .val (.int (Int32.ofNat n)), .unset] []))
  refine own_st (fun _ k => XS.iloadN X0.here hx rfl (hb hby own_d_jdk_48_m9_5) rfl k) ?_
  show own_G _ _ _ _ (T0.setTop (mkF m 6 #[.val (.int r), .val (.ref a1), .val (.int (0 : Int32)), .val (.int (Int32.ofNat n)), .val (.int (Int32.ofNat n)), .unset] [(.int (0 : Int32))]))
  refine own_st (fun _ k => XS.istore X0.here hx rfl (hb hby own_d_jdk_48_m9_6) rfl (l' := #[.val (.int r), .val (.ref a1), .val (.int (0 : Int32)), .val (.int (Int32.ofNat n)), .val (.int (Int32.ofNat n)), .val (.int (0 : Int32))]) rfl k) ?_
  show own_G _ _ _ _ (T0.setTop (mkF m 8 #[.val (.int r), .val (.ref a1), .val (.int (0 : Int32)), .val (.int (Int32.ofNat n)), .val (.int (Int32.ofNat n)), .val (.int (0 : Int32))] []))
  exact own_ash_loop a1 ka f n hx hZ hw hby hml hown X0 e0 N0 O0 hret hlk (Nat.le_refl _) (Nat.le_refl _) hn V1 n 0 r (by omega)
theorem own_d_jdk_48_m4_0 : decode jdk_48_method_4_code 0 = .ok (.iload 4, 2) := by decide +kernel
theorem own_d_jdk_48_m4_2 : decode jdk_48_method_4_code 2 = .ok (.tableswitch 127 4 10 #[42, 55, 127, 127, 88, 101, 114], 42) := by decide +kernel
theorem own_d_jdk_48_m4_116 : decode jdk_48_method_4_code 116 = .ok (.iload_n 3, 1) := by decide +kernel
theorem own_d_jdk_48_m4_117 : decode jdk_48_method_4_code 117 = .ok (.aload_n 0, 1) := by decide +kernel
theorem own_d_jdk_48_m4_118 : decode jdk_48_method_4_code 118 = .ok (.checkcast 82, 3) := by decide +kernel
theorem own_d_jdk_48_m4_121 : decode jdk_48_method_4_code 121 = .ok (.iload_n 1, 1) := by decide +kernel
theorem own_d_jdk_48_m4_122 : decode jdk_48_method_4_code 122 = .ok (.iload_n 2, 1) := by decide +kernel
theorem own_d_jdk_48_m4_123 : decode jdk_48_method_4_code 123 = .ok (.invokestatic 84, 3) := by decide +kernel
theorem own_pd163 : parseMethodDescriptor "(I[III)I" = some ⟨[.int, (.array .int), .int, .int], some .int⟩ := by decide +kernel
theorem own_d_jdk_48_m4_126 : decode jdk_48_method_4_code 126 = .ok (.goto 31, 3) := by decide +kernel
theorem own_d_jdk_48_m4_157 : decode jdk_48_method_4_code 157 = .ok (.ireturn, 1) := by decide +kernel
set_option maxRecDepth 65536 in
set_option maxHeartbeats 40000000 in
theorem own_vhc (l : Launch) (Z : State) (a0 : Array Value) (hw : ∀ d ∈ tables_1, d.before a0 Z = true) (ws : List Jvm.Cond) (a1 : Addr) (ka : ClassId) (f : Nat → Int32) (n : Nat) (h0 : Heap) (O0 : Old Z Z.heap.size h0) (hn : n ≤ 4) (V1 : Arv Z h0 a1 ka .int (Int32.ofNat n) (own_vals f n) (.int (0 : Int32))) (E1 : Exa Z h0 a1 "[I") :
    own_Met l Z (⟨"jdk/internal/util/ArraysSupport", "vectorizedHashCode", "(Ljava/lang/Object;IIII)I"⟩ : MethodName) jdk_48_method_4_code 5 (some .int) ws ({ frames := 1, cells := 0, slots := 0, locals := 17 } : Room) #[(.ref a1), (.int (0 : Int32)), (.int (Int32.ofNat n)), (.int (1 : Int32)), (.int (10 : Int32))] h0 (fun v h L => ∃ r : Int32, v = some (.int r) ∧ Fr Z.heap.size L ∧ h = h0) (({ frames := 1, cells := 0, slots := 0, locals := 17 } : Room)).cells (({ frames := 1, cells := 0, slots := 0, locals := 17 } : Room)).slots := by
  refine own_body (ef := fun m => mkF m 0 #[.val (.ref a1), .val (.int (0 : Int32)), .val (.int (Int32.ofNat n)), .val (.int (1 : Int32)), .val (.int (10 : Int32))] []) (plainFor_of_name own_pn148) (fun m => by first | (simp [entryFrame, mkF, argsToLocals, Value.category]; done) | rfl) ?_
  intro p e s m below meth c T0 hx hZ hby hml hown hnm hret hlk X0 e0
  have N0 := Fr.nil Z.heap.size
  have z0 : Z.heap.size ≤ h0.size := O0.2.1
  have Kr := Keep.refl h0 []
  show own_G _ _ _ _ (T0.setTop (mkF m 0 #[.val (.ref a1), .val (.int (0 : Int32)), .val (.int (Int32.ofNat n)), .val (.int (1 : Int32)), .val (.int (10 : Int32))] []))
  refine own_st (fun _ k => XS.iload X0.here hx rfl (hb hby own_d_jdk_48_m4_0) rfl k) ?_
  show own_G _ _ _ _ (T0.setTop (mkF m 2 #[.val (.ref a1), .val (.int (0 : Int32)), .val (.int (Int32.ofNat n)), .val (.int (1 : Int32)), .val (.int (10 : Int32))] [(.int (10 : Int32))]))
  refine own_st (fun _ k => XS.tswIn X0.here hx rfl (pc0 := 2) (pc' := 116) rfl (hb hby own_d_jdk_48_m4_2) rfl (by decide) (o := 114) rfl (by decide) (by decide) k) ?_
  show own_G _ _ _ _ (T0.setTop (mkF m 116 #[.val (.ref a1), .val (.int (0 : Int32)), .val (.int (Int32.ofNat n)), .val (.int (1 : Int32)), .val (.int (10 : Int32))] []))
  refine own_st (fun _ k => XS.iloadN X0.here hx rfl (hb hby own_d_jdk_48_m4_116) rfl k) ?_
  show own_G _ _ _ _ (T0.setTop (mkF m 117 #[.val (.ref a1), .val (.int (0 : Int32)), .val (.int (Int32.ofNat n)), .val (.int (1 : Int32)), .val (.int (10 : Int32))] [(.int (1 : Int32))]))
  refine own_st (fun _ k => XS.aloadN X0.here hx rfl (hb hby own_d_jdk_48_m4_117) rfl rfl k) ?_
  show own_G _ _ _ _ (T0.setTop (mkF m 118 #[.val (.ref a1), .val (.int (0 : Int32)), .val (.int (Int32.ofNat n)), .val (.int (1 : Int32)), .val (.int (10 : Int32))] [(.ref a1), (.int (1 : Int32))]))
  obtain ⟨T1, X1, e1, st1⟩ := castY X0 hx hZ hown (hw _ (List.mem_of_getElem? (i := 63) rfl)) e0 (Ins.self E1) (g := (mkF m 118 #[.val (.ref a1), .val (.int (0 : Int32)), .val (.int (Int32.ofNat n)), .val (.int (1 : Int32)), .val (.int (10 : Int32))] [(.ref a1), (.int (1 : Int32))])) rfl rfl (hb hby own_d_jdk_48_m4_118)
  refine own_st st1 ?_
  show own_G _ _ _ _ (T1.setTop (mkF m 121 #[.val (.ref a1), .val (.int (0 : Int32)), .val (.int (Int32.ofNat n)), .val (.int (1 : Int32)), .val (.int (10 : Int32))] [(.ref a1), (.int (1 : Int32))]))
  refine own_st (fun _ k => XS.iloadN X1.here hx rfl (hb hby own_d_jdk_48_m4_121) rfl k) ?_
  show own_G _ _ _ _ (T1.setTop (mkF m 122 #[.val (.ref a1), .val (.int (0 : Int32)), .val (.int (Int32.ofNat n)), .val (.int (1 : Int32)), .val (.int (10 : Int32))] [(.int (0 : Int32)), (.ref a1), (.int (1 : Int32))]))
  refine own_st (fun _ k => XS.iloadN X1.here hx rfl (hb hby own_d_jdk_48_m4_122) rfl k) ?_
  show own_G _ _ _ _ (T1.setTop (mkF m 123 #[.val (.ref a1), .val (.int (0 : Int32)), .val (.int (Int32.ofNat n)), .val (.int (1 : Int32)), .val (.int (10 : Int32))] [(.int (Int32.ofNat n)), (.int (0 : Int32)), (.ref a1), (.int (1 : Int32))]))
  obtain ⟨_, _, ⟨T2, L2, k2, n2⟩, -, X2, ⟨Lc2, hQ2, l2, y2, z2⟩, st2⟩ := Jvm.LawKit.callS X1 hx (y := (⟨"jdk/internal/util/ArraysSupport", "hashCode", "(I[III)I"⟩ : MethodName)) hown (mvT hZ (hw _ (List.mem_of_getElem? (i := 65) rfl))) (mvT hZ (hw _ (List.mem_of_getElem? (i := 66) rfl))) (mvT hZ (hw _ (List.mem_of_getElem? (i := 61) rfl))) (mvT hZ (hw _ (List.mem_of_getElem? (i := 67) rfl))) (by decide) (own_back (rm := ({ frames := 0, cells := 0, slots := 0, locals := 0 } : Room)) (W := 0) (own_ash l Z a0 hw [] (1 : Int32) a1 ka f n h0 O0 hn V1) hZ (hw _ (List.mem_of_getElem? (i := 67) rfl)) (hw _ (List.mem_of_getElem? (i := 61) rfl)) (by decide) (by decide)) (g := (mkF m 123 #[.val (.ref a1), .val (.int (0 : Int32)), .val (.int (Int32.ofNat n)), .val (.int (1 : Int32)), .val (.int (10 : Int32))] [(.int (Int32.ofNat n)), (.int (0 : Int32)), (.ref a1), (.int (1 : Int32))])) rfl (by rw [hml]; rfl) (argsL := [(.int (1 : Int32)), (.ref a1), (.int (0 : Int32)), (.int (Int32.ofNat n))]) (rest := []) (lenOf own_pd163 rfl) rfl (by show 2 * 0 + _ ≤ _; exact Nat.le_of_eq rfl) (hb hby own_d_jdk_48_m4_123) (fun _ _ => ⟨rfl, e1, (by decide : 0 + 0 ≤ _), (by decide : 0 + 0 ≤ _)⟩)
  dsimp only [Pt.U, Pt.locs, Pt.cells, Pt.slots] at X2 l2 y2 z2 st2 hQ2
  subst l2 y2 z2
  obtain ⟨r2, rfl, N2q, eh2⟩ := hQ2
  have N2 := Fr.app N0 N2q
  refine own_st st2 ?_
  show own_G _ _ _ _ (T2.setTop (mkF m 126 #[.val (.ref a1), .val (.int (0 : Int32)), .val (.int (Int32.ofNat n)), .val (.int (1 : Int32)), .val (.int (10 : Int32))] [(.int r2)]))
  refine own_st (fun _ k => XS.goto X2.here hx rfl (pc0 := 126) (pc' := 157) rfl (hb hby own_d_jdk_48_m4_126) (by decide) (by decide) k) ?_
  show own_G _ _ _ _ (T2.setTop (mkF m 157 #[.val (.ref a1), .val (.int (0 : Int32)), .val (.int (Int32.ofNat n)), .val (.int (1 : Int32)), .val (.int (10 : Int32))] [(.int r2)]))
  exact own_retI X2 hx hret hlk (hb hby own_d_jdk_48_m4_157) (by rw [eh2]; exact ⟨_, rfl, N2, rfl⟩) (by decide) (by decide)
theorem own_d_jdk_65_m150_0 : decode jdk_65_method_150_code 0 = .ok (.aload_n 0, 1) := by decide +kernel
theorem own_d_jdk_65_m150_1 : decode jdk_65_method_150_code 1 = .ok (.ifnonnull 5, 3) := by decide +kernel
theorem own_d_jdk_65_m150_6 : decode jdk_65_method_150_code 6 = .ok (.aload_n 0, 1) := by decide +kernel
theorem own_d_jdk_65_m150_7 : decode jdk_65_method_150_code 7 = .ok (.arraylength, 1) := by decide +kernel
theorem own_d_jdk_65_m150_8 : decode jdk_65_method_150_code 8 = .ok (.lookupswitch 41 #[(0, 28), (1, 32)], 28) := by decide +kernel
theorem own_d_jdk_65_m150_36 : decode jdk_65_method_150_code 36 = .ok (.iconst 1, 1) := by decide +kernel
theorem own_d_jdk_65_m150_37 : decode jdk_65_method_150_code 37 = .ok (.goto 22, 3) := by decide +kernel
theorem own_d_jdk_65_m150_59 : decode jdk_65_method_150_code 59 = .ok (.ireturn, 1) := by decide +kernel
theorem own_d_jdk_65_m150_40 : decode jdk_65_method_150_code 40 = .ok (.bipush 31, 2) := by decide +kernel
theorem own_d_jdk_65_m150_42 : decode jdk_65_method_150_code 42 = .ok (.aload_n 0, 1) := by decide +kernel
theorem own_d_jdk_65_m150_43 : decode jdk_65_method_150_code 43 = .ok (.iconst 0, 1) := by decide +kernel
theorem own_d_jdk_65_m150_44 : decode jdk_65_method_150_code 44 = .ok (.iaload, 1) := by decide +kernel
theorem own_d_jdk_65_m150_45 : decode jdk_65_method_150_code 45 = .ok (.iadd, 1) := by decide +kernel
theorem own_d_jdk_65_m150_46 : decode jdk_65_method_150_code 46 = .ok (.goto 13, 3) := by decide +kernel
theorem own_d_jdk_65_m150_49 : decode jdk_65_method_150_code 49 = .ok (.aload_n 0, 1) := by decide +kernel
theorem own_d_jdk_65_m150_50 : decode jdk_65_method_150_code 50 = .ok (.iconst 0, 1) := by decide +kernel
theorem own_d_jdk_65_m150_51 : decode jdk_65_method_150_code 51 = .ok (.aload_n 0, 1) := by decide +kernel
theorem own_d_jdk_65_m150_52 : decode jdk_65_method_150_code 52 = .ok (.arraylength, 1) := by decide +kernel
theorem own_d_jdk_65_m150_53 : decode jdk_65_method_150_code 53 = .ok (.iconst 1, 1) := by decide +kernel
theorem own_d_jdk_65_m150_54 : decode jdk_65_method_150_code 54 = .ok (.bipush 10, 2) := by decide +kernel
theorem own_d_jdk_65_m150_56 : decode jdk_65_method_150_code 56 = .ok (.invokestatic 379, 3) := by decide +kernel
theorem own_pd187 : parseMethodDescriptor "(Ljava/lang/Object;IIII)I" = some ⟨[(.object "java/lang/Object"), .int, .int, .int, .int], some .int⟩ := by decide +kernel
set_option maxRecDepth 65536 in
set_option maxHeartbeats 40000000 in
theorem own_hcI (l : Launch) (Z : State) (a0 : Array Value) (hw : ∀ d ∈ tables_1, d.before a0 Z = true) (ws : List Jvm.Cond) (a1 : Addr) (ka : ClassId) (f : Nat → Int32) (n : Nat) (h0 : Heap) (O0 : Old Z Z.heap.size h0) (hn : n ≤ 4) (V1 : Arv Z h0 a1 ka .int (Int32.ofNat n) (own_vals f n) (.int (0 : Int32))) (E1 : Exa Z h0 a1 "[I") :
    own_Met l Z (⟨"java/util/Arrays", "hashCode", "([I)I"⟩ : MethodName) jdk_65_method_150_code 1 (some .int) ws ({ frames := 2, cells := 0, slots := 0, locals := 33 } : Room) #[(.ref a1)] h0 (fun v h L => ∃ r : Int32, v = some (.int r) ∧ Fr Z.heap.size L ∧ h = h0) (({ frames := 2, cells := 0, slots := 0, locals := 33 } : Room)).cells (({ frames := 2, cells := 0, slots := 0, locals := 33 } : Room)).slots := by
  refine own_body (ef := fun m => mkF m 0 #[.val (.ref a1)] []) (plainFor_of_name own_pn95) (fun m => by first | (simp [entryFrame, mkF, argsToLocals, Value.category]; done) | rfl) ?_
  intro p e s m below meth c T0 hx hZ hby hml hown hnm hret hlk X0 e0
  have N0 := Fr.nil Z.heap.size
  have z0 : Z.heap.size ≤ h0.size := O0.2.1
  have Kr := Keep.refl h0 []
  show own_G _ _ _ _ (T0.setTop (mkF m 0 #[.val (.ref a1)] []))
  refine own_st (fun _ k => XS.aloadN X0.here hx rfl (hb hby own_d_jdk_65_m150_0) rfl rfl k) ?_
  show own_G _ _ _ _ (T0.setTop (mkF m 1 #[.val (.ref a1)] [(.ref a1)]))
  refine own_st (fun _ k => XS.ifnonnullYes X0.here hx rfl (pc0 := 1) (pc' := 6) rfl (hb hby own_d_jdk_65_m150_1) rfl (by decide) (by decide) k) ?_
  show own_G _ _ _ _ (T0.setTop (mkF m 6 #[.val (.ref a1)] []))
  refine own_st (fun _ k => XS.aloadN X0.here hx rfl (hb hby own_d_jdk_65_m150_6) rfl rfl k) ?_
  show own_G _ _ _ _ (T0.setTop (mkF m 7 #[.val (.ref a1)] [(.ref a1)]))
  obtain ⟨cl1, Ar1, qk1, Sz1, Mz1, Hz1, Uz1⟩ := id V1
  refine own_st (X0.arraylength hx (by rw [e0]; exact Ar1.1) (State.isArrayOf_alike hZ.alike Ar1.2.1) (g := (mkF m 7 #[.val (.ref a1)] [(.ref a1)])) rfl rfl (hb hby own_d_jdk_65_m150_7)) ?_
  rw [len_of Sz1 Mz1]
  show own_G _ _ _ _ (T0.setTop (mkF m 8 #[.val (.ref a1)] [(.int (Int32.ofNat n))]))
  by_cases h0n : n = 0
  · skip
    refine own_st (X0.lookupswitchHit hx (g := (mkF m 8 #[.val (.ref a1)] [(.int (Int32.ofNat n))])) rfl (rest := []) rfl (hb hby own_d_jdk_65_m150_8) (by decide) (a := 0) (off := 28) (by rw [own_nat (by omega), h0n]; rfl) (by show (0 : Int) ≤ (8 : Nat) + (28 : Int); decide)) ?_
    show own_G _ _ _ _ (T0.setTop (mkF m 36 #[.val (.ref a1)] []))
    refine own_st (fun _ k => XS.iconst X0.here hx rfl (hb hby own_d_jdk_65_m150_36) k) ?_
    show own_G _ _ _ _ (T0.setTop (mkF m 37 #[.val (.ref a1)] [(.int (1 : Int32))]))
    refine own_st (fun _ k => XS.goto X0.here hx rfl (pc0 := 37) (pc' := 59) rfl (hb hby own_d_jdk_65_m150_37) (by decide) (by decide) k) ?_
    show own_G _ _ _ _ (T0.setTop (mkF m 59 #[.val (.ref a1)] [(.int (1 : Int32))]))
    exact own_retI X0 hx hret hlk (hb hby own_d_jdk_65_m150_59) (by rw [e0]; exact ⟨_, rfl, N0, rfl⟩) (by decide) (by decide)
  · skip
    by_cases h1n : n = 1
    · skip
      refine own_st (X0.lookupswitchHit hx (g := (mkF m 8 #[.val (.ref a1)] [(.int (Int32.ofNat n))])) rfl (rest := []) rfl (hb hby own_d_jdk_65_m150_8) (by decide) (a := 1) (off := 32) (by rw [own_nat (by omega), h1n]; rfl) (by show (0 : Int) ≤ (8 : Nat) + (32 : Int); decide)) ?_
      show own_G _ _ _ _ (T0.setTop (mkF m 40 #[.val (.ref a1)] []))
      refine own_st (fun _ k => XS.bipush X0.here hx rfl (hb hby own_d_jdk_65_m150_40) k) ?_
      show own_G _ _ _ _ (T0.setTop (mkF m 42 #[.val (.ref a1)] [(.int (31 : Int32))]))
      refine own_st (fun _ k => XS.aloadN X0.here hx rfl (hb hby own_d_jdk_65_m150_42) rfl rfl k) ?_
      show own_G _ _ _ _ (T0.setTop (mkF m 43 #[.val (.ref a1)] [(.ref a1), (.int (31 : Int32))]))
      refine own_st (fun _ k => XS.iconst X0.here hx rfl (hb hby own_d_jdk_65_m150_43) k) ?_
      show own_G _ _ _ _ (T0.setTop (mkF m 44 #[.val (.ref a1)] [(.int (0 : Int32)), (.ref a1), (.int (31 : Int32))]))
      obtain ⟨cl2, Ar2, qk2, Sz2, Mz2, Hz2, Uz2⟩ := id V1
      refine own_st (X0.iaload hx (j := (0 : Int32)) (v := (.int (f 0))) (by rw [e0]; exact Ar2.1) (State.isArrayOf_alike hZ.alike Ar2.2.1) Ar2.2.2 (own_in (i := 0) Sz2 (by omega) (by omega)) (own_get (i := 0) Sz2 Hz2 (by omega) (Nat.le_refl _) (by omega)) (g := (mkF m 44 #[.val (.ref a1)] [(.int (0 : Int32)), (.ref a1), (.int (31 : Int32))])) rfl rfl (hb hby own_d_jdk_65_m150_44)) ?_
      show own_G _ _ _ _ (T0.setTop (mkF m 45 #[.val (.ref a1)] [(.int (f 0)), (.int (31 : Int32))]))
      refine own_st (fun _ k => XS.iadd X0.here hx rfl (hb hby own_d_jdk_65_m150_45) rfl k) ?_
      show own_G _ _ _ _ (T0.setTop (mkF m 46 #[.val (.ref a1)] [(.int ((31 : Int32) + (f 0)))]))
      refine own_st (fun _ k => XS.goto X0.here hx rfl (pc0 := 46) (pc' := 59) rfl (hb hby own_d_jdk_65_m150_46) (by decide) (by decide) k) ?_
      show own_G _ _ _ _ (T0.setTop (mkF m 59 #[.val (.ref a1)] [(.int ((31 : Int32) + (f 0)))]))
      exact own_retI X0 hx hret hlk (hb hby own_d_jdk_65_m150_59) (by rw [e0]; exact ⟨_, rfl, N0, rfl⟩) (by decide) (by decide)
    · skip
      refine own_st (X0.lookupswitchMiss hx (g := (mkF m 8 #[.val (.ref a1)] [(.int (Int32.ofNat n))])) rfl (rest := []) rfl (hb hby own_d_jdk_65_m150_8) (by decide) (by
            rw [own_nat (by omega)]
            refine find_miss fun q hq => ?_
            simp only [List.mem_cons, List.not_mem_nil, or_false] at hq
            rcases hq with rfl | rfl
            · show (0 : Int) ≠ (n : Int); omega
            · show (1 : Int) ≠ (n : Int); omega) (by show (0 : Int) ≤ (8 : Nat) + (41 : Int); decide)) ?_
      show own_G _ _ _ _ (T0.setTop (mkF m 49 #[.val (.ref a1)] []))
      refine own_st (fun _ k => XS.aloadN X0.here hx rfl (hb hby own_d_jdk_65_m150_49) rfl rfl k) ?_
      show own_G _ _ _ _ (T0.setTop (mkF m 50 #[.val (.ref a1)] [(.ref a1)]))
      refine own_st (fun _ k => XS.iconst X0.here hx rfl (hb hby own_d_jdk_65_m150_50) k) ?_
      show own_G _ _ _ _ (T0.setTop (mkF m 51 #[.val (.ref a1)] [(.int (0 : Int32)), (.ref a1)]))
      refine own_st (fun _ k => XS.aloadN X0.here hx rfl (hb hby own_d_jdk_65_m150_51) rfl rfl k) ?_
      show own_G _ _ _ _ (T0.setTop (mkF m 52 #[.val (.ref a1)] [(.ref a1), (.int (0 : Int32)), (.ref a1)]))
      obtain ⟨cl3, Ar3, qk3, Sz3, Mz3, Hz3, Uz3⟩ := id V1
      refine own_st (X0.arraylength hx (by rw [e0]; exact Ar3.1) (State.isArrayOf_alike hZ.alike Ar3.2.1) (g := (mkF m 52 #[.val (.ref a1)] [(.ref a1), (.int (0 : Int32)), (.ref a1)])) rfl rfl (hb hby own_d_jdk_65_m150_52)) ?_
      rw [len_of Sz3 Mz3]
      show own_G _ _ _ _ (T0.setTop (mkF m 53 #[.val (.ref a1)] [(.int (Int32.ofNat n)), (.int (0 : Int32)), (.ref a1)]))
      refine own_st (fun _ k => XS.iconst X0.here hx rfl (hb hby own_d_jdk_65_m150_53) k) ?_
      show own_G _ _ _ _ (T0.setTop (mkF m 54 #[.val (.ref a1)] [(.int (1 : Int32)), (.int (Int32.ofNat n)), (.int (0 : Int32)), (.ref a1)]))
      refine own_st (fun _ k => XS.bipush X0.here hx rfl (hb hby own_d_jdk_65_m150_54) k) ?_
      show own_G _ _ _ _ (T0.setTop (mkF m 56 #[.val (.ref a1)] [(.int (10 : Int32)), (.int (1 : Int32)), (.int (Int32.ofNat n)), (.int (0 : Int32)), (.ref a1)]))
      obtain ⟨_, _, ⟨T4, L4, k4, n4⟩, -, X4, ⟨Lc4, hQ4, l4, y4, z4⟩, st4⟩ := Jvm.LawKit.callS X0 hx (y := (⟨"jdk/internal/util/ArraysSupport", "vectorizedHashCode", "(Ljava/lang/Object;IIII)I"⟩ : MethodName)) hown (mvT hZ (hw _ (List.mem_of_getElem? (i := 59) rfl))) (mvT hZ (hw _ (List.mem_of_getElem? (i := 60) rfl))) (mvT hZ (hw _ (List.mem_of_getElem? (i := 61) rfl))) (mvT hZ (hw _ (List.mem_of_getElem? (i := 62) rfl))) (by decide) (own_back (rm := ({ frames := 1, cells := 0, slots := 0, locals := 17 } : Room)) (W := 0) (own_vhc l Z a0 hw [] a1 ka f n h0 O0 hn V1 E1) hZ (hw _ (List.mem_of_getElem? (i := 62) rfl)) (hw _ (List.mem_of_getElem? (i := 61) rfl)) (by decide) (by decide)) (g := (mkF m 56 #[.val (.ref a1)] [(.int (10 : Int32)), (.int (1 : Int32)), (.int (Int32.ofNat n)), (.int (0 : Int32)), (.ref a1)])) rfl (by rw [hml]; rfl) (argsL := [(.ref a1), (.int (0 : Int32)), (.int (Int32.ofNat n)), (.int (1 : Int32)), (.int (10 : Int32))]) (rest := []) (lenOf own_pd187 rfl) rfl (by show 2 * 0 + _ ≤ _; exact Nat.le_of_eq rfl) (hb hby own_d_jdk_65_m150_56) (fun _ _ => ⟨rfl, e0, (by decide : 0 + 0 ≤ _), (by decide : 0 + 0 ≤ _)⟩)
      dsimp only [Pt.U, Pt.locs, Pt.cells, Pt.slots] at X4 l4 y4 z4 st4 hQ4
      subst l4 y4 z4
      obtain ⟨r4, rfl, N4q, eh4⟩ := hQ4
      have N4 := Fr.app N0 N4q
      refine own_st st4 ?_
      show own_G _ _ _ _ (T4.setTop (mkF m 59 #[.val (.ref a1)] [(.int r4)]))
      exact own_retI X4 hx hret hlk (hb hby own_d_jdk_65_m150_59) (by rw [eh4]; exact ⟨_, rfl, N4, rfl⟩) (by decide) (by decide)
theorem own_d_jdk_65_m149_16 : decode jdk_65_method_149_code 16 = .ok (.iload 4, 2) := by decide +kernel
theorem own_d_jdk_65_m149_18 : decode jdk_65_method_149_code 18 = .ok (.iload_n 3, 1) := by decide +kernel
theorem own_d_jdk_65_m149_19 : decode jdk_65_method_149_code 19 = .ok (.if_icmp .ge 34, 3) := by decide +kernel
theorem own_d_jdk_65_m149_22 : decode jdk_65_method_149_code 22 = .ok (.aload_n 2, 1) := by decide +kernel
theorem own_d_jdk_65_m149_23 : decode jdk_65_method_149_code 23 = .ok (.iload 4, 2) := by decide +kernel
theorem own_d_jdk_65_m149_25 : decode jdk_65_method_149_code 25 = .ok (.laload, 1) := by decide +kernel
theorem own_d_jdk_65_m149_26 : decode jdk_65_method_149_code 26 = .ok (.lstore 5, 2) := by decide +kernel
theorem own_d_jdk_65_m149_28 : decode jdk_65_method_149_code 28 = .ok (.lload 5, 2) := by decide +kernel
theorem own_d_jdk_65_m149_30 : decode jdk_65_method_149_code 30 = .ok (.lload 5, 2) := by decide +kernel
theorem own_d_jdk_65_m149_32 : decode jdk_65_method_149_code 32 = .ok (.bipush 32, 2) := by decide +kernel
theorem own_d_jdk_65_m149_34 : decode jdk_65_method_149_code 34 = .ok (.lushr, 1) := by decide +kernel
theorem own_d_jdk_65_m149_35 : decode jdk_65_method_149_code 35 = .ok (.lxor, 1) := by decide +kernel
theorem own_d_jdk_65_m149_36 : decode jdk_65_method_149_code 36 = .ok (.l2i, 1) := by decide +kernel
theorem own_d_jdk_65_m149_37 : decode jdk_65_method_149_code 37 = .ok (.istore 7, 2) := by decide +kernel
theorem own_d_jdk_65_m149_39 : decode jdk_65_method_149_code 39 = .ok (.bipush 31, 2) := by decide +kernel
theorem own_d_jdk_65_m149_41 : decode jdk_65_method_149_code 41 = .ok (.iload_n 1, 1) := by decide +kernel
theorem own_d_jdk_65_m149_42 : decode jdk_65_method_149_code 42 = .ok (.imul, 1) := by decide +kernel
theorem own_d_jdk_65_m149_43 : decode jdk_65_method_149_code 43 = .ok (.iload 7, 2) := by decide +kernel
theorem own_d_jdk_65_m149_45 : decode jdk_65_method_149_code 45 = .ok (.iadd, 1) := by decide +kernel
theorem own_d_jdk_65_m149_46 : decode jdk_65_method_149_code 46 = .ok (.istore_n 1, 1) := by decide +kernel
theorem own_d_jdk_65_m149_47 : decode jdk_65_method_149_code 47 = .ok (.iinc 4 1, 3) := by decide +kernel
theorem own_d_jdk_65_m149_50 : decode jdk_65_method_149_code 50 = .ok (.goto (-34), 3) := by decide +kernel
theorem own_d_jdk_65_m149_53 : decode jdk_65_method_149_code 53 = .ok (.iload_n 1, 1) := by decide +kernel
theorem own_d_jdk_65_m149_54 : decode jdk_65_method_149_code 54 = .ok (.ireturn, 1) := by decide +kernel
set_option maxRecDepth 65536 in
set_option maxHeartbeats 40000000 in
theorem own_hj_turn0 {p : Program} {l : Launch} {e : Env} {s : State} {m : MethodId} {args : Array Value} {below : List Frame} {meth : Method} {c : Code} {Z : State} {a0 : Array Value} {locs : List Loc} {cells slots : Nat} {T0 : State} {h0 : Heap}  (a1 : Addr) (ka : ClassId) (g : Nat → Int64) (i n : Nat) (r : Int32) (hx : p.tables.exec = Jvm.exec) (hZ : Z.Warmed39 s.vm) (hw : ∀ d ∈ tables_1, d.before a0 Z = true) (hby : c.code = jdk_65_method_149_code) (hml : c.maxLocals = 8) (hown : s.vm.findClass "java/util/Arrays" = some m.cls) (X0 : Stand p l e ({ frames := 0, cells := 0, slots := 0, locals := 0 } : Room) s m args below meth c T0 locs cells slots) (e0 : T0.heap = h0) (N0 : Fr Z.heap.size locs) (O0 : Old Z Z.heap.size h0) (hret : meth.sig.returnType = some .int) (hlk : meth.locks = false) (hcs : cells ≤ 0) (hss : slots ≤ 0) (hn : n ≤ 4) (V1 : Arv Z h0 a1 ka .long (Int32.ofNat n) (own_valsL g n) (.long (0 : Int64))) (hi0 : i ≤ n)
    (k : i < n → ∀ (r : Int32) (x : Int64) (z : Int32), own_G p.tables e below (own_F s below (fun v h L => ∃ r : Int32, v = some (.int r) ∧ Fr Z.heap.size L ∧ h = h0) 0 0) (T0.setTop (mkF m 16 #[.val (.ref a1), .val (.int r), .val (.ref a1), .val (.int (Int32.ofNat n)), .val (.int (Int32.ofNat (i + 1))), .val (.long x), .second, .val (.int z)] []))) :
    own_G p.tables e below (own_F s below (fun v h L => ∃ r : Int32, v = some (.int r) ∧ Fr Z.heap.size L ∧ h = h0) 0 0) (T0.setTop (mkF m 16 #[.val (.ref a1), .val (.int r), .val (.ref a1), .val (.int (Int32.ofNat n)), .val (.int (Int32.ofNat i)), .unset, .unset, .unset] [])) := by
  have z0 : Z.heap.size ≤ h0.size := O0.2.1
  have Kr := Keep.refl h0 []
  show own_G _ _ _ _ (T0.setTop (mkF m 16 #[.val (.ref a1), .val (.int r), .val (.ref a1), .val (.int (Int32.ofNat n)), .val (.int (Int32.ofNat i)), .unset, .unset, .unset] []))
  refine own_st (fun _ k => XS.iload X0.here hx rfl (hb hby own_d_jdk_65_m149_16) rfl k) ?_
  show own_G _ _ _ _ (T0.setTop (mkF m 18 #[.val (.ref a1), .val (.int r), .val (.ref a1), .val (.int (Int32.ofNat n)), .val (.int (Int32.ofNat i)), .unset, .unset, .unset] [(.int (Int32.ofNat i))]))
  refine own_st (fun _ k => XS.iloadN X0.here hx rfl (hb hby own_d_jdk_65_m149_18) rfl k) ?_
  show own_G _ _ _ _ (T0.setTop (mkF m 19 #[.val (.ref a1), .val (.int r), .val (.ref a1), .val (.int (Int32.ofNat n)), .val (.int (Int32.ofNat i)), .unset, .unset, .unset] [(.int (Int32.ofNat n)), (.int (Int32.ofNat i))]))
  by_cases hi : i < n
  · skip
    refine own_st (fun _ k => XS.icmpNo X0.here hx rfl (hb hby own_d_jdk_65_m149_19) rfl (tlt (own_lt hi (by omega))).2.1 k) ?_
    show own_G _ _ _ _ (T0.setTop (mkF m 22 #[.val (.ref a1), .val (.int r), .val (.ref a1), .val (.int (Int32.ofNat n)), .val (.int (Int32.ofNat i)), .unset, .unset, .unset] []))
    refine own_st (fun _ k => XS.aloadN X0.here hx rfl (hb hby own_d_jdk_65_m149_22) rfl rfl k) ?_
    show own_G _ _ _ _ (T0.setTop (mkF m 23 #[.val (.ref a1), .val (.int r), .val (.ref a1), .val (.int (Int32.ofNat n)), .val (.int (Int32.ofNat i)), .unset, .unset, .unset] [(.ref a1)]))
    refine own_st (fun _ k => XS.iload X0.here hx rfl (hb hby own_d_jdk_65_m149_23) rfl k) ?_
    show own_G _ _ _ _ (T0.setTop (mkF m 25 #[.val (.ref a1), .val (.int r), .val (.ref a1), .val (.int (Int32.ofNat n)), .val (.int (Int32.ofNat i)), .unset, .unset, .unset] [(.int (Int32.ofNat i)), (.ref a1)]))
    obtain ⟨cl1, Ar1, qk1, Sz1, Mz1, Hz1, Uz1⟩ := id V1
    refine own_st (X0.laload hx (j := (Int32.ofNat i)) (v := (.long (g i))) (by rw [e0]; exact Ar1.1) (State.isArrayOf_alike hZ.alike Ar1.2.1) Ar1.2.2 (own_in Sz1 hi (by omega)) (own_getL Sz1 Hz1 hi (Nat.le_refl _) (by omega)) (g := (mkF m 25 #[.val (.ref a1), .val (.int r), .val (.ref a1), .val (.int (Int32.ofNat n)), .val (.int (Int32.ofNat i)), .unset, .unset, .unset] [(.int (Int32.ofNat i)), (.ref a1)])) rfl rfl (hb hby own_d_jdk_65_m149_25)) ?_
    show own_G _ _ _ _ (T0.setTop (mkF m 26 #[.val (.ref a1), .val (.int r), .val (.ref a1), .val (.int (Int32.ofNat n)), .val (.int (Int32.ofNat i)), .unset, .unset, .unset] [(.long (g i))]))
    refine own_st (fun _ k => XS.lstore X0.here hx rfl (hb hby own_d_jdk_65_m149_26) rfl (l' := #[.val (.ref a1), .val (.int r), .val (.ref a1), .val (.int (Int32.ofNat n)), .val (.int (Int32.ofNat i)), .val (.long (g i)), .second, .unset]) rfl k) ?_
    show own_G _ _ _ _ (T0.setTop (mkF m 28 #[.val (.ref a1), .val (.int r), .val (.ref a1), .val (.int (Int32.ofNat n)), .val (.int (Int32.ofNat i)), .val (.long (g i)), .second, .unset] []))
    refine own_st (fun _ k => XS.lload X0.here hx rfl (hb hby own_d_jdk_65_m149_28) rfl k) ?_
    show own_G _ _ _ _ (T0.setTop (mkF m 30 #[.val (.ref a1), .val (.int r), .val (.ref a1), .val (.int (Int32.ofNat n)), .val (.int (Int32.ofNat i)), .val (.long (g i)), .second, .unset] [(.long (g i))]))
    refine own_st (fun _ k => XS.lload X0.here hx rfl (hb hby own_d_jdk_65_m149_30) rfl k) ?_
    show own_G _ _ _ _ (T0.setTop (mkF m 32 #[.val (.ref a1), .val (.int r), .val (.ref a1), .val (.int (Int32.ofNat n)), .val (.int (Int32.ofNat i)), .val (.long (g i)), .second, .unset] [(.long (g i)), (.long (g i))]))
    refine own_st (fun _ k => XS.bipush X0.here hx rfl (hb hby own_d_jdk_65_m149_32) k) ?_
    show own_G _ _ _ _ (T0.setTop (mkF m 34 #[.val (.ref a1), .val (.int r), .val (.ref a1), .val (.int (Int32.ofNat n)), .val (.int (Int32.ofNat i)), .val (.long (g i)), .second, .unset] [(.int (32 : Int32)), (.long (g i)), (.long (g i))]))
    refine own_st (fun _ k => XS.lushr X0.here hx rfl (hb hby own_d_jdk_65_m149_34) rfl k) ?_
    show own_G _ _ _ _ (T0.setTop (mkF m 35 #[.val (.ref a1), .val (.int r), .val (.ref a1), .val (.int (Int32.ofNat n)), .val (.int (Int32.ofNat i)), .val (.long (g i)), .second, .unset] [(.long (((g i).toUInt64 >>> ((32 : Int32) &&& 0x3f).toInt64.toUInt64).toInt64)), (.long (g i))]))
    refine own_st (fun _ k => XS.lxor X0.here hx rfl (hb hby own_d_jdk_65_m149_35) rfl k) ?_
    show own_G _ _ _ _ (T0.setTop (mkF m 36 #[.val (.ref a1), .val (.int r), .val (.ref a1), .val (.int (Int32.ofNat n)), .val (.int (Int32.ofNat i)), .val (.long (g i)), .second, .unset] [(.long ((g i) ^^^ (((g i).toUInt64 >>> ((32 : Int32) &&& 0x3f).toInt64.toUInt64).toInt64)))]))
    refine own_st (fun _ k => XS.l2i X0.here hx rfl (hb hby own_d_jdk_65_m149_36) rfl k) ?_
    show own_G _ _ _ _ (T0.setTop (mkF m 37 #[.val (.ref a1), .val (.int r), .val (.ref a1), .val (.int (Int32.ofNat n)), .val (.int (Int32.ofNat i)), .val (.long (g i)), .second, .unset] [(.int (((g i) ^^^ (((g i).toUInt64 >>> ((32 : Int32) &&& 0x3f).toInt64.toUInt64).toInt64)).toInt32))]))
    refine own_st (fun _ k => XS.istore X0.here hx rfl (hb hby own_d_jdk_65_m149_37) rfl (l' := #[.val (.ref a1), .val (.int r), .val (.ref a1), .val (.int (Int32.ofNat n)), .val (.int (Int32.ofNat i)), .val (.long (g i)), .second, .val (.int (((g i) ^^^ (((g i).toUInt64 >>> ((32 : Int32) &&& 0x3f).toInt64.toUInt64).toInt64)).toInt32))]) rfl k) ?_
    show own_G _ _ _ _ (T0.setTop (mkF m 39 #[.val (.ref a1), .val (.int r), .val (.ref a1), .val (.int (Int32.ofNat n)), .val (.int (Int32.ofNat i)), .val (.long (g i)), .second, .val (.int (((g i) ^^^ (((g i).toUInt64 >>> ((32 : Int32) &&& 0x3f).toInt64.toUInt64).toInt64)).toInt32))] []))
    refine own_st (fun _ k => XS.bipush X0.here hx rfl (hb hby own_d_jdk_65_m149_39) k) ?_
    show own_G _ _ _ _ (T0.setTop (mkF m 41 #[.val (.ref a1), .val (.int r), .val (.ref a1), .val (.int (Int32.ofNat n)), .val (.int (Int32.ofNat i)), .val (.long (g i)), .second, .val (.int (((g i) ^^^ (((g i).toUInt64 >>> ((32 : Int32) &&& 0x3f).toInt64.toUInt64).toInt64)).toInt32))] [(.int (31 : Int32))]))
    refine own_st (fun _ k => XS.iloadN X0.here hx rfl (hb hby own_d_jdk_65_m149_41) rfl k) ?_
    show own_G _ _ _ _ (T0.setTop (mkF m 42 #[.val (.ref a1), .val (.int r), .val (.ref a1), .val (.int (Int32.ofNat n)), .val (.int (Int32.ofNat i)), .val (.long (g i)), .second, .val (.int (((g i) ^^^ (((g i).toUInt64 >>> ((32 : Int32) &&& 0x3f).toInt64.toUInt64).toInt64)).toInt32))] [(.int r), (.int (31 : Int32))]))
    refine own_st (fun _ k => XS.imul X0.here hx rfl (hb hby own_d_jdk_65_m149_42) rfl k) ?_
    show own_G _ _ _ _ (T0.setTop (mkF m 43 #[.val (.ref a1), .val (.int r), .val (.ref a1), .val (.int (Int32.ofNat n)), .val (.int (Int32.ofNat i)), .val (.long (g i)), .second, .val (.int (((g i) ^^^ (((g i).toUInt64 >>> ((32 : Int32) &&& 0x3f).toInt64.toUInt64).toInt64)).toInt32))] [(.int ((31 : Int32) * r))]))
    refine own_st (fun _ k => XS.iload X0.here hx rfl (hb hby own_d_jdk_65_m149_43) rfl k) ?_
    show own_G _ _ _ _ (T0.setTop (mkF m 45 #[.val (.ref a1), .val (.int r), .val (.ref a1), .val (.int (Int32.ofNat n)), .val (.int (Int32.ofNat i)), .val (.long (g i)), .second, .val (.int (((g i) ^^^ (((g i).toUInt64 >>> ((32 : Int32) &&& 0x3f).toInt64.toUInt64).toInt64)).toInt32))] [(.int (((g i) ^^^ (((g i).toUInt64 >>> ((32 : Int32) &&& 0x3f).toInt64.toUInt64).toInt64)).toInt32)), (.int ((31 : Int32) * r))]))
    refine own_st (fun _ k => XS.iadd X0.here hx rfl (hb hby own_d_jdk_65_m149_45) rfl k) ?_
    show own_G _ _ _ _ (T0.setTop (mkF m 46 #[.val (.ref a1), .val (.int r), .val (.ref a1), .val (.int (Int32.ofNat n)), .val (.int (Int32.ofNat i)), .val (.long (g i)), .second, .val (.int (((g i) ^^^ (((g i).toUInt64 >>> ((32 : Int32) &&& 0x3f).toInt64.toUInt64).toInt64)).toInt32))] [(.int (((31 : Int32) * r) + (((g i) ^^^ (((g i).toUInt64 >>> ((32 : Int32) &&& 0x3f).toInt64.toUInt64).toInt64)).toInt32)))]))
    refine own_st (fun _ k => XS.istoreN X0.here hx rfl (hb hby own_d_jdk_65_m149_46) rfl (l' := #[.val (.ref a1), .val (.int (((31 : Int32) * r) + (((g i) ^^^ (((g i).toUInt64 >>> ((32 : Int32) &&& 0x3f).toInt64.toUInt64).toInt64)).toInt32))), .val (.ref a1), .val (.int (Int32.ofNat n)), .val (.int (Int32.ofNat i)), .val (.long (g i)), .second, .val (.int (((g i) ^^^ (((g i).toUInt64 >>> ((32 : Int32) &&& 0x3f).toInt64.toUInt64).toInt64)).toInt32))]) rfl k) ?_
    show own_G _ _ _ _ (T0.setTop (mkF m 47 #[.val (.ref a1), .val (.int (((31 : Int32) * r) + (((g i) ^^^ (((g i).toUInt64 >>> ((32 : Int32) &&& 0x3f).toInt64.toUInt64).toInt64)).toInt32))), .val (.ref a1), .val (.int (Int32.ofNat n)), .val (.int (Int32.ofNat i)), .val (.long (g i)), .second, .val (.int (((g i) ^^^ (((g i).toUInt64 >>> ((32 : Int32) &&& 0x3f).toInt64.toUInt64).toInt64)).toInt32))] []))
    refine own_st (fun _ k => XS.iinc X0.here hx rfl (hb hby own_d_jdk_65_m149_47) rfl (l' := #[.val (.ref a1), .val (.int (((31 : Int32) * r) + (((g i) ^^^ (((g i).toUInt64 >>> ((32 : Int32) &&& 0x3f).toInt64.toUInt64).toInt64)).toInt32))), .val (.ref a1), .val (.int (Int32.ofNat n)), .val (.int ((Int32.ofNat i) + (1 : Int32))), .val (.long (g i)), .second, .val (.int (((g i) ^^^ (((g i).toUInt64 >>> ((32 : Int32) &&& 0x3f).toInt64.toUInt64).toInt64)).toInt32))]) rfl k) ?_
    show own_G _ _ _ _ (T0.setTop (mkF m 50 #[.val (.ref a1), .val (.int (((31 : Int32) * r) + (((g i) ^^^ (((g i).toUInt64 >>> ((32 : Int32) &&& 0x3f).toInt64.toUInt64).toInt64)).toInt32))), .val (.ref a1), .val (.int (Int32.ofNat n)), .val (.int ((Int32.ofNat i) + (1 : Int32))), .val (.long (g i)), .second, .val (.int (((g i) ^^^ (((g i).toUInt64 >>> ((32 : Int32) &&& 0x3f).toInt64.toUInt64).toInt64)).toInt32))] []))
    refine own_st (fun _ k => XS.goto X0.here hx rfl (pc0 := 50) (pc' := 16) rfl (hb hby own_d_jdk_65_m149_50) (by decide) (by decide) k) ?_
    show own_G _ _ _ _ (T0.setTop (mkF m 16 #[.val (.ref a1), .val (.int (((31 : Int32) * r) + (((g i) ^^^ (((g i).toUInt64 >>> ((32 : Int32) &&& 0x3f).toInt64.toUInt64).toInt64)).toInt32))), .val (.ref a1), .val (.int (Int32.ofNat n)), .val (.int ((Int32.ofNat i) + (1 : Int32))), .val (.long (g i)), .second, .val (.int (((g i) ^^^ (((g i).toUInt64 >>> ((32 : Int32) &&& 0x3f).toInt64.toUInt64).toInt64)).toInt32))] []))
    rw [own_one]
    show own_G _ _ _ _ (T0.setTop (mkF m 16 #[.val (.ref a1), .val (.int (((31 : Int32) * r) + (((g i) ^^^ (((g i).toUInt64 >>> ((32 : Int32) &&& 0x3f).toInt64.toUInt64).toInt64)).toInt32))), .val (.ref a1), .val (.int (Int32.ofNat n)), .val (.int (Int32.ofNat (i + 1))), .val (.long (g i)), .second, .val (.int (((g i) ^^^ (((g i).toUInt64 >>> ((32 : Int32) &&& 0x3f).toInt64.toUInt64).toInt64)).toInt32))] []))
    exact k hi _ _ _
  · skip
    refine own_st (fun _ k => XS.icmpYes X0.here hx rfl (pc0 := 19) (pc' := 53) rfl (hb hby own_d_jdk_65_m149_19) rfl (flt (own_nlt hi (by omega) (by omega))).2.1 (by decide) (by decide) k) ?_
    show own_G _ _ _ _ (T0.setTop (mkF m 53 #[.val (.ref a1), .val (.int r), .val (.ref a1), .val (.int (Int32.ofNat n)), .val (.int (Int32.ofNat i)), .unset, .unset, .unset] []))
    refine own_st (fun _ k => XS.iloadN X0.here hx rfl (hb hby own_d_jdk_65_m149_53) rfl k) ?_
    show own_G _ _ _ _ (T0.setTop (mkF m 54 #[.val (.ref a1), .val (.int r), .val (.ref a1), .val (.int (Int32.ofNat n)), .val (.int (Int32.ofNat i)), .unset, .unset, .unset] [(.int r)]))
    exact own_retI X0 hx hret hlk (hb hby own_d_jdk_65_m149_54) (by rw [e0]; exact ⟨_, rfl, N0, rfl⟩) hcs hss
set_option maxRecDepth 65536 in
set_option maxHeartbeats 40000000 in
theorem own_hj_turn {p : Program} {l : Launch} {e : Env} {s : State} {m : MethodId} {args : Array Value} {below : List Frame} {meth : Method} {c : Code} {Z : State} {a0 : Array Value} {locs : List Loc} {cells slots : Nat} {T0 : State} {h0 : Heap}  (a1 : Addr) (ka : ClassId) (g : Nat → Int64) (i n : Nat) (r : Int32) (x : Int64) (z : Int32) (hx : p.tables.exec = Jvm.exec) (hZ : Z.Warmed39 s.vm) (hw : ∀ d ∈ tables_1, d.before a0 Z = true) (hby : c.code = jdk_65_method_149_code) (hml : c.maxLocals = 8) (hown : s.vm.findClass "java/util/Arrays" = some m.cls) (X0 : Stand p l e ({ frames := 0, cells := 0, slots := 0, locals := 0 } : Room) s m args below meth c T0 locs cells slots) (e0 : T0.heap = h0) (N0 : Fr Z.heap.size locs) (O0 : Old Z Z.heap.size h0) (hret : meth.sig.returnType = some .int) (hlk : meth.locks = false) (hcs : cells ≤ 0) (hss : slots ≤ 0) (hn : n ≤ 4) (V1 : Arv Z h0 a1 ka .long (Int32.ofNat n) (own_valsL g n) (.long (0 : Int64))) (hi0 : i ≤ n)
    (k : i < n → ∀ (r : Int32) (x : Int64) (z : Int32), own_G p.tables e below (own_F s below (fun v h L => ∃ r : Int32, v = some (.int r) ∧ Fr Z.heap.size L ∧ h = h0) 0 0) (T0.setTop (mkF m 16 #[.val (.ref a1), .val (.int r), .val (.ref a1), .val (.int (Int32.ofNat n)), .val (.int (Int32.ofNat (i + 1))), .val (.long x), .second, .val (.int z)] []))) :
    own_G p.tables e below (own_F s below (fun v h L => ∃ r : Int32, v = some (.int r) ∧ Fr Z.heap.size L ∧ h = h0) 0 0) (T0.setTop (mkF m 16 #[.val (.ref a1), .val (.int r), .val (.ref a1), .val (.int (Int32.ofNat n)), .val (.int (Int32.ofNat i)), .val (.long x), .second, .val (.int z)] [])) := by
  have z0 : Z.heap.size ≤ h0.size := O0.2.1
  have Kr := Keep.refl h0 []
  show own_G _ _ _ _ (T0.setTop (mkF m 16 #[.val (.ref a1), .val (.int r), .val (.ref a1), .val (.int (Int32.ofNat n)), .val (.int (Int32.ofNat i)), .val (.long x), .second, .val (.int z)] []))
  refine own_st (fun _ k => XS.iload X0.here hx rfl (hb hby own_d_jdk_65_m149_16) rfl k) ?_
  show own_G _ _ _ _ (T0.setTop (mkF m 18 #[.val (.ref a1), .val (.int r), .val (.ref a1), .val (.int (Int32.ofNat n)), .val (.int (Int32.ofNat i)), .val (.long x), .second, .val (.int z)] [(.int (Int32.ofNat i))]))
  refine own_st (fun _ k => XS.iloadN X0.here hx rfl (hb hby own_d_jdk_65_m149_18) rfl k) ?_
  show own_G _ _ _ _ (T0.setTop (mkF m 19 #[.val (.ref a1), .val (.int r), .val (.ref a1), .val (.int (Int32.ofNat n)), .val (.int (Int32.ofNat i)), .val (.long x), .second, .val (.int z)] [(.int (Int32.ofNat n)), (.int (Int32.ofNat i))]))
  by_cases hi : i < n
  · skip
    refine own_st (fun _ k => XS.icmpNo X0.here hx rfl (hb hby own_d_jdk_65_m149_19) rfl (tlt (own_lt hi (by omega))).2.1 k) ?_
    show own_G _ _ _ _ (T0.setTop (mkF m 22 #[.val (.ref a1), .val (.int r), .val (.ref a1), .val (.int (Int32.ofNat n)), .val (.int (Int32.ofNat i)), .val (.long x), .second, .val (.int z)] []))
    refine own_st (fun _ k => XS.aloadN X0.here hx rfl (hb hby own_d_jdk_65_m149_22) rfl rfl k) ?_
    show own_G _ _ _ _ (T0.setTop (mkF m 23 #[.val (.ref a1), .val (.int r), .val (.ref a1), .val (.int (Int32.ofNat n)), .val (.int (Int32.ofNat i)), .val (.long x), .second, .val (.int z)] [(.ref a1)]))
    refine own_st (fun _ k => XS.iload X0.here hx rfl (hb hby own_d_jdk_65_m149_23) rfl k) ?_
    show own_G _ _ _ _ (T0.setTop (mkF m 25 #[.val (.ref a1), .val (.int r), .val (.ref a1), .val (.int (Int32.ofNat n)), .val (.int (Int32.ofNat i)), .val (.long x), .second, .val (.int z)] [(.int (Int32.ofNat i)), (.ref a1)]))
    obtain ⟨cl1, Ar1, qk1, Sz1, Mz1, Hz1, Uz1⟩ := id V1
    refine own_st (X0.laload hx (j := (Int32.ofNat i)) (v := (.long (g i))) (by rw [e0]; exact Ar1.1) (State.isArrayOf_alike hZ.alike Ar1.2.1) Ar1.2.2 (own_in Sz1 hi (by omega)) (own_getL Sz1 Hz1 hi (Nat.le_refl _) (by omega)) (g := (mkF m 25 #[.val (.ref a1), .val (.int r), .val (.ref a1), .val (.int (Int32.ofNat n)), .val (.int (Int32.ofNat i)), .val (.long x), .second, .val (.int z)] [(.int (Int32.ofNat i)), (.ref a1)])) rfl rfl (hb hby own_d_jdk_65_m149_25)) ?_
    show own_G _ _ _ _ (T0.setTop (mkF m 26 #[.val (.ref a1), .val (.int r), .val (.ref a1), .val (.int (Int32.ofNat n)), .val (.int (Int32.ofNat i)), .val (.long x), .second, .val (.int z)] [(.long (g i))]))
    refine own_st (fun _ k => XS.lstore X0.here hx rfl (hb hby own_d_jdk_65_m149_26) rfl (l' := #[.val (.ref a1), .val (.int r), .val (.ref a1), .val (.int (Int32.ofNat n)), .val (.int (Int32.ofNat i)), .val (.long (g i)), .second, .val (.int z)]) rfl k) ?_
    show own_G _ _ _ _ (T0.setTop (mkF m 28 #[.val (.ref a1), .val (.int r), .val (.ref a1), .val (.int (Int32.ofNat n)), .val (.int (Int32.ofNat i)), .val (.long (g i)), .second, .val (.int z)] []))
    refine own_st (fun _ k => XS.lload X0.here hx rfl (hb hby own_d_jdk_65_m149_28) rfl k) ?_
    show own_G _ _ _ _ (T0.setTop (mkF m 30 #[.val (.ref a1), .val (.int r), .val (.ref a1), .val (.int (Int32.ofNat n)), .val (.int (Int32.ofNat i)), .val (.long (g i)), .second, .val (.int z)] [(.long (g i))]))
    refine own_st (fun _ k => XS.lload X0.here hx rfl (hb hby own_d_jdk_65_m149_30) rfl k) ?_
    show own_G _ _ _ _ (T0.setTop (mkF m 32 #[.val (.ref a1), .val (.int r), .val (.ref a1), .val (.int (Int32.ofNat n)), .val (.int (Int32.ofNat i)), .val (.long (g i)), .second, .val (.int z)] [(.long (g i)), (.long (g i))]))
    refine own_st (fun _ k => XS.bipush X0.here hx rfl (hb hby own_d_jdk_65_m149_32) k) ?_
    show own_G _ _ _ _ (T0.setTop (mkF m 34 #[.val (.ref a1), .val (.int r), .val (.ref a1), .val (.int (Int32.ofNat n)), .val (.int (Int32.ofNat i)), .val (.long (g i)), .second, .val (.int z)] [(.int (32 : Int32)), (.long (g i)), (.long (g i))]))
    refine own_st (fun _ k => XS.lushr X0.here hx rfl (hb hby own_d_jdk_65_m149_34) rfl k) ?_
    show own_G _ _ _ _ (T0.setTop (mkF m 35 #[.val (.ref a1), .val (.int r), .val (.ref a1), .val (.int (Int32.ofNat n)), .val (.int (Int32.ofNat i)), .val (.long (g i)), .second, .val (.int z)] [(.long (((g i).toUInt64 >>> ((32 : Int32) &&& 0x3f).toInt64.toUInt64).toInt64)), (.long (g i))]))
    refine own_st (fun _ k => XS.lxor X0.here hx rfl (hb hby own_d_jdk_65_m149_35) rfl k) ?_
    show own_G _ _ _ _ (T0.setTop (mkF m 36 #[.val (.ref a1), .val (.int r), .val (.ref a1), .val (.int (Int32.ofNat n)), .val (.int (Int32.ofNat i)), .val (.long (g i)), .second, .val (.int z)] [(.long ((g i) ^^^ (((g i).toUInt64 >>> ((32 : Int32) &&& 0x3f).toInt64.toUInt64).toInt64)))]))
    refine own_st (fun _ k => XS.l2i X0.here hx rfl (hb hby own_d_jdk_65_m149_36) rfl k) ?_
    show own_G _ _ _ _ (T0.setTop (mkF m 37 #[.val (.ref a1), .val (.int r), .val (.ref a1), .val (.int (Int32.ofNat n)), .val (.int (Int32.ofNat i)), .val (.long (g i)), .second, .val (.int z)] [(.int (((g i) ^^^ (((g i).toUInt64 >>> ((32 : Int32) &&& 0x3f).toInt64.toUInt64).toInt64)).toInt32))]))
    refine own_st (fun _ k => XS.istore X0.here hx rfl (hb hby own_d_jdk_65_m149_37) rfl (l' := #[.val (.ref a1), .val (.int r), .val (.ref a1), .val (.int (Int32.ofNat n)), .val (.int (Int32.ofNat i)), .val (.long (g i)), .second, .val (.int (((g i) ^^^ (((g i).toUInt64 >>> ((32 : Int32) &&& 0x3f).toInt64.toUInt64).toInt64)).toInt32))]) rfl k) ?_
    show own_G _ _ _ _ (T0.setTop (mkF m 39 #[.val (.ref a1), .val (.int r), .val (.ref a1), .val (.int (Int32.ofNat n)), .val (.int (Int32.ofNat i)), .val (.long (g i)), .second, .val (.int (((g i) ^^^ (((g i).toUInt64 >>> ((32 : Int32) &&& 0x3f).toInt64.toUInt64).toInt64)).toInt32))] []))
    refine own_st (fun _ k => XS.bipush X0.here hx rfl (hb hby own_d_jdk_65_m149_39) k) ?_
    show own_G _ _ _ _ (T0.setTop (mkF m 41 #[.val (.ref a1), .val (.int r), .val (.ref a1), .val (.int (Int32.ofNat n)), .val (.int (Int32.ofNat i)), .val (.long (g i)), .second, .val (.int (((g i) ^^^ (((g i).toUInt64 >>> ((32 : Int32) &&& 0x3f).toInt64.toUInt64).toInt64)).toInt32))] [(.int (31 : Int32))]))
    refine own_st (fun _ k => XS.iloadN X0.here hx rfl (hb hby own_d_jdk_65_m149_41) rfl k) ?_
    show own_G _ _ _ _ (T0.setTop (mkF m 42 #[.val (.ref a1), .val (.int r), .val (.ref a1), .val (.int (Int32.ofNat n)), .val (.int (Int32.ofNat i)), .val (.long (g i)), .second, .val (.int (((g i) ^^^ (((g i).toUInt64 >>> ((32 : Int32) &&& 0x3f).toInt64.toUInt64).toInt64)).toInt32))] [(.int r), (.int (31 : Int32))]))
    refine own_st (fun _ k => XS.imul X0.here hx rfl (hb hby own_d_jdk_65_m149_42) rfl k) ?_
    show own_G _ _ _ _ (T0.setTop (mkF m 43 #[.val (.ref a1), .val (.int r), .val (.ref a1), .val (.int (Int32.ofNat n)), .val (.int (Int32.ofNat i)), .val (.long (g i)), .second, .val (.int (((g i) ^^^ (((g i).toUInt64 >>> ((32 : Int32) &&& 0x3f).toInt64.toUInt64).toInt64)).toInt32))] [(.int ((31 : Int32) * r))]))
    refine own_st (fun _ k => XS.iload X0.here hx rfl (hb hby own_d_jdk_65_m149_43) rfl k) ?_
    show own_G _ _ _ _ (T0.setTop (mkF m 45 #[.val (.ref a1), .val (.int r), .val (.ref a1), .val (.int (Int32.ofNat n)), .val (.int (Int32.ofNat i)), .val (.long (g i)), .second, .val (.int (((g i) ^^^ (((g i).toUInt64 >>> ((32 : Int32) &&& 0x3f).toInt64.toUInt64).toInt64)).toInt32))] [(.int (((g i) ^^^ (((g i).toUInt64 >>> ((32 : Int32) &&& 0x3f).toInt64.toUInt64).toInt64)).toInt32)), (.int ((31 : Int32) * r))]))
    refine own_st (fun _ k => XS.iadd X0.here hx rfl (hb hby own_d_jdk_65_m149_45) rfl k) ?_
    show own_G _ _ _ _ (T0.setTop (mkF m 46 #[.val (.ref a1), .val (.int r), .val (.ref a1), .val (.int (Int32.ofNat n)), .val (.int (Int32.ofNat i)), .val (.long (g i)), .second, .val (.int (((g i) ^^^ (((g i).toUInt64 >>> ((32 : Int32) &&& 0x3f).toInt64.toUInt64).toInt64)).toInt32))] [(.int (((31 : Int32) * r) + (((g i) ^^^ (((g i).toUInt64 >>> ((32 : Int32) &&& 0x3f).toInt64.toUInt64).toInt64)).toInt32)))]))
    refine own_st (fun _ k => XS.istoreN X0.here hx rfl (hb hby own_d_jdk_65_m149_46) rfl (l' := #[.val (.ref a1), .val (.int (((31 : Int32) * r) + (((g i) ^^^ (((g i).toUInt64 >>> ((32 : Int32) &&& 0x3f).toInt64.toUInt64).toInt64)).toInt32))), .val (.ref a1), .val (.int (Int32.ofNat n)), .val (.int (Int32.ofNat i)), .val (.long (g i)), .second, .val (.int (((g i) ^^^ (((g i).toUInt64 >>> ((32 : Int32) &&& 0x3f).toInt64.toUInt64).toInt64)).toInt32))]) rfl k) ?_
    show own_G _ _ _ _ (T0.setTop (mkF m 47 #[.val (.ref a1), .val (.int (((31 : Int32) * r) + (((g i) ^^^ (((g i).toUInt64 >>> ((32 : Int32) &&& 0x3f).toInt64.toUInt64).toInt64)).toInt32))), .val (.ref a1), .val (.int (Int32.ofNat n)), .val (.int (Int32.ofNat i)), .val (.long (g i)), .second, .val (.int (((g i) ^^^ (((g i).toUInt64 >>> ((32 : Int32) &&& 0x3f).toInt64.toUInt64).toInt64)).toInt32))] []))
    refine own_st (fun _ k => XS.iinc X0.here hx rfl (hb hby own_d_jdk_65_m149_47) rfl (l' := #[.val (.ref a1), .val (.int (((31 : Int32) * r) + (((g i) ^^^ (((g i).toUInt64 >>> ((32 : Int32) &&& 0x3f).toInt64.toUInt64).toInt64)).toInt32))), .val (.ref a1), .val (.int (Int32.ofNat n)), .val (.int ((Int32.ofNat i) + (1 : Int32))), .val (.long (g i)), .second, .val (.int (((g i) ^^^ (((g i).toUInt64 >>> ((32 : Int32) &&& 0x3f).toInt64.toUInt64).toInt64)).toInt32))]) rfl k) ?_
    show own_G _ _ _ _ (T0.setTop (mkF m 50 #[.val (.ref a1), .val (.int (((31 : Int32) * r) + (((g i) ^^^ (((g i).toUInt64 >>> ((32 : Int32) &&& 0x3f).toInt64.toUInt64).toInt64)).toInt32))), .val (.ref a1), .val (.int (Int32.ofNat n)), .val (.int ((Int32.ofNat i) + (1 : Int32))), .val (.long (g i)), .second, .val (.int (((g i) ^^^ (((g i).toUInt64 >>> ((32 : Int32) &&& 0x3f).toInt64.toUInt64).toInt64)).toInt32))] []))
    refine own_st (fun _ k => XS.goto X0.here hx rfl (pc0 := 50) (pc' := 16) rfl (hb hby own_d_jdk_65_m149_50) (by decide) (by decide) k) ?_
    show own_G _ _ _ _ (T0.setTop (mkF m 16 #[.val (.ref a1), .val (.int (((31 : Int32) * r) + (((g i) ^^^ (((g i).toUInt64 >>> ((32 : Int32) &&& 0x3f).toInt64.toUInt64).toInt64)).toInt32))), .val (.ref a1), .val (.int (Int32.ofNat n)), .val (.int ((Int32.ofNat i) + (1 : Int32))), .val (.long (g i)), .second, .val (.int (((g i) ^^^ (((g i).toUInt64 >>> ((32 : Int32) &&& 0x3f).toInt64.toUInt64).toInt64)).toInt32))] []))
    rw [own_one]
    show own_G _ _ _ _ (T0.setTop (mkF m 16 #[.val (.ref a1), .val (.int (((31 : Int32) * r) + (((g i) ^^^ (((g i).toUInt64 >>> ((32 : Int32) &&& 0x3f).toInt64.toUInt64).toInt64)).toInt32))), .val (.ref a1), .val (.int (Int32.ofNat n)), .val (.int (Int32.ofNat (i + 1))), .val (.long (g i)), .second, .val (.int (((g i) ^^^ (((g i).toUInt64 >>> ((32 : Int32) &&& 0x3f).toInt64.toUInt64).toInt64)).toInt32))] []))
    exact k hi _ _ _
  · skip
    refine own_st (fun _ k => XS.icmpYes X0.here hx rfl (pc0 := 19) (pc' := 53) rfl (hb hby own_d_jdk_65_m149_19) rfl (flt (own_nlt hi (by omega) (by omega))).2.1 (by decide) (by decide) k) ?_
    show own_G _ _ _ _ (T0.setTop (mkF m 53 #[.val (.ref a1), .val (.int r), .val (.ref a1), .val (.int (Int32.ofNat n)), .val (.int (Int32.ofNat i)), .val (.long x), .second, .val (.int z)] []))
    refine own_st (fun _ k => XS.iloadN X0.here hx rfl (hb hby own_d_jdk_65_m149_53) rfl k) ?_
    show own_G _ _ _ _ (T0.setTop (mkF m 54 #[.val (.ref a1), .val (.int r), .val (.ref a1), .val (.int (Int32.ofNat n)), .val (.int (Int32.ofNat i)), .val (.long x), .second, .val (.int z)] [(.int r)]))
    exact own_retI X0 hx hret hlk (hb hby own_d_jdk_65_m149_54) (by rw [e0]; exact ⟨_, rfl, N0, rfl⟩) hcs hss
theorem own_hj_loop {p : Program} {l : Launch} {e : Env} {s : State} {m : MethodId} {args : Array Value} {below : List Frame} {meth : Method} {c : Code} {Z : State} {a0 : Array Value} {h0 : Heap} {locs : List Loc} {cells slots : Nat} {T0 : State} (a1 : Addr) (ka : ClassId) (g : Nat → Int64) (n : Nat) (hx : p.tables.exec = Jvm.exec) (hZ : Z.Warmed39 s.vm) (hw : ∀ d ∈ tables_1, d.before a0 Z = true) (hby : c.code = jdk_65_method_149_code) (hml : c.maxLocals = 8) (hown : s.vm.findClass "java/util/Arrays" = some m.cls) (X0 : Stand p l e ({ frames := 0, cells := 0, slots := 0, locals := 0 } : Room) s m args below meth c T0 locs cells slots) (e0 : T0.heap = h0) (N0 : Fr Z.heap.size locs) (O0 : Old Z Z.heap.size h0) (hret : meth.sig.returnType = some .int) (hlk : meth.locks = false) (hcs : cells ≤ 0) (hss : slots ≤ 0) (hn : n ≤ 4) (V1 : Arv Z h0 a1 ka .long (Int32.ofNat n) (own_valsL g n) (.long (0 : Int64))) :
    ∀ (t i : Nat) (r : Int32) (x : Int64) (z : Int32), i + t = n → own_G p.tables e below (own_F s below (fun v h L => ∃ r : Int32, v = some (.int r) ∧ Fr Z.heap.size L ∧ h = h0) 0 0) (T0.setTop (mkF m 16 #[.val (.ref a1), .val (.int r), .val (.ref a1), .val (.int (Int32.ofNat n)), .val (.int (Int32.ofNat i)), .val (.long x), .second, .val (.int z)] [])) := by
  intro t
  induction t with
  | zero =>
    intro i r x z hi
    exact own_hj_turn a1 ka g i n r x z hx hZ hw hby hml hown X0 e0 N0 O0 hret hlk hcs hss hn V1 (by omega) (fun q => by omega)
  | succ t ih =>
    intro i r x z hi
    exact own_hj_turn a1 ka g i n r x z hx hZ hw hby hml hown X0 e0 N0 O0 hret hlk hcs hss hn V1 (by omega) (fun q r x z => ih (i + 1) r x z (by omega))
theorem own_d_jdk_65_m149_0 : decode jdk_65_method_149_code 0 = .ok (.aload_n 0, 1) := by decide +kernel
theorem own_d_jdk_65_m149_1 : decode jdk_65_method_149_code 1 = .ok (.ifnonnull 5, 3) := by decide +kernel
theorem own_d_jdk_65_m149_6 : decode jdk_65_method_149_code 6 = .ok (.iconst 1, 1) := by decide +kernel
theorem own_d_jdk_65_m149_7 : decode jdk_65_method_149_code 7 = .ok (.istore_n 1, 1) := by decide +kernel
theorem own_d_jdk_65_m149_8 : decode jdk_65_method_149_code 8 = .ok (.aload_n 0, 1) := by decide +kernel
theorem own_d_jdk_65_m149_9 : decode jdk_65_method_149_code 9 = .ok (.astore_n 2, 1) := by decide +kernel
theorem own_d_jdk_65_m149_10 : decode jdk_65_method_149_code 10 = .ok (.aload_n 2, 1) := by decide +kernel
theorem own_d_jdk_65_m149_11 : decode jdk_65_method_149_code 11 = .ok (.arraylength, 1) := by decide +kernel
theorem own_d_jdk_65_m149_12 : decode jdk_65_method_149_code 12 = .ok (.istore_n 3, 1) := by decide +kernel
theorem own_d_jdk_65_m149_13 : decode jdk_65_method_149_code 13 = .ok (.iconst 0, 1) := by decide +kernel
theorem own_d_jdk_65_m149_14 : decode jdk_65_method_149_code 14 = .ok (.istore 4, 2) := by decide +kernel
set_option maxRecDepth 65536 in
set_option maxHeartbeats 40000000 in
theorem own_hcJ (l : Launch) (Z : State) (a0 : Array Value) (hw : ∀ d ∈ tables_1, d.before a0 Z = true) (ws : List Jvm.Cond) (a1 : Addr) (ka : ClassId) (g : Nat → Int64) (n : Nat) (h0 : Heap) (O0 : Old Z Z.heap.size h0) (hn : n ≤ 4) (V1 : Arv Z h0 a1 ka .long (Int32.ofNat n) (own_valsL g n) (.long (0 : Int64))) :
    own_Met l Z (⟨"java/util/Arrays", "hashCode", "([J)I"⟩ : MethodName) jdk_65_method_149_code 8 (some .int) ws ({ frames := 0, cells := 0, slots := 0, locals := 0 } : Room) #[(.ref a1)] h0 (fun v h L => ∃ r : Int32, v = some (.int r) ∧ Fr Z.heap.size L ∧ h = h0) (({ frames := 0, cells := 0, slots := 0, locals := 0 } : Room)).cells (({ frames := 0, cells := 0, slots := 0, locals := 0 } : Room)).slots := by
  refine own_body (ef := fun m => mkF m 0 #[.val (.ref a1), .unset, .unset, .unset, .unset, .unset, .unset, .unset] []) (plainFor_of_name own_pn95) (fun m => by first | (simp [entryFrame, mkF, argsToLocals, Value.category]; done) | rfl) ?_
  intro p e s m below meth c T0 hx hZ hby hml hown hnm hret hlk X0 e0
  have N0 := Fr.nil Z.heap.size
  have z0 : Z.heap.size ≤ h0.size := O0.2.1
  have Kr := Keep.refl h0 []
  show own_G _ _ _ _ (T0.setTop (mkF m 0 #[.val (.ref a1), .unset, .unset, .unset, .unset, .unset, .unset, .unset] []))
  refine own_st (fun _ k => XS.aloadN X0.here hx rfl (hb hby own_d_jdk_65_m149_0) rfl rfl k) ?_
  show own_G _ _ _ _ (T0.setTop (mkF m 1 #[.val (.ref a1), .unset, .unset, .unset, .unset, .unset, .unset, .unset] [(.ref a1)]))
  refine own_st (fun _ k => XS.ifnonnullYes X0.here hx rfl (pc0 := 1) (pc' := 6) rfl (hb hby own_d_jdk_65_m149_1) rfl (by decide) (by decide) k) ?_
  show own_G _ _ _ _ (T0.setTop (mkF m 6 #[.val (.ref a1), .unset, .unset, .unset, .unset, .unset, .unset, .unset] []))
  refine own_st (fun _ k => XS.iconst X0.here hx rfl (hb hby own_d_jdk_65_m149_6) k) ?_
  show own_G _ _ _ _ (T0.setTop (mkF m 7 #[.val (.ref a1), .unset, .unset, .unset, .unset, .unset, .unset, .unset] [(.int (1 : Int32))]))
  refine own_st (fun _ k => XS.istoreN X0.here hx rfl (hb hby own_d_jdk_65_m149_7) rfl (l' := #[.val (.ref a1), .val (.int (1 : Int32)), .unset, .unset, .unset, .unset, .unset, .unset]) rfl k) ?_
  show own_G _ _ _ _ (T0.setTop (mkF m 8 #[.val (.ref a1), .val (.int (1 : Int32)), .unset, .unset, .unset, .unset, .unset, .unset] []))
  refine own_st (fun _ k => XS.aloadN X0.here hx rfl (hb hby own_d_jdk_65_m149_8) rfl rfl k) ?_
  show own_G _ _ _ _ (T0.setTop (mkF m 9 #[.val (.ref a1), .val (.int (1 : Int32)), .unset, .unset, .unset, .unset, .unset, .unset] [(.ref a1)]))
  refine own_st (fun _ k => XS.astoreN X0.here hx rfl (hb hby own_d_jdk_65_m149_9) rfl rfl (l' := #[.val (.ref a1), .val (.int (1 : Int32)), .val (.ref a1), .unset, .unset, .unset, .unset, .unset]) rfl k) ?_
  show own_G _ _ _ _ (T0.setTop (mkF m 10 #[.val (.ref a1), .val (.int (1 : Int32)), .val (.ref a1), .unset, .unset, .unset, .unset, .unset] []))
  refine own_st (fun _ k => XS.aloadN X0.here hx rfl (hb hby own_d_jdk_65_m149_10) rfl rfl k) ?_
  show own_G _ _ _ _ (T0.setTop (mkF m 11 #[.val (.ref a1), .val (.int (1 : Int32)), .val (.ref a1), .unset, .unset, .unset, .unset, .unset] [(.ref a1)]))
  obtain ⟨cl1, Ar1, qk1, Sz1, Mz1, Hz1, Uz1⟩ := id V1
  refine own_st (X0.arraylength hx (by rw [e0]; exact Ar1.1) (State.isArrayOf_alike hZ.alike Ar1.2.1) (g := (mkF m 11 #[.val (.ref a1), .val (.int (1 : Int32)), .val (.ref a1), .unset, .unset, .unset, .unset, .unset] [(.ref a1)])) rfl rfl (hb hby own_d_jdk_65_m149_11)) ?_
  rw [len_of Sz1 Mz1]
  show own_G _ _ _ _ (T0.setTop (mkF m 12 #[.val (.ref a1), .val (.int (1 : Int32)), .val (.ref a1), .unset, .unset, .unset, .unset, .unset] [(.int (Int32.ofNat n))]))
  refine own_st (fun _ k => XS.istoreN X0.here hx rfl (hb hby own_d_jdk_65_m149_12) rfl (l' := #[.val (.ref a1), .val (.int (1 : Int32)), .val (.ref a1), .val (.int (Int32.ofNat n)), .unset, .unset, .unset, .unset]) rfl k) ?_
  show own_G _ _ _ _ (T0.setTop (mkF m 13 #[.val (.ref a1), .val (.int (1 : Int32)), .val (.ref a1), .val (.int (Int32.ofNat n)), .unset, .unset, .unset, .unset] []))
  refine own_st (fun _ k => XS.iconst X0.here hx rfl (hb hby own_d_jdk_65_m149_13) k) ?_
  show own_G _ _ _ _ (T0.setTop (mkF m 14 #[.val (.ref a1), .val (.int (1 : Int32)), .val (.ref a1), .val (.int (Int32.ofNat n)), .unset, .unset, .unset, .unset] [(.int (0 : Int32))]))
  refine own_st (fun _ k => XS.istore X0.here hx rfl (hb hby own_d_jdk_65_m149_14) rfl (l' := #[.val (.ref a1), .val (.int (1 : Int32)), .val (.ref a1), .val (.int (Int32.ofNat n)), .val (.int (0 : Int32)), .unset, .unset, .unset]) rfl k) ?_
  show own_G _ _ _ _ (T0.setTop (mkF m 16 #[.val (.ref a1), .val (.int (1 : Int32)), .val (.ref a1), .val (.int (Int32.ofNat n)), .val (.int (0 : Int32)), .unset, .unset, .unset] []))
  exact own_hj_turn0 a1 ka g 0 n _ hx hZ hw hby hml hown X0 e0 N0 O0 hret hlk (Nat.le_refl _) (Nat.le_refl _) hn V1 (by omega) (fun q r x z => own_hj_loop a1 ka g n hx hZ hw hby hml hown X0 e0 N0 O0 hret hlk (Nat.le_refl _) (Nat.le_refl _) hn V1 (n - 1) 1 r x z (by omega))
theorem own_pn223 : plainName "com/example/libfacet/libfacet/exact/Factorization" = true := by first | (simp [plainName, overriddenIn]; done) | decide +kernel
theorem own_d_prog_39_m1_0 : decode prog_39_method_1_code 0 = .ok (.aload_n 0, 1) := by decide +kernel
theorem own_d_prog_39_m1_1 : decode prog_39_method_1_code 1 = .ok (.invokespecial 1, 3) := by decide +kernel
theorem own_d_prog_39_m1_4 : decode prog_39_method_1_code 4 = .ok (.aload_n 0, 1) := by decide +kernel
theorem own_d_prog_39_m1_5 : decode prog_39_method_1_code 5 = .ok (.aload_n 1, 1) := by decide +kernel
theorem own_d_prog_39_m1_6 : decode prog_39_method_1_code 6 = .ok (.putfield 7, 3) := by decide +kernel
theorem own_d_prog_39_m1_9 : decode prog_39_method_1_code 9 = .ok (.aload_n 0, 1) := by decide +kernel
theorem own_d_prog_39_m1_10 : decode prog_39_method_1_code 10 = .ok (.aload_n 2, 1) := by decide +kernel
theorem own_d_prog_39_m1_11 : decode prog_39_method_1_code 11 = .ok (.putfield 13, 3) := by decide +kernel
theorem own_d_prog_39_m1_14 : decode prog_39_method_1_code 14 = .ok (.aload_n 0, 1) := by decide +kernel
theorem own_d_prog_39_m1_15 : decode prog_39_method_1_code 15 = .ok (.bipush 31, 2) := by decide +kernel
theorem own_d_prog_39_m1_17 : decode prog_39_method_1_code 17 = .ok (.aload_n 1, 1) := by decide +kernel
theorem own_d_prog_39_m1_18 : decode prog_39_method_1_code 18 = .ok (.invokestatic 17, 3) := by decide +kernel
theorem own_pd236 : parseMethodDescriptor "([I)I" = some ⟨[(.array .int)], some .int⟩ := by decide +kernel
theorem own_d_prog_39_m1_21 : decode prog_39_method_1_code 21 = .ok (.imul, 1) := by decide +kernel
theorem own_d_prog_39_m1_22 : decode prog_39_method_1_code 22 = .ok (.aload_n 2, 1) := by decide +kernel
theorem own_d_prog_39_m1_23 : decode prog_39_method_1_code 23 = .ok (.invokestatic 23, 3) := by decide +kernel
theorem own_pd240 : parseMethodDescriptor "([J)I" = some ⟨[(.array .long)], some .int⟩ := by decide +kernel
theorem own_d_prog_39_m1_26 : decode prog_39_method_1_code 26 = .ok (.iadd, 1) := by decide +kernel
theorem own_d_prog_39_m1_27 : decode prog_39_method_1_code 27 = .ok (.putfield 26, 3) := by decide +kernel
theorem own_d_prog_39_m1_30 : decode prog_39_method_1_code 30 = .ok (.return_, 1) := by decide +kernel
set_option maxRecDepth 65536 in
set_option maxHeartbeats 40000000 in
theorem own_init (l : Launch) (Z : State) (a0 : Array Value) (hw : ∀ d ∈ tables_1, d.before a0 Z = true) (ws : List Jvm.Cond) (a1 : Addr) (tp : Addr) (te : Addr) (kp ke : ClassId) (f : Nat → Int32) (g : Nat → Int64) (n : Nat) (u1 u2 u3 : Value) (h0 : Heap) (O0 : Old Z Z.heap.size h0) (hn : n ≤ 4) (ga : Z.heap.size ≤ a1) (nep : @Ne Nat tp a1) (nee : @Ne Nat te a1) (Ea : Exa Z h0 a1 "com/example/libfacet/libfacet/exact/Factorization") (F1 : Fld Z h0 a1 "com/example/libfacet/libfacet/exact/Factorization" "primes" "[I" u1) (F2 : Fld Z h0 a1 "com/example/libfacet/libfacet/exact/Factorization" "exponents" "[J" u2) (F3 : Fld Z h0 a1 "com/example/libfacet/libfacet/exact/Factorization" "hash" "I" u3) (V1 : Arv Z h0 tp kp .int (Int32.ofNat n) (own_vals f n) (.int (0 : Int32))) (E1 : Exa Z h0 tp "[I") (V2 : Arv Z h0 te ke .long (Int32.ofNat n) (own_valsL g n) (.long (0 : Int64))) :
    own_Met l Z (⟨"com/example/libfacet/libfacet/exact/Factorization", "<init>", "([I[J)V"⟩ : MethodName) prog_39_method_1_code 3 none ws ({ frames := 3, cells := 0, slots := 0, locals := 50 } : Room) #[(.ref a1), (.ref tp), (.ref te)] h0 (fun v h L => v = none ∧ Fr Z.heap.size L ∧ Keep h0 h [a1] ∧ Fld Z h a1 "com/example/libfacet/libfacet/exact/Factorization" "primes" "[I" (.ref tp) ∧ Fld Z h a1 "com/example/libfacet/libfacet/exact/Factorization" "exponents" "[J" (.ref te)) (({ frames := 3, cells := 0, slots := 0, locals := 50 } : Room)).cells (({ frames := 3, cells := 0, slots := 0, locals := 50 } : Room)).slots := by
  refine own_body (ef := fun m => mkF m 0 #[.val (.ref a1), .val (.ref tp), .val (.ref te)] []) (plainFor_of_name own_pn223) (fun m => by first | (simp [entryFrame, mkF, argsToLocals, Value.category]; done) | rfl) ?_
  intro p e s m below meth c T0 hx hZ hby hml hown hnm hret hlk X0 e0
  have N0 := Fr.nil Z.heap.size
  have z0 : Z.heap.size ≤ h0.size := O0.2.1
  have Kr := Keep.refl h0 [a1]
  show own_G _ _ _ _ (T0.setTop (mkF m 0 #[.val (.ref a1), .val (.ref tp), .val (.ref te)] []))
  have lta := own_ltN Ea.lt
  have ltp := own_ltN V1.lt
  have lte := own_ltN V2.lt
  refine own_st (fun _ k => XS.aloadN X0.here hx rfl (hb hby own_d_prog_39_m1_0) rfl rfl k) ?_
  show own_G _ _ _ _ (T0.setTop (mkF m 1 #[.val (.ref a1), .val (.ref tp), .val (.ref te)] [(.ref a1)]))
  obtain ⟨T1, X1, e1, st1⟩ := initO X0 hx hZ hown (hw _ (List.mem_of_getElem? (i := 39) rfl)) (hw _ (List.mem_of_getElem? (i := 40) rfl)) (hw _ (List.mem_of_getElem? (i := 41) rfl)) e0 (g := (mkF m 1 #[.val (.ref a1), .val (.ref tp), .val (.ref te)] [(.ref a1)])) rfl (by rw [hml]; rfl) rfl (hb hby own_d_prog_39_m1_1) (by decide) (W := 0) (by show 2 * 0 + _ ≤ _; exact Nat.le_of_eq rfl) (by decide)
  refine own_st st1 ?_
  show own_G _ _ _ _ (T1.setTop (mkF m 4 #[.val (.ref a1), .val (.ref tp), .val (.ref te)] []))
  refine own_st (fun _ k => XS.aloadN X1.here hx rfl (hb hby own_d_prog_39_m1_4) rfl rfl k) ?_
  show own_G _ _ _ _ (T1.setTop (mkF m 5 #[.val (.ref a1), .val (.ref tp), .val (.ref te)] [(.ref a1)]))
  refine own_st (fun _ k => XS.aloadN X1.here hx rfl (hb hby own_d_prog_39_m1_5) rfl rfl k) ?_
  show own_G _ _ _ _ (T1.setTop (mkF m 6 #[.val (.ref a1), .val (.ref tp), .val (.ref te)] [(.ref tp), (.ref a1)]))
  obtain ⟨T2, h2, X2, e2, W2, st2⟩ := putF X1 hx hZ hown (host := "") (Or.inl (hw _ (List.mem_of_getElem? (i := 42) rfl))) Via.refl e1 F1 Ea (Or.inr ⟨(hw _ (List.mem_of_getElem? (i := 43) rfl)), rfl, hnm⟩) (hw _ (List.mem_of_getElem? (i := 20) rfl)) (ty := (.array .int)) (by decide) rfl rfl (g := (mkF m 6 #[.val (.ref a1), .val (.ref tp), .val (.ref te)] [(.ref tp), (.ref a1)])) rfl rfl (hb hby own_d_prog_39_m1_6)
  refine own_st st2 ?_
  have z3 : h2.size = h0.size := W2.size
  have O4 := Old.wr O0 W2 (by omega)
  have K5 : Keep h0 h2 [a1] := Kr.wr W2 (Or.inl (by simp))
  have N2 := Fr.snoc X2 N0 (by omega : Z.heap.size ≤ a1)
  have Fw2 := F1.same W2
  show own_G _ _ _ _ (T2.setTop (mkF m 9 #[.val (.ref a1), .val (.ref tp), .val (.ref te)] []))
  refine own_st (fun _ k => XS.aloadN X2.here hx rfl (hb hby own_d_prog_39_m1_9) rfl rfl k) ?_
  show own_G _ _ _ _ (T2.setTop (mkF m 10 #[.val (.ref a1), .val (.ref tp), .val (.ref te)] [(.ref a1)]))
  refine own_st (fun _ k => XS.aloadN X2.here hx rfl (hb hby own_d_prog_39_m1_10) rfl rfl k) ?_
  show own_G _ _ _ _ (T2.setTop (mkF m 11 #[.val (.ref a1), .val (.ref tp), .val (.ref te)] [(.ref te), (.ref a1)]))
  have q6 : Exa Z h2 a1 "com/example/libfacet/libfacet/exact/Factorization" := (Ea.wr W2)
  have q7 : Fld Z h2 a1 "com/example/libfacet/libfacet/exact/Factorization" "exponents" "[J" u2 := (F2.other W2 (Or.inr (slot_ne (Or.inr (hw _ (List.mem_of_getElem? (i := 45) rfl))) (Or.inr (hw _ (List.mem_of_getElem? (i := 43) rfl))) (by decide) (t := (.array .long)) (t' := (.array .int)) (by decide) (by decide))))
  obtain ⟨T8, h8, X8, e8, W8, st8⟩ := putF X2 hx hZ hown (host := "") (Or.inl (hw _ (List.mem_of_getElem? (i := 44) rfl))) Via.refl e2 q7 q6 (Or.inr ⟨(hw _ (List.mem_of_getElem? (i := 45) rfl)), rfl, hnm⟩) (hw _ (List.mem_of_getElem? (i := 20) rfl)) (ty := (.array .long)) (by decide) rfl rfl (g := (mkF m 11 #[.val (.ref a1), .val (.ref tp), .val (.ref te)] [(.ref te), (.ref a1)])) rfl rfl (hb hby own_d_prog_39_m1_11)
  refine own_st st8 ?_
  have z9 : h8.size = h2.size := W8.size
  have O10 := Old.wr O4 W8 (by omega)
  have K11 : Keep h0 h8 [a1] := K5.wr W8 (Or.inl (by simp))
  have N8 := Fr.snoc X8 N2 (by omega : Z.heap.size ≤ a1)
  have Fw8 := q7.same W8
  show own_G _ _ _ _ (T8.setTop (mkF m 14 #[.val (.ref a1), .val (.ref tp), .val (.ref te)] []))
  refine own_st (fun _ k => XS.aloadN X8.here hx rfl (hb hby own_d_prog_39_m1_14) rfl rfl k) ?_
  show own_G _ _ _ _ (T8.setTop (mkF m 15 #[.val (.ref a1), .val (.ref tp), .val (.ref te)] [(.ref a1)]))
  refine own_st (fun _ k => XS.bipush X8.here hx rfl (hb hby own_d_prog_39_m1_15) k) ?_
  show own_G _ _ _ _ (T8.setTop (mkF m 17 #[.val (.ref a1), .val (.ref tp), .val (.ref te)] [(.int (31 : Int32)), (.ref a1)]))
  refine own_st (fun _ k => XS.aloadN X8.here hx rfl (hb hby own_d_prog_39_m1_17) rfl rfl k) ?_
  show own_G _ _ _ _ (T8.setTop (mkF m 18 #[.val (.ref a1), .val (.ref tp), .val (.ref te)] [(.ref tp), (.int (31 : Int32)), (.ref a1)]))
  have q12 : Arv Z h8 tp kp .int (Int32.ofNat n) (own_vals f n) (.int (0 : Int32)) := ((V1.other W2 (show @Ne Nat tp a1 by omega)).other W8 (show @Ne Nat tp a1 by omega))
  have q13 : Exa Z h8 tp "[I" := ((E1.wr W2).wr W8)
  obtain ⟨_, _, ⟨T14, L14, k14, n14⟩, -, X14, ⟨Lc14, hQ14, l14, y14, z14⟩, st14⟩ := Jvm.LawKit.callS X8 hx (y := (⟨"java/util/Arrays", "hashCode", "([I)I"⟩ : MethodName)) hown (mvT hZ (hw _ (List.mem_of_getElem? (i := 46) rfl))) (mvT hZ (hw _ (List.mem_of_getElem? (i := 47) rfl))) (mvT hZ (hw _ (List.mem_of_getElem? (i := 23) rfl))) (mvT hZ (hw _ (List.mem_of_getElem? (i := 48) rfl))) (by decide) (own_back (rm := ({ frames := 2, cells := 0, slots := 0, locals := 33 } : Room)) (W := 2) (own_hcI l Z a0 hw [] tp kp f n h8 O10 hn q12 q13) hZ (hw _ (List.mem_of_getElem? (i := 48) rfl)) (hw _ (List.mem_of_getElem? (i := 23) rfl)) (by decide) (by decide)) (g := (mkF m 18 #[.val (.ref a1), .val (.ref tp), .val (.ref te)] [(.ref tp), (.int (31 : Int32)), (.ref a1)])) rfl (by rw [hml]; rfl) (argsL := [(.ref tp)]) (rest := [(.int (31 : Int32)), (.ref a1)]) (lenOf own_pd236 rfl) rfl (by show 2 * 0 + _ ≤ _; exact Nat.le_of_eq rfl) (hb hby own_d_prog_39_m1_18) (fun _ _ => ⟨rfl, e8, (by decide : 0 + 0 ≤ _), (by decide : 0 + 0 ≤ _)⟩)
  dsimp only [Pt.U, Pt.locs, Pt.cells, Pt.slots] at X14 l14 y14 z14 st14 hQ14
  subst l14 y14 z14
  obtain ⟨r14, rfl, N14q, eh14⟩ := hQ14
  have N14 := Fr.app N8 N14q
  refine own_st st14 ?_
  show own_G _ _ _ _ (T14.setTop (mkF m 21 #[.val (.ref a1), .val (.ref tp), .val (.ref te)] [(.int r14), (.int (31 : Int32)), (.ref a1)]))
  refine own_st (fun _ k => XS.imul X14.here hx rfl (hb hby own_d_prog_39_m1_21) rfl k) ?_
  show own_G _ _ _ _ (T14.setTop (mkF m 22 #[.val (.ref a1), .val (.ref tp), .val (.ref te)] [(.int ((31 : Int32) * r14)), (.ref a1)]))
  refine own_st (fun _ k => XS.aloadN X14.here hx rfl (hb hby own_d_prog_39_m1_22) rfl rfl k) ?_
  show own_G _ _ _ _ (T14.setTop (mkF m 23 #[.val (.ref a1), .val (.ref tp), .val (.ref te)] [(.ref te), (.int ((31 : Int32) * r14)), (.ref a1)]))
  have q15 : Arv Z h8 te ke .long (Int32.ofNat n) (own_valsL g n) (.long (0 : Int64)) := ((V2.other W2 (show @Ne Nat te a1 by omega)).other W8 (show @Ne Nat te a1 by omega))
  obtain ⟨_, _, ⟨T16, L16, k16, n16⟩, -, X16, ⟨Lc16, hQ16, l16, y16, z16⟩, st16⟩ := Jvm.LawKit.callS X14 hx (y := (⟨"java/util/Arrays", "hashCode", "([J)I"⟩ : MethodName)) hown (mvT hZ (hw _ (List.mem_of_getElem? (i := 49) rfl))) (mvT hZ (hw _ (List.mem_of_getElem? (i := 50) rfl))) (mvT hZ (hw _ (List.mem_of_getElem? (i := 23) rfl))) (mvT hZ (hw _ (List.mem_of_getElem? (i := 51) rfl))) (by decide) (own_back (rm := ({ frames := 0, cells := 0, slots := 0, locals := 0 } : Room)) (W := 2) (own_hcJ l Z a0 hw [] te ke g n h8 O10 hn q15) hZ (hw _ (List.mem_of_getElem? (i := 51) rfl)) (hw _ (List.mem_of_getElem? (i := 23) rfl)) (by decide) (by decide)) (g := (mkF m 23 #[.val (.ref a1), .val (.ref tp), .val (.ref te)] [(.ref te), (.int ((31 : Int32) * r14)), (.ref a1)])) rfl (by rw [hml]; rfl) (argsL := [(.ref te)]) (rest := [(.int ((31 : Int32) * r14)), (.ref a1)]) (lenOf own_pd240 rfl) rfl (by show 2 * 0 + _ ≤ _; exact Nat.le_of_eq rfl) (hb hby own_d_prog_39_m1_23) (fun _ _ => ⟨rfl, eh14, (by decide : 0 + 0 + 0 ≤ _), (by decide : 0 + 0 + 0 ≤ _)⟩)
  dsimp only [Pt.U, Pt.locs, Pt.cells, Pt.slots] at X16 l16 y16 z16 st16 hQ16
  subst l16 y16 z16
  obtain ⟨r16, rfl, N16q, eh16⟩ := hQ16
  have N16 := Fr.app N14 N16q
  refine own_st st16 ?_
  show own_G _ _ _ _ (T16.setTop (mkF m 26 #[.val (.ref a1), .val (.ref tp), .val (.ref te)] [(.int r16), (.int ((31 : Int32) * r14)), (.ref a1)]))
  refine own_st (fun _ k => XS.iadd X16.here hx rfl (hb hby own_d_prog_39_m1_26) rfl k) ?_
  show own_G _ _ _ _ (T16.setTop (mkF m 27 #[.val (.ref a1), .val (.ref tp), .val (.ref te)] [(.int (((31 : Int32) * r14) + r16)), (.ref a1)]))
  have q17 : Exa Z h8 a1 "com/example/libfacet/libfacet/exact/Factorization" := (q6.wr W8)
  have q18 : Fld Z h8 a1 "com/example/libfacet/libfacet/exact/Factorization" "hash" "I" u3 := ((F3.other W2 (Or.inr (slot_ne (Or.inr (hw _ (List.mem_of_getElem? (i := 53) rfl))) (Or.inr (hw _ (List.mem_of_getElem? (i := 43) rfl))) (by decide) (t := .int) (t' := (.array .int)) (by decide) (by decide)))).other W8 (Or.inr (slot_ne (Or.inr (hw _ (List.mem_of_getElem? (i := 53) rfl))) (Or.inr (hw _ (List.mem_of_getElem? (i := 45) rfl))) (by decide) (t := .int) (t' := (.array .long)) (by decide) (by decide))))
  obtain ⟨T19, h19, X19, e19, W19, st19⟩ := putF X16 hx hZ hown (host := "") (Or.inl (hw _ (List.mem_of_getElem? (i := 52) rfl))) Via.refl eh16 q18 q17 (Or.inr ⟨(hw _ (List.mem_of_getElem? (i := 53) rfl)), rfl, hnm⟩) (hw _ (List.mem_of_getElem? (i := 20) rfl)) (ty := .int) (by decide) rfl rfl (g := (mkF m 27 #[.val (.ref a1), .val (.ref tp), .val (.ref te)] [(.int (((31 : Int32) * r14) + r16)), (.ref a1)])) rfl rfl (hb hby own_d_prog_39_m1_27)
  refine own_st st19 ?_
  have z20 : h19.size = h8.size := W19.size
  have O21 := Old.wr O10 W19 (by omega)
  have K22 : Keep h0 h19 [a1] := K11.wr W19 (Or.inl (by simp))
  have N19 := Fr.snoc X19 N16 (by omega : Z.heap.size ≤ a1)
  have Fw19 := q18.same W19
  show own_G _ _ _ _ (T19.setTop (mkF m 30 #[.val (.ref a1), .val (.ref tp), .val (.ref te)] []))
  have q23 : Fld Z h19 a1 "com/example/libfacet/libfacet/exact/Factorization" "primes" "[I" (.ref tp) := ((Fw2.other W8 (Or.inr (slot_ne (Or.inr (hw _ (List.mem_of_getElem? (i := 43) rfl))) (Or.inr (hw _ (List.mem_of_getElem? (i := 45) rfl))) (by decide) (t := (.array .int)) (t' := (.array .long)) (by decide) (by decide)))).other W19 (Or.inr (slot_ne (Or.inr (hw _ (List.mem_of_getElem? (i := 43) rfl))) (Or.inr (hw _ (List.mem_of_getElem? (i := 53) rfl))) (by decide) (t := (.array .int)) (t' := .int) (by decide) (by decide))))
  have q24 : Fld Z h19 a1 "com/example/libfacet/libfacet/exact/Factorization" "exponents" "[J" (.ref te) := (Fw8.other W19 (Or.inr (slot_ne (Or.inr (hw _ (List.mem_of_getElem? (i := 45) rfl))) (Or.inr (hw _ (List.mem_of_getElem? (i := 53) rfl))) (by decide) (t := (.array .long)) (t' := .int) (by decide) (by decide))))
  exact own_ret0 X19 hx hret hlk (hb hby own_d_prog_39_m1_30) (by rw [e19]; exact ⟨rfl, N19, K22, q23, q24⟩) (by decide) (by decide)
theorem own_d_prog_39_m4_0 : decode prog_39_method_4_code 0 = .ok (.aload_n 0, 1) := by decide +kernel
theorem own_d_prog_39_m4_1 : decode prog_39_method_4_code 1 = .ok (.getfield 7, 3) := by decide +kernel
theorem own_d_prog_39_m4_4 : decode prog_39_method_4_code 4 = .ok (.arraylength, 1) := by decide +kernel
theorem own_d_prog_39_m4_5 : decode prog_39_method_4_code 5 = .ok (.ireturn, 1) := by decide +kernel
set_option maxRecDepth 65536 in
set_option maxHeartbeats 40000000 in
theorem own_size (l : Launch) (Z : State) (a0 : Array Value) (hw : ∀ d ∈ tables_1, d.before a0 Z = true) (ws : List Jvm.Cond) (a1 : Addr) (tp : Addr) (kp : ClassId) (f : Nat → Int32) (n : Nat) (h0 : Heap) (O0 : Old Z Z.heap.size h0) (F1 : Fld Z h0 a1 "com/example/libfacet/libfacet/exact/Factorization" "primes" "[I" (.ref tp)) (V1 : Arv Z h0 tp kp .int (Int32.ofNat n) (own_vals f n) (.int (0 : Int32))) :
    own_Met l Z (⟨"com/example/libfacet/libfacet/exact/Factorization", "size", "()I"⟩ : MethodName) prog_39_method_4_code 1 (some .int) ws ({ frames := 0, cells := 0, slots := 0, locals := 0 } : Room) #[(.ref a1)] h0 (fun v h L => v = some (.int (Int32.ofNat n)) ∧ Fr Z.heap.size L ∧ h = h0) (({ frames := 0, cells := 0, slots := 0, locals := 0 } : Room)).cells (({ frames := 0, cells := 0, slots := 0, locals := 0 } : Room)).slots := by
  refine own_body (ef := fun m => mkF m 0 #[.val (.ref a1)] []) (plainFor_of_name own_pn223) (fun m => by first | (simp [entryFrame, mkF, argsToLocals, Value.category]; done) | rfl) ?_
  intro p e s m below meth c T0 hx hZ hby hml hown hnm hret hlk X0 e0
  have N0 := Fr.nil Z.heap.size
  have z0 : Z.heap.size ≤ h0.size := O0.2.1
  have Kr := Keep.refl h0 []
  show own_G _ _ _ _ (T0.setTop (mkF m 0 #[.val (.ref a1)] []))
  refine own_st (fun _ k => XS.aloadN X0.here hx rfl (hb hby own_d_prog_39_m4_0) rfl rfl k) ?_
  show own_G _ _ _ _ (T0.setTop (mkF m 1 #[.val (.ref a1)] [(.ref a1)]))
  obtain ⟨T1, X1, e1, st1⟩ := getF X0 hx hZ hown (host := "") (Or.inl (hw _ (List.mem_of_getElem? (i := 42) rfl))) Via.refl e0 F1 (g := (mkF m 1 #[.val (.ref a1)] [(.ref a1)])) rfl rfl (hb hby own_d_prog_39_m4_1)
  refine own_st st1 ?_
  show own_G _ _ _ _ (T1.setTop (mkF m 4 #[.val (.ref a1)] [(.ref tp)]))
  obtain ⟨cl2, Ar2, qk2, Sz2, Mz2, Hz2, Uz2⟩ := id V1
  refine own_st (X1.arraylength hx (by rw [e1]; exact Ar2.1) (State.isArrayOf_alike hZ.alike Ar2.2.1) (g := (mkF m 4 #[.val (.ref a1)] [(.ref tp)])) rfl rfl (hb hby own_d_prog_39_m4_4)) ?_
  rw [len_of Sz2 Mz2]
  show own_G _ _ _ _ (T1.setTop (mkF m 5 #[.val (.ref a1)] [(.int (Int32.ofNat n))]))
  exact own_retI X1 hx hret hlk (hb hby own_d_prog_39_m4_5) (by rw [e1]; exact ⟨rfl, N0, rfl⟩) (by decide) (by decide)
theorem own_d_prog_39_m5_0 : decode prog_39_method_5_code 0 = .ok (.aload_n 0, 1) := by decide +kernel
theorem own_d_prog_39_m5_1 : decode prog_39_method_5_code 1 = .ok (.getfield 7, 3) := by decide +kernel
theorem own_d_prog_39_m5_4 : decode prog_39_method_5_code 4 = .ok (.iload_n 1, 1) := by decide +kernel
theorem own_d_prog_39_m5_5 : decode prog_39_method_5_code 5 = .ok (.iaload, 1) := by decide +kernel
theorem own_d_prog_39_m5_6 : decode prog_39_method_5_code 6 = .ok (.ireturn, 1) := by decide +kernel
set_option maxRecDepth 65536 in
set_option maxHeartbeats 40000000 in
theorem own_prime (l : Launch) (Z : State) (a0 : Array Value) (hw : ∀ d ∈ tables_1, d.before a0 Z = true) (ws : List Jvm.Cond) (a1 : Addr) (tp : Addr) (kp : ClassId) (f : Nat → Int32) (j n : Nat) (h0 : Heap) (O0 : Old Z Z.heap.size h0) (hj : j < n) (hn : n ≤ 4) (F1 : Fld Z h0 a1 "com/example/libfacet/libfacet/exact/Factorization" "primes" "[I" (.ref tp)) (V1 : Arv Z h0 tp kp .int (Int32.ofNat n) (own_vals f n) (.int (0 : Int32))) :
    own_Met l Z (⟨"com/example/libfacet/libfacet/exact/Factorization", "prime", "(I)I"⟩ : MethodName) prog_39_method_5_code 2 (some .int) ws ({ frames := 0, cells := 0, slots := 0, locals := 0 } : Room) #[(.ref a1), (.int (Int32.ofNat j))] h0 (fun v h L => v = some (.int (f j)) ∧ Fr Z.heap.size L ∧ h = h0) (({ frames := 0, cells := 0, slots := 0, locals := 0 } : Room)).cells (({ frames := 0, cells := 0, slots := 0, locals := 0 } : Room)).slots := by
  refine own_body (ef := fun m => mkF m 0 #[.val (.ref a1), .val (.int (Int32.ofNat j))] []) (plainFor_of_name own_pn223) (fun m => by first | (simp [entryFrame, mkF, argsToLocals, Value.category]; done) | rfl) ?_
  intro p e s m below meth c T0 hx hZ hby hml hown hnm hret hlk X0 e0
  have N0 := Fr.nil Z.heap.size
  have z0 : Z.heap.size ≤ h0.size := O0.2.1
  have Kr := Keep.refl h0 []
  show own_G _ _ _ _ (T0.setTop (mkF m 0 #[.val (.ref a1), .val (.int (Int32.ofNat j))] []))
  refine own_st (fun _ k => XS.aloadN X0.here hx rfl (hb hby own_d_prog_39_m5_0) rfl rfl k) ?_
  show own_G _ _ _ _ (T0.setTop (mkF m 1 #[.val (.ref a1), .val (.int (Int32.ofNat j))] [(.ref a1)]))
  obtain ⟨T1, X1, e1, st1⟩ := getF X0 hx hZ hown (host := "") (Or.inl (hw _ (List.mem_of_getElem? (i := 42) rfl))) Via.refl e0 F1 (g := (mkF m 1 #[.val (.ref a1), .val (.int (Int32.ofNat j))] [(.ref a1)])) rfl rfl (hb hby own_d_prog_39_m5_1)
  refine own_st st1 ?_
  show own_G _ _ _ _ (T1.setTop (mkF m 4 #[.val (.ref a1), .val (.int (Int32.ofNat j))] [(.ref tp)]))
  refine own_st (fun _ k => XS.iloadN X1.here hx rfl (hb hby own_d_prog_39_m5_4) rfl k) ?_
  show own_G _ _ _ _ (T1.setTop (mkF m 5 #[.val (.ref a1), .val (.int (Int32.ofNat j))] [(.int (Int32.ofNat j)), (.ref tp)]))
  obtain ⟨cl2, Ar2, qk2, Sz2, Mz2, Hz2, Uz2⟩ := id V1
  refine own_st (X1.iaload hx (j := (Int32.ofNat j)) (v := (.int (f j))) (by rw [e1]; exact Ar2.1) (State.isArrayOf_alike hZ.alike Ar2.2.1) Ar2.2.2 (own_in Sz2 hj (by omega)) (own_get Sz2 Hz2 hj (Nat.le_refl _) (by omega)) (g := (mkF m 5 #[.val (.ref a1), .val (.int (Int32.ofNat j))] [(.int (Int32.ofNat j)), (.ref tp)])) rfl rfl (hb hby own_d_prog_39_m5_5)) ?_
  show own_G _ _ _ _ (T1.setTop (mkF m 6 #[.val (.ref a1), .val (.int (Int32.ofNat j))] [(.int (f j))]))
  exact own_retI X1 hx hret hlk (hb hby own_d_prog_39_m5_6) (by rw [e1]; exact ⟨rfl, N0, rfl⟩) (by decide) (by decide)
theorem own_d_prog_39_m6_0 : decode prog_39_method_6_code 0 = .ok (.aload_n 0, 1) := by decide +kernel
theorem own_d_prog_39_m6_1 : decode prog_39_method_6_code 1 = .ok (.getfield 13, 3) := by decide +kernel
theorem own_d_prog_39_m6_4 : decode prog_39_method_6_code 4 = .ok (.iload_n 1, 1) := by decide +kernel
theorem own_d_prog_39_m6_5 : decode prog_39_method_6_code 5 = .ok (.laload, 1) := by decide +kernel
theorem own_d_prog_39_m6_6 : decode prog_39_method_6_code 6 = .ok (.lreturn, 1) := by decide +kernel
set_option maxRecDepth 65536 in
set_option maxHeartbeats 40000000 in
theorem own_expo (l : Launch) (Z : State) (a0 : Array Value) (hw : ∀ d ∈ tables_1, d.before a0 Z = true) (ws : List Jvm.Cond) (a1 : Addr) (te : Addr) (ke : ClassId) (g : Nat → Int64) (j n : Nat) (h0 : Heap) (O0 : Old Z Z.heap.size h0) (hj : j < n) (hn : n ≤ 4) (F1 : Fld Z h0 a1 "com/example/libfacet/libfacet/exact/Factorization" "exponents" "[J" (.ref te)) (V1 : Arv Z h0 te ke .long (Int32.ofNat n) (own_valsL g n) (.long (0 : Int64))) :
    own_Met l Z (⟨"com/example/libfacet/libfacet/exact/Factorization", "exponent", "(I)J"⟩ : MethodName) prog_39_method_6_code 2 (some .long) ws ({ frames := 0, cells := 0, slots := 0, locals := 0 } : Room) #[(.ref a1), (.int (Int32.ofNat j))] h0 (fun v h L => v = some (.long (g j)) ∧ Fr Z.heap.size L ∧ h = h0) (({ frames := 0, cells := 0, slots := 0, locals := 0 } : Room)).cells (({ frames := 0, cells := 0, slots := 0, locals := 0 } : Room)).slots := by
  refine own_body (ef := fun m => mkF m 0 #[.val (.ref a1), .val (.int (Int32.ofNat j))] []) (plainFor_of_name own_pn223) (fun m => by first | (simp [entryFrame, mkF, argsToLocals, Value.category]; done) | rfl) ?_
  intro p e s m below meth c T0 hx hZ hby hml hown hnm hret hlk X0 e0
  have N0 := Fr.nil Z.heap.size
  have z0 : Z.heap.size ≤ h0.size := O0.2.1
  have Kr := Keep.refl h0 []
  show own_G _ _ _ _ (T0.setTop (mkF m 0 #[.val (.ref a1), .val (.int (Int32.ofNat j))] []))
  refine own_st (fun _ k => XS.aloadN X0.here hx rfl (hb hby own_d_prog_39_m6_0) rfl rfl k) ?_
  show own_G _ _ _ _ (T0.setTop (mkF m 1 #[.val (.ref a1), .val (.int (Int32.ofNat j))] [(.ref a1)]))
  obtain ⟨T1, X1, e1, st1⟩ := getF X0 hx hZ hown (host := "") (Or.inl (hw _ (List.mem_of_getElem? (i := 44) rfl))) Via.refl e0 F1 (g := (mkF m 1 #[.val (.ref a1), .val (.int (Int32.ofNat j))] [(.ref a1)])) rfl rfl (hb hby own_d_prog_39_m6_1)
  refine own_st st1 ?_
  show own_G _ _ _ _ (T1.setTop (mkF m 4 #[.val (.ref a1), .val (.int (Int32.ofNat j))] [(.ref te)]))
  refine own_st (fun _ k => XS.iloadN X1.here hx rfl (hb hby own_d_prog_39_m6_4) rfl k) ?_
  show own_G _ _ _ _ (T1.setTop (mkF m 5 #[.val (.ref a1), .val (.int (Int32.ofNat j))] [(.int (Int32.ofNat j)), (.ref te)]))
  obtain ⟨cl2, Ar2, qk2, Sz2, Mz2, Hz2, Uz2⟩ := id V1
  refine own_st (X1.laload hx (j := (Int32.ofNat j)) (v := (.long (g j))) (by rw [e1]; exact Ar2.1) (State.isArrayOf_alike hZ.alike Ar2.2.1) Ar2.2.2 (own_in Sz2 hj (by omega)) (own_getL Sz2 Hz2 hj (Nat.le_refl _) (by omega)) (g := (mkF m 5 #[.val (.ref a1), .val (.int (Int32.ofNat j))] [(.int (Int32.ofNat j)), (.ref te)])) rfl rfl (hb hby own_d_prog_39_m6_5)) ?_
  show own_G _ _ _ _ (T1.setTop (mkF m 6 #[.val (.ref a1), .val (.int (Int32.ofNat j))] [(.long (g j))]))
  exact own_retJ X1 hx hret hlk (hb hby own_d_prog_39_m6_6) (by rw [e1]; exact ⟨rfl, N0, rfl⟩) (by decide) (by decide)
def own_fp (L : List (Nat × Nat)) (j : Nat) : Int32 := Int32.ofNat (L.getD j (0, 0)).1
def own_ge (L : List (Nat × Nat)) (j : Nat) : Int64 := Int64.ofNat (L.getD j (0, 0)).2
theorem own_Lone (j : Nat) : Int64.ofNat j + (1 : Int64) = Int64.ofNat (j + 1) := (Int64.ofNat_add j 1).symm
theorem own_drop {L : List (Nat × Nat)} {i : Nat} (h : i < L.length) : L.drop i = L.getD i (0, 0) :: L.drop (i + 1) := by
  rw [List.drop_eq_getElem_cons h]
  simp [List.getD_eq_getElem?_getD, h]
/-- what of leaves -/
def own_QO (Z : State) (hs : Heap) (L : List (Nat × Nat)) (v : Option Value) (h : Heap) (Ls : List Loc) : Prop := ∃ (a tp te : Addr) (kp ke : ClassId), v = some (.ref a) ∧ Fr Z.heap.size Ls ∧ Keep hs h [] ∧ Exa Z h a "com/example/libfacet/libfacet/exact/Factorization" ∧ Fld Z h a "com/example/libfacet/libfacet/exact/Factorization" "primes" "[I" (.ref tp) ∧ Fld Z h a "com/example/libfacet/libfacet/exact/Factorization" "exponents" "[J" (.ref te) ∧ Arv Z h tp kp .int (Int32.ofNat L.length) (own_vals (own_fp L) L.length) (.int (0 : Int32)) ∧ Arv Z h te ke .long (Int32.ofNat L.length) (own_valsL (own_ge L) L.length) (.long (0 : Int64))
theorem own_d_prog_39_m2_112 : decode prog_39_method_2_code 112 = .ok (.new 8, 3) := by decide +kernel
theorem own_d_prog_39_m2_115 : decode prog_39_method_2_code 115 = .ok (.dup, 1) := by decide +kernel
theorem own_d_prog_39_m2_116 : decode prog_39_method_2_code 116 = .ok (.aload_n 1, 1) := by decide +kernel
theorem own_d_prog_39_m2_117 : decode prog_39_method_2_code 117 = .ok (.iload_n 3, 1) := by decide +kernel
theorem own_d_prog_39_m2_118 : decode prog_39_method_2_code 118 = .ok (.invokestatic 41, 3) := by decide +kernel
theorem own_pd263 : parseMethodDescriptor "([II)[I" = some ⟨[(.array .int), .int], some (.array .int)⟩ := by decide +kernel
theorem own_d_prog_39_m2_121 : decode prog_39_method_2_code 121 = .ok (.aload_n 2, 1) := by decide +kernel
theorem own_d_prog_39_m2_122 : decode prog_39_method_2_code 122 = .ok (.iload_n 3, 1) := by decide +kernel
theorem own_d_prog_39_m2_123 : decode prog_39_method_2_code 123 = .ok (.invokestatic 45, 3) := by decide +kernel
theorem own_pd267 : parseMethodDescriptor "([JI)[J" = some ⟨[(.array .long), .int], some (.array .long)⟩ := by decide +kernel
theorem own_d_prog_39_m2_126 : decode prog_39_method_2_code 126 = .ok (.invokespecial 48, 3) := by decide +kernel
theorem own_pd269 : parseMethodDescriptor "([I[J)V" = some ⟨[(.array .int), (.array .long)], none⟩ := by decide +kernel
theorem own_d_prog_39_m2_129 : decode prog_39_method_2_code 129 = .ok (.areturn, 1) := by decide +kernel
set_option maxRecDepth 65536 in
set_option maxHeartbeats 40000000 in
theorem own_of_tail {p : Program} {l : Launch} {e : Env} {s : State} {m : MethodId} {args : Array Value} {below : List Frame} {meth : Method} {c : Code} {Z : State} {a0 : Array Value} {locs : List Loc} {T0 : State} {h0 : Heap}  {hs : Heap} (tp te : Addr) (kp ke : ClassId) (L : List (Nat × Nat)) (W : Int32) (s4 s5 : Slot) (hx : p.tables.exec = Jvm.exec) (hZ : Z.Warmed39 s.vm) (hw : ∀ d ∈ tables_1, d.before a0 Z = true) (hby : c.code = prog_39_method_2_code) (hml : c.maxLocals = 6) (hown : s.vm.findClass "com/example/libfacet/libfacet/exact/Factorization" = some m.cls) (X0 : Stand p l e ({ frames := 4, cells := 5, slots := 75, locals := 80 } : Room) s m args below meth c T0 locs (0 + 1 + 1) (0 + 32 + 32)) (e0 : T0.heap = h0) (N0 : Fr Z.heap.size locs) (O0 : Old Z Z.heap.size h0) (hret : meth.sig.returnType = some (.object "com/example/libfacet/libfacet/exact/Factorization")) (hlk : meth.locks = false) (hlen : L.length ≤ 4) (gp : Z.heap.size ≤ tp) (ge : Z.heap.size ≤ te) (gph : hs.size ≤ tp) (geh : hs.size ≤ te) (net : @Ne Nat tp te) (Ks : Keep hs h0 []) (Vp : Arv Z h0 tp kp .int (Int32.ofNat 32) (own_vals (own_fp L) (L.length)) (.int (0 : Int32))) (Ve : Arv Z h0 te ke .long (Int32.ofNat 32) (own_valsL (own_ge L) (L.length)) (.long (0 : Int64)))
     :
    own_G p.tables e below (own_F s below (own_QO Z hs L) 5 75) (T0.setTop (mkF m 112 #[.val (.int W), .val (.ref tp), .val (.ref te), .val (.int (Int32.ofNat L.length)), s4, s5] [])) := by
  have z0 : Z.heap.size ≤ h0.size := O0.2.1
  have Kr := Keep.refl h0 []
  show own_G _ _ _ _ (T0.setTop (mkF m 112 #[.val (.int W), .val (.ref tp), .val (.ref te), .val (.int (Int32.ofNat L.length)), s4, s5] []))
  have ltp := own_ltN Vp.lt
  have lte := own_ltN Ve.lt
  obtain ⟨T1, h1, X1, e1, E1, A1, D1, -, st1⟩ := newO X0 hx hZ hown (hw _ (List.mem_of_getElem? (i := 19) rfl)) (hw _ (List.mem_of_getElem? (i := 20) rfl)) (hw _ (List.mem_of_getElem? (i := 17) rfl)) e0 (g := (mkF m 112 #[.val (.int W), .val (.ref tp), .val (.ref te), .val (.int (Int32.ofNat L.length)), s4, s5] [])) rfl (hb hby own_d_prog_39_m2_112) (by decide) (by decide)
  obtain ⟨b1, g1⟩ : ∃ z, z = h0.size := ⟨_, rfl⟩
  rw [← g1] at A1 D1 st1
  refine own_st st1 ?_
  have z2 : h0.size ≤ h1.size := E1.1
  have O3 := Old.ext O0 E1
  have K4 : Keep h0 h1 [] := Kr.ext E1
  have F1_primes : Fld Z h1 b1 "com/example/libfacet/libfacet/exact/Factorization" "primes" "[I" .null := D1 (Or.inr (hw _ (List.mem_of_getElem? (i := 43) rfl))) (ty := (.array .int)) (by decide)
  have F1_exponents : Fld Z h1 b1 "com/example/libfacet/libfacet/exact/Factorization" "exponents" "[J" .null := D1 (Or.inr (hw _ (List.mem_of_getElem? (i := 45) rfl))) (ty := (.array .long)) (by decide)
  have F1_hash : Fld Z h1 b1 "com/example/libfacet/libfacet/exact/Factorization" "hash" "I" (.int (0 : Int32)) := D1 (Or.inr (hw _ (List.mem_of_getElem? (i := 53) rfl))) (ty := .int) (by decide)
  have lt1 := own_ltN A1.lt
  show own_G _ _ _ _ (T1.setTop (mkF m 115 #[.val (.int W), .val (.ref tp), .val (.ref te), .val (.int (Int32.ofNat L.length)), s4, s5] [(.ref b1)]))
  refine own_st (fun _ k => XS.dup X1.here hx rfl (hb hby own_d_prog_39_m2_115) rfl rfl k) ?_
  show own_G _ _ _ _ (T1.setTop (mkF m 116 #[.val (.int W), .val (.ref tp), .val (.ref te), .val (.int (Int32.ofNat L.length)), s4, s5] [(.ref b1), (.ref b1)]))
  refine own_st (fun _ k => XS.aloadN X1.here hx rfl (hb hby own_d_prog_39_m2_116) rfl rfl k) ?_
  show own_G _ _ _ _ (T1.setTop (mkF m 117 #[.val (.int W), .val (.ref tp), .val (.ref te), .val (.int (Int32.ofNat L.length)), s4, s5] [(.ref tp), (.ref b1), (.ref b1)]))
  refine own_st (fun _ k => XS.iloadN X1.here hx rfl (hb hby own_d_prog_39_m2_117) rfl k) ?_
  show own_G _ _ _ _ (T1.setTop (mkF m 118 #[.val (.int W), .val (.ref tp), .val (.ref te), .val (.int (Int32.ofNat L.length)), s4, s5] [(.int (Int32.ofNat L.length)), (.ref tp), (.ref b1), (.ref b1)]))
  have q5 : Arv Z h1 tp kp .int (Int32.ofNat 32) (own_vals (own_fp L) (L.length)) (.int (0 : Int32)) := (Vp.ext E1)
  obtain ⟨_, _, ⟨T6, L6, k6, n6⟩, -, X6, ⟨Lc6, hQ6, l6, y6, z6⟩, st6⟩ := Jvm.LawKit.callS X1 hx (y := (⟨"java/util/Arrays", "copyOf", "([II)[I"⟩ : MethodName)) hown (mvT hZ (hw _ (List.mem_of_getElem? (i := 21) rfl))) (mvT hZ (hw _ (List.mem_of_getElem? (i := 22) rfl))) (mvT hZ (hw _ (List.mem_of_getElem? (i := 23) rfl))) (mvT hZ (hw _ (List.mem_of_getElem? (i := 24) rfl))) (by decide) (own_back (rm := ({ frames := 1, cells := 1, slots := 4, locals := 40 } : Room)) (W := 2) (own_cpI l Z a0 hw [] tp L.length (own_fp L) kp h1 O3 hlen q5) hZ (hw _ (List.mem_of_getElem? (i := 24) rfl)) (hw _ (List.mem_of_getElem? (i := 23) rfl)) (by decide) (by decide)) (g := (mkF m 118 #[.val (.int W), .val (.ref tp), .val (.ref te), .val (.int (Int32.ofNat L.length)), s4, s5] [(.int (Int32.ofNat L.length)), (.ref tp), (.ref b1), (.ref b1)])) rfl (by rw [hml]; rfl) (argsL := [(.ref tp), (.int (Int32.ofNat L.length))]) (rest := [(.ref b1), (.ref b1)]) (lenOf own_pd263 rfl) rfl (by show 2 * 0 + _ ≤ _; exact Nat.le_of_eq rfl) (hb hby own_d_prog_39_m2_118) (fun _ _ => ⟨rfl, e1, (by decide : (0 + 1 + 1) + 1 + 1 ≤ _), (by decide : (0 + 32 + 32) + 3 + 4 ≤ _)⟩)
  dsimp only [Pt.U, Pt.locs, Pt.cells, Pt.slots] at X6 l6 y6 z6 st6 hQ6
  subst l6 y6 z6
  obtain ⟨c1, k1, rfl, N6q, K6_, gc1, lc1, V6, Ex6⟩ := hQ6
  have N6 := Fr.app N0 N6q
  refine own_st st6 ?_
  have z7 : h1.size ≤ T6.heap.size := K6_.1
  have O8 := Old.keep O3 K6_ all0
  have K9 : Keep h0 T6.heap [] := K4.trans K6_ all0
  show own_G _ _ _ _ (T6.setTop (mkF m 121 #[.val (.int W), .val (.ref tp), .val (.ref te), .val (.int (Int32.ofNat L.length)), s4, s5] [(.ref c1), (.ref b1), (.ref b1)]))
  refine own_st (fun _ k => XS.aloadN X6.here hx rfl (hb hby own_d_prog_39_m2_121) rfl rfl k) ?_
  show own_G _ _ _ _ (T6.setTop (mkF m 122 #[.val (.int W), .val (.ref tp), .val (.ref te), .val (.int (Int32.ofNat L.length)), s4, s5] [(.ref te), (.ref c1), (.ref b1), (.ref b1)]))
  refine own_st (fun _ k => XS.iloadN X6.here hx rfl (hb hby own_d_prog_39_m2_122) rfl k) ?_
  show own_G _ _ _ _ (T6.setTop (mkF m 123 #[.val (.int W), .val (.ref tp), .val (.ref te), .val (.int (Int32.ofNat L.length)), s4, s5] [(.int (Int32.ofNat L.length)), (.ref te), (.ref c1), (.ref b1), (.ref b1)]))
  have q10 : Arv Z T6.heap te ke .long (Int32.ofNat 32) (own_valsL (own_ge L) (L.length)) (.long (0 : Int64)) := ((Ve.ext E1).keep K6_ nin0)
  obtain ⟨_, _, ⟨T11, L11, k11, n11⟩, -, X11, ⟨Lc11, hQ11, l11, y11, z11⟩, st11⟩ := Jvm.LawKit.callS X6 hx (y := (⟨"java/util/Arrays", "copyOf", "([JI)[J"⟩ : MethodName)) hown (mvT hZ (hw _ (List.mem_of_getElem? (i := 33) rfl))) (mvT hZ (hw _ (List.mem_of_getElem? (i := 34) rfl))) (mvT hZ (hw _ (List.mem_of_getElem? (i := 23) rfl))) (mvT hZ (hw _ (List.mem_of_getElem? (i := 35) rfl))) (by decide) (own_back (rm := ({ frames := 1, cells := 1, slots := 4, locals := 40 } : Room)) (W := 3) (own_cpJ l Z a0 hw [] te L.length (own_ge L) ke T6.heap O8 hlen q10) hZ (hw _ (List.mem_of_getElem? (i := 35) rfl)) (hw _ (List.mem_of_getElem? (i := 23) rfl)) (by decide) (by decide)) (g := (mkF m 123 #[.val (.int W), .val (.ref tp), .val (.ref te), .val (.int (Int32.ofNat L.length)), s4, s5] [(.int (Int32.ofNat L.length)), (.ref te), (.ref c1), (.ref b1), (.ref b1)])) rfl (by rw [hml]; rfl) (argsL := [(.ref te), (.int (Int32.ofNat L.length))]) (rest := [(.ref c1), (.ref b1), (.ref b1)]) (lenOf own_pd267 rfl) rfl (by show 2 * 0 + _ ≤ _; exact Nat.le_of_eq rfl) (hb hby own_d_prog_39_m2_123) (fun _ _ => ⟨rfl, rfl, (by decide : (0 + 1 + 1) + 1 + 1 + 1 ≤ _), (by decide : (0 + 32 + 32) + 3 + 4 + 4 ≤ _)⟩)
  dsimp only [Pt.U, Pt.locs, Pt.cells, Pt.slots] at X11 l11 y11 z11 st11 hQ11
  subst l11 y11 z11
  obtain ⟨c2, k2, rfl, N11q, K11_, gc2, lc2, V11, Ex11⟩ := hQ11
  have N11 := Fr.app N6 N11q
  refine own_st st11 ?_
  have z12 : T6.heap.size ≤ T11.heap.size := K11_.1
  have O13 := Old.keep O8 K11_ all0
  have K14 : Keep h0 T11.heap [] := K9.trans K11_ all0
  show own_G _ _ _ _ (T11.setTop (mkF m 126 #[.val (.int W), .val (.ref tp), .val (.ref te), .val (.int (Int32.ofNat L.length)), s4, s5] [(.ref c2), (.ref c1), (.ref b1), (.ref b1)]))
  have q15 : Exa Z T11.heap b1 "com/example/libfacet/libfacet/exact/Factorization" := ((A1.keep K6_).keep K11_)
  have q16 : Fld Z T11.heap b1 "com/example/libfacet/libfacet/exact/Factorization" "primes" "[I" .null := ((F1_primes.keep K6_ nin0).keep K11_ nin0)
  have q17 : Fld Z T11.heap b1 "com/example/libfacet/libfacet/exact/Factorization" "exponents" "[J" .null := ((F1_exponents.keep K6_ nin0).keep K11_ nin0)
  have q18 : Fld Z T11.heap b1 "com/example/libfacet/libfacet/exact/Factorization" "hash" "I" (.int (0 : Int32)) := ((F1_hash.keep K6_ nin0).keep K11_ nin0)
  have q19 : Arv Z T11.heap c1 k1 .int (Int32.ofNat L.length) (own_vals (own_fp L) L.length) (.int (0 : Int32)) := (V6.keep K11_ nin0)
  have q20 : Exa Z T11.heap c1 "[I" := (Ex6.keep K11_)
  obtain ⟨_, _, ⟨T21, L21, k21, n21⟩, -, X21, ⟨Lc21, hQ21, l21, y21, z21⟩, st21⟩ := X11.specialBack hx (y := (⟨"com/example/libfacet/libfacet/exact/Factorization", "<init>", "([I[J)V"⟩ : MethodName)) rfl hown (mvT hZ (hw _ (List.mem_of_getElem? (i := 36) rfl))) (mvT hZ (hw _ (List.mem_of_getElem? (i := 37) rfl))) (mvT hZ (hw _ (List.mem_of_getElem? (i := 38) rfl))) (by decide) (own_back (rm := ({ frames := 3, cells := 0, slots := 0, locals := 50 } : Room)) (W := 1) (own_init l Z a0 hw [] b1 c1 c2 k1 k2 (own_fp L) (own_ge L) L.length .null .null (.int (0 : Int32)) T11.heap O13 hlen (by omega) (show @Ne Nat c1 b1 by omega) (show @Ne Nat c2 b1 by omega) q15 q16 q17 q18 q19 q20 V11) hZ (hw _ (List.mem_of_getElem? (i := 38) rfl)) (hw _ (List.mem_of_getElem? (i := 17) rfl)) (by decide) (by decide)) (g := (mkF m 126 #[.val (.int W), .val (.ref tp), .val (.ref te), .val (.int (Int32.ofNat L.length)), s4, s5] [(.ref c2), (.ref c1), (.ref b1), (.ref b1)])) rfl (by rw [hml]; rfl) (Steps.refl _) (a := b1) (argsL := [(.ref c1), (.ref c2)]) (rest := [(.ref b1)]) (lenOf own_pd269 rfl) rfl (by show 2 * 0 + _ ≤ _; exact Nat.le_of_eq rfl) (hb hby own_d_prog_39_m2_126) (fun _ _ => ⟨rfl, rfl, (by decide : (0 + 1 + 1) + 1 + 1 + 1 + 0 ≤ _), (by decide : (0 + 32 + 32) + 3 + 4 + 4 + 0 ≤ _)⟩)
  dsimp only [Pt.U, Pt.locs, Pt.cells, Pt.slots] at X21 l21 y21 z21 st21 hQ21
  subst l21 y21 z21
  obtain ⟨rfl, N21q, K21_, Fp, Fe⟩ := hQ21
  have N21 := Fr.app N11 N21q
  refine own_tr st21 ?_
  have z22 : T11.heap.size ≤ T21.heap.size := K21_.1
  have O23 := Old.keep O13 K21_ (allS (by omega) all0)
  have K24 : Keep h0 T21.heap [] := K14.trans K21_ (allS (Or.inr (by omega)) all0)
  show own_G _ _ _ _ (T21.setTop (mkF m 129 #[.val (.int W), .val (.ref tp), .val (.ref te), .val (.int (Int32.ofNat L.length)), s4, s5] [(.ref b1)]))
  have q25 : Exa Z T21.heap b1 "com/example/libfacet/libfacet/exact/Factorization" := (q15.keep K21_)
  have q26 : Arv Z T21.heap c1 k1 .int (Int32.ofNat L.length) (own_vals (own_fp L) L.length) (.int (0 : Int32)) := (q19.keep K21_ (ninS (show @Ne Nat c1 b1 by omega) nin0))
  have q27 : Arv Z T21.heap c2 k2 .long (Int32.ofNat L.length) (own_valsL (own_ge L) L.length) (.long (0 : Int64)) := (V11.keep K21_ (ninS (show @Ne Nat c2 b1 by omega) nin0))
  exact own_retA X21 hx hret rfl rfl hlk (hb hby own_d_prog_39_m2_129) ⟨b1, c1, c2, k1, k2, rfl, N21, Ks.trans K24 all0, q25, Fp, Fe, q26, q27⟩ (by decide) (by decide)
theorem own_d_prog_39_m2_94 : decode prog_39_method_2_code 94 = .ok (.iload 4, 2) := by decide +kernel
theorem own_d_prog_39_m2_96 : decode prog_39_method_2_code 96 = .ok (.iconst 1, 1) := by decide +kernel
theorem own_d_prog_39_m2_97 : decode prog_39_method_2_code 97 = .ok (.if_icmp .le 15, 3) := by decide +kernel
theorem own_d_prog_39_m2_100 : decode prog_39_method_2_code 100 = .ok (.aload_n 1, 1) := by decide +kernel
theorem own_d_prog_39_m2_101 : decode prog_39_method_2_code 101 = .ok (.iload_n 3, 1) := by decide +kernel
theorem own_d_prog_39_m2_102 : decode prog_39_method_2_code 102 = .ok (.iload 4, 2) := by decide +kernel
theorem own_d_prog_39_m2_104 : decode prog_39_method_2_code 104 = .ok (.iastore, 1) := by decide +kernel
theorem own_d_prog_39_m2_105 : decode prog_39_method_2_code 105 = .ok (.aload_n 2, 1) := by decide +kernel
theorem own_d_prog_39_m2_106 : decode prog_39_method_2_code 106 = .ok (.iload_n 3, 1) := by decide +kernel
theorem own_d_prog_39_m2_107 : decode prog_39_method_2_code 107 = .ok (.iinc 3 1, 3) := by decide +kernel
theorem own_d_prog_39_m2_110 : decode prog_39_method_2_code 110 = .ok (.lconst 1, 1) := by decide +kernel
theorem own_d_prog_39_m2_111 : decode prog_39_method_2_code 111 = .ok (.lastore, 1) := by decide +kernel
set_option maxRecDepth 65536 in
set_option maxHeartbeats 40000000 in
theorem own_of_end {p : Program} {l : Launch} {e : Env} {s : State} {m : MethodId} {args : Array Value} {below : List Frame} {meth : Method} {c : Code} {Z : State} {a0 : Array Value} {locs : List Loc} {T0 : State} {h0 : Heap}  {hs : Heap} (tp te : Addr) (kp ke : ClassId) (L : List (Nat × Nat)) (W : Int32) (i d b : Nat) (hx : p.tables.exec = Jvm.exec) (hZ : Z.Warmed39 s.vm) (hw : ∀ d ∈ tables_1, d.before a0 Z = true) (hby : c.code = prog_39_method_2_code) (hml : c.maxLocals = 6) (hown : s.vm.findClass "com/example/libfacet/libfacet/exact/Factorization" = some m.cls) (X0 : Stand p l e ({ frames := 4, cells := 5, slots := 75, locals := 80 } : Room) s m args below meth c T0 locs (0 + 1 + 1) (0 + 32 + 32)) (e0 : T0.heap = h0) (N0 : Fr Z.heap.size locs) (O0 : Old Z Z.heap.size h0) (hret : meth.sig.returnType = some (.object "com/example/libfacet/libfacet/exact/Factorization")) (hlk : meth.locks = false) (hlen : L.length ≤ 4) (gp : Z.heap.size ≤ tp) (ge : Z.heap.size ≤ te) (gph : hs.size ≤ tp) (geh : hs.size ≤ te) (net : @Ne Nat tp te) (Ks : Keep hs h0 []) (hi : i ≤ L.length) (ha : own_asc b (L.drop i)) (hn : own_nd d (own_prod (L.drop i))) (hlt : own_prod (L.drop i) < d * d) (hW : own_prod (L.drop i) < 2147483648) (Vp : Arv Z h0 tp kp .int (Int32.ofNat 32) (own_vals (own_fp L) (i)) (.int (0 : Int32))) (Ve : Arv Z h0 te ke .long (Int32.ofNat 32) (own_valsL (own_ge L) (i)) (.long (0 : Int64)))
     :
    own_G p.tables e below (own_F s below (own_QO Z hs L) 5 75) (T0.setTop (mkF m 94 #[.val (.int W), .val (.ref tp), .val (.ref te), .val (.int (Int32.ofNat (i))), .val (.int (Int32.ofNat (own_prod (L.drop (i))))), .val (.int (Int32.ofNat (d)))] [])) := by
  have z0 : Z.heap.size ≤ h0.size := O0.2.1
  have Kr := Keep.refl h0 [tp, te]
  show own_G _ _ _ _ (T0.setTop (mkF m 94 #[.val (.int W), .val (.ref tp), .val (.ref te), .val (.int (Int32.ofNat (i))), .val (.int (Int32.ofNat (own_prod (L.drop (i))))), .val (.int (Int32.ofNat (d)))] []))
  have ltp := own_ltN Vp.lt
  have lte := own_ltN Ve.lt
  rcases own_end_list ha hn hlt with hR | ⟨p0, hR⟩
  · skip
    have hil : i = L.length := by have := congrArg List.length hR; simp at this; omega
    rw [hR]
    show own_G _ _ _ _ (T0.setTop (mkF m 94 #[.val (.int W), .val (.ref tp), .val (.ref te), .val (.int (Int32.ofNat (i))), .val (.int (Int32.ofNat (own_prod []))), .val (.int (Int32.ofNat (d)))] []))
    refine own_st (fun _ k => XS.iload X0.here hx rfl (hb hby own_d_prog_39_m2_94) rfl k) ?_
    show own_G _ _ _ _ (T0.setTop (mkF m 96 #[.val (.int W), .val (.ref tp), .val (.ref te), .val (.int (Int32.ofNat (i))), .val (.int (Int32.ofNat (own_prod []))), .val (.int (Int32.ofNat (d)))] [(.int (Int32.ofNat (own_prod [])))]))
    refine own_st (fun _ k => XS.iconst X0.here hx rfl (hb hby own_d_prog_39_m2_96) k) ?_
    show own_G _ _ _ _ (T0.setTop (mkF m 97 #[.val (.int W), .val (.ref tp), .val (.ref te), .val (.int (Int32.ofNat (i))), .val (.int (Int32.ofNat (own_prod []))), .val (.int (Int32.ofNat (d)))] [(.int (1 : Int32)), (.int (Int32.ofNat (own_prod [])))]))
    refine own_st (fun _ k => XS.icmpYes X0.here hx rfl (pc0 := 97) (pc' := 112) rfl (hb hby own_d_prog_39_m2_97) rfl (flt (by decide)).2.2.2 (by decide) (by decide) k) ?_
    show own_G _ _ _ _ (T0.setTop (mkF m 112 #[.val (.int W), .val (.ref tp), .val (.ref te), .val (.int (Int32.ofNat (i))), .val (.int (Int32.ofNat (own_prod []))), .val (.int (Int32.ofNat (d)))] []))
    subst hil
    exact own_of_tail tp te kp ke L W _ _ hx hZ hw hby hml hown X0 e0 N0 O0 hret hlk hlen gp ge gph geh net Ks Vp Ve
  · skip
    have hil : i + 1 = L.length := by have := congrArg List.length hR; simp at this; omega
    have hq : L.getD i (0, 0) = (p0, 1) := by have := (own_drop (show i < L.length by omega)).symm.trans hR; exact (List.cons.inj this).1
    have hp0 : own_prod (L.drop i) = p0 := by rw [hR]; show p0 ^ 1 * 1 = p0; rw [Nat.pow_one, Nat.mul_one]
    have hp2 : 2 ≤ p0 := by rw [hR] at ha; exact ha.2.1.1
    rw [hp0] at hW
    rw [hp0]
    show own_G _ _ _ _ (T0.setTop (mkF m 94 #[.val (.int W), .val (.ref tp), .val (.ref te), .val (.int (Int32.ofNat (i))), .val (.int (Int32.ofNat p0)), .val (.int (Int32.ofNat (d)))] []))
    refine own_st (fun _ k => XS.iload X0.here hx rfl (hb hby own_d_prog_39_m2_94) rfl k) ?_
    show own_G _ _ _ _ (T0.setTop (mkF m 96 #[.val (.int W), .val (.ref tp), .val (.ref te), .val (.int (Int32.ofNat (i))), .val (.int (Int32.ofNat p0)), .val (.int (Int32.ofNat (d)))] [(.int (Int32.ofNat p0))]))
    refine own_st (fun _ k => XS.iconst X0.here hx rfl (hb hby own_d_prog_39_m2_96) k) ?_
    show own_G _ _ _ _ (T0.setTop (mkF m 97 #[.val (.int W), .val (.ref tp), .val (.ref te), .val (.int (Int32.ofNat (i))), .val (.int (Int32.ofNat p0)), .val (.int (Int32.ofNat (d)))] [(.int (1 : Int32)), (.int (Int32.ofNat p0))]))
    refine own_st (fun _ k => XS.icmpNo X0.here hx rfl (hb hby own_d_prog_39_m2_97) rfl (tlt (own_lt (i := 1) (by omega) hW)).2.2.2 k) ?_
    show own_G _ _ _ _ (T0.setTop (mkF m 100 #[.val (.int W), .val (.ref tp), .val (.ref te), .val (.int (Int32.ofNat (i))), .val (.int (Int32.ofNat p0)), .val (.int (Int32.ofNat (d)))] []))
    refine own_st (fun _ k => XS.aloadN X0.here hx rfl (hb hby own_d_prog_39_m2_100) rfl rfl k) ?_
    show own_G _ _ _ _ (T0.setTop (mkF m 101 #[.val (.int W), .val (.ref tp), .val (.ref te), .val (.int (Int32.ofNat (i))), .val (.int (Int32.ofNat p0)), .val (.int (Int32.ofNat (d)))] [(.ref tp)]))
    refine own_st (fun _ k => XS.iloadN X0.here hx rfl (hb hby own_d_prog_39_m2_101) rfl k) ?_
    show own_G _ _ _ _ (T0.setTop (mkF m 102 #[.val (.int W), .val (.ref tp), .val (.ref te), .val (.int (Int32.ofNat (i))), .val (.int (Int32.ofNat p0)), .val (.int (Int32.ofNat (d)))] [(.int (Int32.ofNat (i))), (.ref tp)]))
    refine own_st (fun _ k => XS.iload X0.here hx rfl (hb hby own_d_prog_39_m2_102) rfl k) ?_
    show own_G _ _ _ _ (T0.setTop (mkF m 104 #[.val (.int W), .val (.ref tp), .val (.ref te), .val (.int (Int32.ofNat (i))), .val (.int (Int32.ofNat p0)), .val (.int (Int32.ofNat (d)))] [(.int (Int32.ofNat p0)), (.int (Int32.ofNat (i))), (.ref tp)]))
    have V1p : Arv Z h0 tp kp .int (Int32.ofNat 32) ((own_vals (own_fp L) (i)) ++ [(.int (0 : Int32))]) (.int (0 : Int32)) := Vp.pad (pad_rep (own_vals (own_fp L) (i)) (.int (0 : Int32)) 1)
    obtain ⟨cl2, Ar2, qk2, Sz2, Mz2, Hz2, Uz2⟩ := id V1p
    obtain ⟨T3, h3, X3, e3, W3, st3⟩ := stI X0 hx hZ e0 Ar2 (j := (Int32.ofNat (i))) (own_in (n := 32) Sz2 (by omega) (by omega)) (g := (mkF m 104 #[.val (.int W), .val (.ref tp), .val (.ref te), .val (.int (Int32.ofNat (i))), .val (.int (Int32.ofNat p0)), .val (.int (Int32.ofNat (d)))] [(.int (Int32.ofNat p0)), (.int (Int32.ofNat (i))), (.ref tp)])) rfl rfl (hb hby own_d_prog_39_m2_104)
    refine own_st st3 ?_
    have V3 := Arv.set Ar2 qk2 Sz2 Mz2 Hz2 Uz2 rfl W3 (own_vals (own_fp L) (i)).length (by rw [own_clamp (by omega), own_len]) (by simp)
    have z4 : h3.size = h0.size := W3.size
    have O5 := Old.wr O0 W3 (by omega)
    have K6 : Keep h0 h3 [tp, te] := Kr.wr W3 (Or.inl (by simp))
    have N3 := Fr.snoc X3 N0 (by omega : Z.heap.size ≤ tp)
    have V3' : Arv Z h3 tp kp .int (Int32.ofNat 32) (own_vals (own_fp L) (i + 1)) (.int (0 : Int32)) := by have q := V3; rw [own_set] at q; rw [← own_next, show own_fp L i = Int32.ofNat p0 by rw [own_fp, hq]]; exact q
    show own_G _ _ _ _ (T3.setTop (mkF m 105 #[.val (.int W), .val (.ref tp), .val (.ref te), .val (.int (Int32.ofNat (i))), .val (.int (Int32.ofNat p0)), .val (.int (Int32.ofNat (d)))] []))
    refine own_st (fun _ k => XS.aloadN X3.here hx rfl (hb hby own_d_prog_39_m2_105) rfl rfl k) ?_
    show own_G _ _ _ _ (T3.setTop (mkF m 106 #[.val (.int W), .val (.ref tp), .val (.ref te), .val (.int (Int32.ofNat (i))), .val (.int (Int32.ofNat p0)), .val (.int (Int32.ofNat (d)))] [(.ref te)]))
    refine own_st (fun _ k => XS.iloadN X3.here hx rfl (hb hby own_d_prog_39_m2_106) rfl k) ?_
    show own_G _ _ _ _ (T3.setTop (mkF m 107 #[.val (.int W), .val (.ref tp), .val (.ref te), .val (.int (Int32.ofNat (i))), .val (.int (Int32.ofNat p0)), .val (.int (Int32.ofNat (d)))] [(.int (Int32.ofNat (i))), (.ref te)]))
    refine own_st (fun _ k => XS.iinc X3.here hx rfl (hb hby own_d_prog_39_m2_107) rfl (l' := #[.val (.int W), .val (.ref tp), .val (.ref te), .val (.int ((Int32.ofNat (i)) + (1 : Int32))), .val (.int (Int32.ofNat p0)), .val (.int (Int32.ofNat (d)))]) rfl k) ?_
    show own_G _ _ _ _ (T3.setTop (mkF m 110 #[.val (.int W), .val (.ref tp), .val (.ref te), .val (.int ((Int32.ofNat (i)) + (1 : Int32))), .val (.int (Int32.ofNat p0)), .val (.int (Int32.ofNat (d)))] [(.int (Int32.ofNat (i))), (.ref te)]))
    refine own_st (fun _ k => XS.lconst X3.here hx rfl (hb hby own_d_prog_39_m2_110) k) ?_
    show own_G _ _ _ _ (T3.setTop (mkF m 111 #[.val (.int W), .val (.ref tp), .val (.ref te), .val (.int ((Int32.ofNat (i)) + (1 : Int32))), .val (.int (Int32.ofNat p0)), .val (.int (Int32.ofNat (d)))] [(.long (1 : Int64)), (.int (Int32.ofNat (i))), (.ref te)]))
    have q7 : Arv Z h3 te ke .long (Int32.ofNat 32) (own_valsL (own_ge L) (i)) (.long (0 : Int64)) := (Ve.other W3 (show @Ne Nat te tp by omega))
    have V8p : Arv Z h3 te ke .long (Int32.ofNat 32) ((own_valsL (own_ge L) (i)) ++ [(.long (0 : Int64))]) (.long (0 : Int64)) := q7.pad (pad_rep (own_valsL (own_ge L) (i)) (.long (0 : Int64)) 1)
    obtain ⟨cl9, Ar9, qk9, Sz9, Mz9, Hz9, Uz9⟩ := id V8p
    obtain ⟨T10, h10, X10, e10, W10, st10⟩ := stJ X3 hx hZ e3 Ar9 (j := (Int32.ofNat (i))) (own_in (n := 32) Sz9 (by omega) (by omega)) (g := (mkF m 111 #[.val (.int W), .val (.ref tp), .val (.ref te), .val (.int ((Int32.ofNat (i)) + (1 : Int32))), .val (.int (Int32.ofNat p0)), .val (.int (Int32.ofNat (d)))] [(.long (1 : Int64)), (.int (Int32.ofNat (i))), (.ref te)])) rfl rfl (hb hby own_d_prog_39_m2_111)
    refine own_st st10 ?_
    have V10 := Arv.set Ar9 qk9 Sz9 Mz9 Hz9 Uz9 rfl W10 (own_valsL (own_ge L) (i)).length (by rw [own_clamp (by omega), own_lenL]) (by simp)
    have z11 : h10.size = h3.size := W10.size
    have O12 := Old.wr O5 W10 (by omega)
    have K13 : Keep h0 h10 [tp, te] := K6.wr W10 (Or.inl (by simp))
    have N10 := Fr.snoc X10 N3 (by omega : Z.heap.size ≤ te)
    have V10' : Arv Z h10 te ke .long (Int32.ofNat 32) (own_valsL (own_ge L) (i + 1)) (.long (0 : Int64)) := by have q := V10; rw [own_set] at q; rw [← own_nextL, show own_ge L i = (1 : Int64) by rw [own_ge, hq]; rfl]; exact q
    show own_G _ _ _ _ (T10.setTop (mkF m 112 #[.val (.int W), .val (.ref tp), .val (.ref te), .val (.int ((Int32.ofNat (i)) + (1 : Int32))), .val (.int (Int32.ofNat p0)), .val (.int (Int32.ofNat (d)))] []))
    rw [own_one]
    show own_G _ _ _ _ (T10.setTop (mkF m 112 #[.val (.int W), .val (.ref tp), .val (.ref te), .val (.int (Int32.ofNat (i + 1))), .val (.int (Int32.ofNat p0)), .val (.int (Int32.ofNat (d)))] []))
    have q14 : Arv Z h10 tp kp .int (Int32.ofNat 32) (own_vals (own_fp L) (i + 1)) (.int (0 : Int32)) := (V3'.other W10 (show @Ne Nat tp te by omega))
    have Vp2 := q14
    have Ve2 := V10'
    rw [hil] at Vp2 Ve2 ⊢
    exact own_of_tail tp te kp ke L W _ _ hx hZ hw hby hml hown X10 e10 N10 O12 hret hlk hlen gp ge gph geh net (Ks.trans K13 (allS (Or.inr gph) (allS (Or.inr geh) all0))) Vp2 Ve2
theorem own_d_prog_39_m2_60 : decode prog_39_method_2_code 60 = .ok (.iload 4, 2) := by decide +kernel
theorem own_d_prog_39_m2_62 : decode prog_39_method_2_code 62 = .ok (.iload 5, 2) := by decide +kernel
theorem own_d_prog_39_m2_64 : decode prog_39_method_2_code 64 = .ok (.irem, 1) := by decide +kernel
theorem own_d_prog_39_m2_65 : decode prog_39_method_2_code 65 = .ok (.ifCond .ne 20, 3) := by decide +kernel
theorem own_d_prog_39_m2_68 : decode prog_39_method_2_code 68 = .ok (.aload_n 2, 1) := by decide +kernel
theorem own_d_prog_39_m2_69 : decode prog_39_method_2_code 69 = .ok (.iload_n 3, 1) := by decide +kernel
theorem own_d_prog_39_m2_70 : decode prog_39_method_2_code 70 = .ok (.dup2, 1) := by decide +kernel
theorem own_d_prog_39_m2_71 : decode prog_39_method_2_code 71 = .ok (.laload, 1) := by decide +kernel
theorem own_d_prog_39_m2_72 : decode prog_39_method_2_code 72 = .ok (.lconst 1, 1) := by decide +kernel
theorem own_d_prog_39_m2_73 : decode prog_39_method_2_code 73 = .ok (.ladd, 1) := by decide +kernel
theorem own_d_prog_39_m2_74 : decode prog_39_method_2_code 74 = .ok (.lastore, 1) := by decide +kernel
theorem own_d_prog_39_m2_75 : decode prog_39_method_2_code 75 = .ok (.iload 4, 2) := by decide +kernel
theorem own_d_prog_39_m2_77 : decode prog_39_method_2_code 77 = .ok (.iload 5, 2) := by decide +kernel
theorem own_d_prog_39_m2_79 : decode prog_39_method_2_code 79 = .ok (.idiv, 1) := by decide +kernel
theorem own_d_prog_39_m2_80 : decode prog_39_method_2_code 80 = .ok (.istore 4, 2) := by decide +kernel
theorem own_d_prog_39_m2_82 : decode prog_39_method_2_code 82 = .ok (.goto (-22), 3) := by decide +kernel
set_option maxRecDepth 65536 in
set_option maxHeartbeats 40000000 in
theorem own_in_turn {p : Program} {l : Launch} {e : Env} {s : State} {m : MethodId} {args : Array Value} {below : List Frame} {meth : Method} {c : Code} {Z : State} {a0 : Array Value} {locs : List Loc} {T0 : State} {h0 : Heap} {F : State → Prop} (tp te : Addr) (ke : ClassId) (L : List (Nat × Nat)) (W : Int32) (i d r j t : Nat) (hx : p.tables.exec = Jvm.exec) (hZ : Z.Warmed39 s.vm) (hw : ∀ d ∈ tables_1, d.before a0 Z = true) (hby : c.code = prog_39_method_2_code) (hml : c.maxLocals = 6) (hown : s.vm.findClass "com/example/libfacet/libfacet/exact/Factorization" = some m.cls) (X0 : Stand p l e ({ frames := 4, cells := 5, slots := 75, locals := 80 } : Room) s m args below meth c T0 locs (0 + 1 + 1) (0 + 32 + 32)) (e0 : T0.heap = h0) (N0 : Fr Z.heap.size locs) (O0 : Old Z Z.heap.size h0) (hi4 : i < 32) (hd : 2 ≤ d) (hd2 : d < 2147483648) (ge : Z.heap.size ≤ te) (hW : d ^ (t + 1) * r < 2147483648) (Ve : Arv Z h0 te ke .long (Int32.ofNat 32) (own_valsL (own_ge L) i ++ [.long (Int64.ofNat (j))]) (.long (0 : Int64)))
    (k : ∀ (T' : State) (h' : Heap) (locs' : List Loc), Stand p l e ({ frames := 4, cells := 5, slots := 75, locals := 80 } : Room) s m args below meth c T' locs' (0 + 1 + 1) (0 + 32 + 32) → T'.heap = h' → Fr Z.heap.size locs' → Old Z Z.heap.size h' → Keep h0 h' [te] → Arv Z h' te ke .long (Int32.ofNat 32) (own_valsL (own_ge L) i ++ [.long (Int64.ofNat (j + 1))]) (.long (0 : Int64)) → own_G p.tables e below F (T'.setTop (mkF m 60 #[.val (.int W), .val (.ref tp), .val (.ref te), .val (.int (Int32.ofNat i)), .val (.int (Int32.ofNat (d ^ t * r))), .val (.int (Int32.ofNat d))] []))) :
    own_G p.tables e below F (T0.setTop (mkF m 60 #[.val (.int W), .val (.ref tp), .val (.ref te), .val (.int (Int32.ofNat i)), .val (.int (Int32.ofNat (d ^ (t + 1) * r))), .val (.int (Int32.ofNat d))] [])) := by
  have z0 : Z.heap.size ≤ h0.size := O0.2.1
  have Kr := Keep.refl h0 [te]
  show own_G _ _ _ _ (T0.setTop (mkF m 60 #[.val (.int W), .val (.ref tp), .val (.ref te), .val (.int (Int32.ofNat i)), .val (.int (Int32.ofNat (d ^ (t + 1) * r))), .val (.int (Int32.ofNat d))] []))
  have lte := own_ltN Ve.lt
  have hdv : d ^ (t + 1) * r = d * (d ^ t * r) := by rw [Nat.pow_succ, Nat.mul_comm (d ^ t) d, Nat.mul_assoc]
  refine own_st (fun _ k => XS.iload X0.here hx rfl (hb hby own_d_prog_39_m2_60) rfl k) ?_
  show own_G _ _ _ _ (T0.setTop (mkF m 62 #[.val (.int W), .val (.ref tp), .val (.ref te), .val (.int (Int32.ofNat i)), .val (.int (Int32.ofNat (d ^ (t + 1) * r))), .val (.int (Int32.ofNat d))] [(.int (Int32.ofNat (d ^ (t + 1) * r)))]))
  refine own_st (fun _ k => XS.iload X0.here hx rfl (hb hby own_d_prog_39_m2_62) rfl k) ?_
  show own_G _ _ _ _ (T0.setTop (mkF m 64 #[.val (.int W), .val (.ref tp), .val (.ref te), .val (.int (Int32.ofNat i)), .val (.int (Int32.ofNat (d ^ (t + 1) * r))), .val (.int (Int32.ofNat d))] [(.int (Int32.ofNat d)), (.int (Int32.ofNat (d ^ (t + 1) * r)))]))
  refine own_st (fun _ k => Jvm.RoadKit.iremM (g := (mkF m 64 #[.val (.int W), .val (.ref tp), .val (.ref te), .val (.int (Int32.ofNat i)), .val (.int (Int32.ofNat (d ^ (t + 1) * r))), .val (.int (Int32.ofNat d))] [(.int (Int32.ofNat d)), (.int (Int32.ofNat (d ^ (t + 1) * r)))])) X0 hx rfl (hb hby own_d_prog_39_m2_64) rfl (own_ne0 (by omega) (by omega)) k) ?_
  show own_G _ _ _ _ (T0.setTop (mkF m 65 #[.val (.int W), .val (.ref tp), .val (.ref te), .val (.int (Int32.ofNat i)), .val (.int (Int32.ofNat (d ^ (t + 1) * r))), .val (.int (Int32.ofNat d))] [(.int ((Int32.ofNat (d ^ (t + 1) * r)) % (Int32.ofNat d)))]))
  rw [own_mod hW (by omega) (by omega)]
  show own_G _ _ _ _ (T0.setTop (mkF m 65 #[.val (.int W), .val (.ref tp), .val (.ref te), .val (.int (Int32.ofNat i)), .val (.int (Int32.ofNat (d ^ (t + 1) * r))), .val (.int (Int32.ofNat d))] [(.int (Int32.ofNat (d ^ (t + 1) * r % d)))]))
  refine own_st (fun _ k => XS.ifNo X0.here hx rfl (hb hby own_d_prog_39_m2_65) rfl ((if0 _ _).trans (teq (by rw [hdv, Nat.mul_mod_right]; rfl)).2) k) ?_
  show own_G _ _ _ _ (T0.setTop (mkF m 68 #[.val (.int W), .val (.ref tp), .val (.ref te), .val (.int (Int32.ofNat i)), .val (.int (Int32.ofNat (d ^ (t + 1) * r))), .val (.int (Int32.ofNat d))] []))
  refine own_st (fun _ k => XS.aloadN X0.here hx rfl (hb hby own_d_prog_39_m2_68) rfl rfl k) ?_
  show own_G _ _ _ _ (T0.setTop (mkF m 69 #[.val (.int W), .val (.ref tp), .val (.ref te), .val (.int (Int32.ofNat i)), .val (.int (Int32.ofNat (d ^ (t + 1) * r))), .val (.int (Int32.ofNat d))] [(.ref te)]))
  refine own_st (fun _ k => XS.iloadN X0.here hx rfl (hb hby own_d_prog_39_m2_69) rfl k) ?_
  show own_G _ _ _ _ (T0.setTop (mkF m 70 #[.val (.int W), .val (.ref tp), .val (.ref te), .val (.int (Int32.ofNat i)), .val (.int (Int32.ofNat (d ^ (t + 1) * r))), .val (.int (Int32.ofNat d))] [(.int (Int32.ofNat i)), (.ref te)]))
  refine own_st (fun _ k => XT.dup2 X0.here hx rfl (hb hby own_d_prog_39_m2_70) rfl rfl rfl k) ?_
  show own_G _ _ _ _ (T0.setTop (mkF m 71 #[.val (.int W), .val (.ref tp), .val (.ref te), .val (.int (Int32.ofNat i)), .val (.int (Int32.ofNat (d ^ (t + 1) * r))), .val (.int (Int32.ofNat d))] [(.int (Int32.ofNat i)), (.ref te), (.int (Int32.ofNat i)), (.ref te)]))
  obtain ⟨cl1, Ar1, qk1, Sz1, Mz1, Hz1, Uz1⟩ := id Ve
  refine own_st (X0.laload hx (j := (Int32.ofNat i)) (v := (.long (Int64.ofNat (j)))) (by rw [e0]; exact Ar1.1) (State.isArrayOf_alike hZ.alike Ar1.2.1) Ar1.2.2 (own_in (n := 32) Sz1 (by omega) (by omega)) (own_last (N := 32) Sz1 Hz1 (own_lenL _ _) (by omega) (by omega)) (g := (mkF m 71 #[.val (.int W), .val (.ref tp), .val (.ref te), .val (.int (Int32.ofNat i)), .val (.int (Int32.ofNat (d ^ (t + 1) * r))), .val (.int (Int32.ofNat d))] [(.int (Int32.ofNat i)), (.ref te), (.int (Int32.ofNat i)), (.ref te)])) rfl rfl (hb hby own_d_prog_39_m2_71)) ?_
  show own_G _ _ _ _ (T0.setTop (mkF m 72 #[.val (.int W), .val (.ref tp), .val (.ref te), .val (.int (Int32.ofNat i)), .val (.int (Int32.ofNat (d ^ (t + 1) * r))), .val (.int (Int32.ofNat d))] [(.long (Int64.ofNat (j))), (.int (Int32.ofNat i)), (.ref te)]))
  refine own_st (fun _ k => XS.lconst X0.here hx rfl (hb hby own_d_prog_39_m2_72) k) ?_
  show own_G _ _ _ _ (T0.setTop (mkF m 73 #[.val (.int W), .val (.ref tp), .val (.ref te), .val (.int (Int32.ofNat i)), .val (.int (Int32.ofNat (d ^ (t + 1) * r))), .val (.int (Int32.ofNat d))] [(.long (1 : Int64)), (.long (Int64.ofNat (j))), (.int (Int32.ofNat i)), (.ref te)]))
  refine own_st (fun _ k => XS.ladd X0.here hx rfl (hb hby own_d_prog_39_m2_73) rfl k) ?_
  show own_G _ _ _ _ (T0.setTop (mkF m 74 #[.val (.int W), .val (.ref tp), .val (.ref te), .val (.int (Int32.ofNat i)), .val (.int (Int32.ofNat (d ^ (t + 1) * r))), .val (.int (Int32.ofNat d))] [(.long ((Int64.ofNat (j)) + (1 : Int64))), (.int (Int32.ofNat i)), (.ref te)]))
  rw [own_Lone]
  show own_G _ _ _ _ (T0.setTop (mkF m 74 #[.val (.int W), .val (.ref tp), .val (.ref te), .val (.int (Int32.ofNat i)), .val (.int (Int32.ofNat (d ^ (t + 1) * r))), .val (.int (Int32.ofNat d))] [(.long (Int64.ofNat (j + 1))), (.int (Int32.ofNat i)), (.ref te)]))
  obtain ⟨cl2, Ar2, qk2, Sz2, Mz2, Hz2, Uz2⟩ := id Ve
  obtain ⟨T3, h3, X3, e3, W3, st3⟩ := stJ X0 hx hZ e0 Ar2 (j := (Int32.ofNat i)) (own_in (n := 32) Sz2 (by omega) (by omega)) (g := (mkF m 74 #[.val (.int W), .val (.ref tp), .val (.ref te), .val (.int (Int32.ofNat i)), .val (.int (Int32.ofNat (d ^ (t + 1) * r))), .val (.int (Int32.ofNat d))] [(.long (Int64.ofNat (j + 1))), (.int (Int32.ofNat i)), (.ref te)])) rfl rfl (hb hby own_d_prog_39_m2_74)
  refine own_st st3 ?_
  have V3 := Arv.set Ar2 qk2 Sz2 Mz2 Hz2 Uz2 rfl W3 (own_valsL (own_ge L) i).length (by rw [own_clamp (by omega), own_lenL]) (by simp)
  have z4 : h3.size = h0.size := W3.size
  have O5 := Old.wr O0 W3 (by omega)
  have K6 : Keep h0 h3 [te] := Kr.wr W3 (Or.inl (by simp))
  have N3 := Fr.snoc X3 N0 (by omega : Z.heap.size ≤ te)
  have V3' : Arv Z h3 te ke .long (Int32.ofNat 32) (own_valsL (own_ge L) i ++ [.long (Int64.ofNat (j + 1))]) (.long (0 : Int64)) := by have q := V3; rw [own_set] at q; exact q
  show own_G _ _ _ _ (T3.setTop (mkF m 75 #[.val (.int W), .val (.ref tp), .val (.ref te), .val (.int (Int32.ofNat i)), .val (.int (Int32.ofNat (d ^ (t + 1) * r))), .val (.int (Int32.ofNat d))] []))
  refine own_st (fun _ k => XS.iload X3.here hx rfl (hb hby own_d_prog_39_m2_75) rfl k) ?_
  show own_G _ _ _ _ (T3.setTop (mkF m 77 #[.val (.int W), .val (.ref tp), .val (.ref te), .val (.int (Int32.ofNat i)), .val (.int (Int32.ofNat (d ^ (t + 1) * r))), .val (.int (Int32.ofNat d))] [(.int (Int32.ofNat (d ^ (t + 1) * r)))]))
  refine own_st (fun _ k => XS.iload X3.here hx rfl (hb hby own_d_prog_39_m2_77) rfl k) ?_
  show own_G _ _ _ _ (T3.setTop (mkF m 79 #[.val (.int W), .val (.ref tp), .val (.ref te), .val (.int (Int32.ofNat i)), .val (.int (Int32.ofNat (d ^ (t + 1) * r))), .val (.int (Int32.ofNat d))] [(.int (Int32.ofNat d)), (.int (Int32.ofNat (d ^ (t + 1) * r)))]))
  refine own_st (fun _ k => XS.idiv X3.here hx rfl (hb hby own_d_prog_39_m2_79) rfl (own_ne0 (by omega) (by omega)) k) ?_
  show own_G _ _ _ _ (T3.setTop (mkF m 80 #[.val (.int W), .val (.ref tp), .val (.ref te), .val (.int (Int32.ofNat i)), .val (.int (Int32.ofNat (d ^ (t + 1) * r))), .val (.int (Int32.ofNat d))] [(.int ((Int32.ofNat (d ^ (t + 1) * r)) / (Int32.ofNat d)))]))
  rw [own_div hW (by omega) (by omega)]
  show own_G _ _ _ _ (T3.setTop (mkF m 80 #[.val (.int W), .val (.ref tp), .val (.ref te), .val (.int (Int32.ofNat i)), .val (.int (Int32.ofNat (d ^ (t + 1) * r))), .val (.int (Int32.ofNat d))] [(.int (Int32.ofNat (d ^ (t + 1) * r / d)))]))
  rw [show d ^ (t + 1) * r / d = d ^ t * r by rw [hdv]; exact Nat.mul_div_cancel_left _ (by omega)]
  show own_G _ _ _ _ (T3.setTop (mkF m 80 #[.val (.int W), .val (.ref tp), .val (.ref te), .val (.int (Int32.ofNat i)), .val (.int (Int32.ofNat (d ^ (t + 1) * r))), .val (.int (Int32.ofNat d))] [(.int (Int32.ofNat (d ^ t * r)))]))
  refine own_st (fun _ k => XS.istore X3.here hx rfl (hb hby own_d_prog_39_m2_80) rfl (l' := #[.val (.int W), .val (.ref tp), .val (.ref te), .val (.int (Int32.ofNat i)), .val (.int (Int32.ofNat (d ^ t * r))), .val (.int (Int32.ofNat d))]) rfl k) ?_
  show own_G _ _ _ _ (T3.setTop (mkF m 82 #[.val (.int W), .val (.ref tp), .val (.ref te), .val (.int (Int32.ofNat i)), .val (.int (Int32.ofNat (d ^ t * r))), .val (.int (Int32.ofNat d))] []))
  refine own_st (fun _ k => XS.goto X3.here hx rfl (pc0 := 82) (pc' := 60) rfl (hb hby own_d_prog_39_m2_82) (by decide) (by decide) k) ?_
  show own_G _ _ _ _ (T3.setTop (mkF m 60 #[.val (.int W), .val (.ref tp), .val (.ref te), .val (.int (Int32.ofNat i)), .val (.int (Int32.ofNat (d ^ t * r))), .val (.int (Int32.ofNat d))] []))
  exact k _ _ _ X3 e3 N3 O5 K6 V3'
set_option maxRecDepth 65536 in
set_option maxHeartbeats 40000000 in
theorem own_in_exit {p : Program} {l : Launch} {e : Env} {s : State} {m : MethodId} {args : Array Value} {below : List Frame} {meth : Method} {c : Code} {Z : State} {a0 : Array Value} {locs : List Loc} {cells slots : Nat} {T0 : State} {h0 : Heap} {F : State → Prop} (W : Int32) (d r : Nat) (s1 s2 s3 : Slot) (hx : p.tables.exec = Jvm.exec) (hZ : Z.Warmed39 s.vm) (hw : ∀ d ∈ tables_1, d.before a0 Z = true) (hby : c.code = prog_39_method_2_code) (hml : c.maxLocals = 6) (hown : s.vm.findClass "com/example/libfacet/libfacet/exact/Factorization" = some m.cls) (X0 : Stand p l e ({ frames := 4, cells := 5, slots := 75, locals := 80 } : Room) s m args below meth c T0 locs cells slots) (e0 : T0.heap = h0) (N0 : Fr Z.heap.size locs) (O0 : Old Z Z.heap.size h0) (hd : 2 ≤ d) (hd2 : d < 2147483648) (hW : r < 2147483648) (hr : r % d ≠ 0)
    (k : own_G p.tables e below F (T0.setTop (mkF m 85 #[.val (.int W), s1, s2, s3, .val (.int (Int32.ofNat r)), .val (.int (Int32.ofNat d))] []))) :
    own_G p.tables e below F (T0.setTop (mkF m 60 #[.val (.int W), s1, s2, s3, .val (.int (Int32.ofNat r)), .val (.int (Int32.ofNat d))] [])) := by
  have z0 : Z.heap.size ≤ h0.size := O0.2.1
  have Kr := Keep.refl h0 []
  show own_G _ _ _ _ (T0.setTop (mkF m 60 #[.val (.int W), s1, s2, s3, .val (.int (Int32.ofNat r)), .val (.int (Int32.ofNat d))] []))
  refine own_st (fun _ k => XS.iload X0.here hx rfl (hb hby own_d_prog_39_m2_60) rfl k) ?_
  show own_G _ _ _ _ (T0.setTop (mkF m 62 #[.val (.int W), s1, s2, s3, .val (.int (Int32.ofNat r)), .val (.int (Int32.ofNat d))] [(.int (Int32.ofNat r))]))
  refine own_st (fun _ k => XS.iload X0.here hx rfl (hb hby own_d_prog_39_m2_62) rfl k) ?_
  show own_G _ _ _ _ (T0.setTop (mkF m 64 #[.val (.int W), s1, s2, s3, .val (.int (Int32.ofNat r)), .val (.int (Int32.ofNat d))] [(.int (Int32.ofNat d)), (.int (Int32.ofNat r))]))
  refine own_st (fun _ k => Jvm.RoadKit.iremM (g := (mkF m 64 #[.val (.int W), s1, s2, s3, .val (.int (Int32.ofNat r)), .val (.int (Int32.ofNat d))] [(.int (Int32.ofNat d)), (.int (Int32.ofNat r))])) X0 hx rfl (hb hby own_d_prog_39_m2_64) rfl (own_ne0 (by omega) (by omega)) k) ?_
  show own_G _ _ _ _ (T0.setTop (mkF m 65 #[.val (.int W), s1, s2, s3, .val (.int (Int32.ofNat r)), .val (.int (Int32.ofNat d))] [(.int ((Int32.ofNat r) % (Int32.ofNat d)))]))
  rw [own_mod hW (by omega) (by omega)]
  show own_G _ _ _ _ (T0.setTop (mkF m 65 #[.val (.int W), s1, s2, s3, .val (.int (Int32.ofNat r)), .val (.int (Int32.ofNat d))] [(.int (Int32.ofNat (r % d)))]))
  refine own_st (fun _ k => XS.ifYes X0.here hx rfl (pc0 := 65) (pc' := 85) rfl (hb hby own_d_prog_39_m2_65) rfl ((if0 _ _).trans (feq (own_ofne (b := 0) hr (Nat.lt_of_le_of_lt (Nat.mod_le _ _) hW) (by decide))).2) (by decide) (by decide) k) ?_
  show own_G _ _ _ _ (T0.setTop (mkF m 85 #[.val (.int W), s1, s2, s3, .val (.int (Int32.ofNat r)), .val (.int (Int32.ofNat d))] []))
  exact k
theorem own_in_loop {p : Program} {l : Launch} {e : Env} {s : State} {m : MethodId} {args : Array Value} {below : List Frame} {meth : Method} {c : Code} {Z : State} {a0 : Array Value} {F : State → Prop} {h0 : Heap} (tp te : Addr) (ke : ClassId) (L : List (Nat × Nat)) (W : Int32) (i d r : Nat) (hx : p.tables.exec = Jvm.exec) (hZ : Z.Warmed39 s.vm) (hw : ∀ d ∈ tables_1, d.before a0 Z = true) (hby : c.code = prog_39_method_2_code) (hml : c.maxLocals = 6) (hown : s.vm.findClass "com/example/libfacet/libfacet/exact/Factorization" = some m.cls) (hi4 : i < 32) (hd : 2 ≤ d) (hd2 : d < 2147483648) (ge : Z.heap.size ≤ te) (hr : r % d ≠ 0) (E : Nat)
    (k : ∀ (T' : State) (h' : Heap) (locs' : List Loc), Stand p l e ({ frames := 4, cells := 5, slots := 75, locals := 80 } : Room) s m args below meth c T' locs' (0 + 1 + 1) (0 + 32 + 32) → T'.heap = h' → Fr Z.heap.size locs' → Old Z Z.heap.size h' → Keep h0 h' [te] → Arv Z h' te ke .long (Int32.ofNat 32) (own_valsL (own_ge L) i ++ [.long (Int64.ofNat (E))]) (.long (0 : Int64)) → own_G p.tables e below F (T'.setTop (mkF m 85 #[.val (.int W), .val (.ref tp), .val (.ref te), .val (.int (Int32.ofNat i)), .val (.int (Int32.ofNat (r))), .val (.int (Int32.ofNat d))] []))) :
    ∀ (t j : Nat) (T' : State) (h' : Heap) (locs' : List Loc), j + t = E → d ^ t * r < 2147483648 → Stand p l e ({ frames := 4, cells := 5, slots := 75, locals := 80 } : Room) s m args below meth c T' locs' (0 + 1 + 1) (0 + 32 + 32) → T'.heap = h' → Fr Z.heap.size locs' → Old Z Z.heap.size h' → Keep h0 h' [te] → Arv Z h' te ke .long (Int32.ofNat 32) (own_valsL (own_ge L) i ++ [.long (Int64.ofNat (j))]) (.long (0 : Int64)) → own_G p.tables e below F (T'.setTop (mkF m 60 #[.val (.int W), .val (.ref tp), .val (.ref te), .val (.int (Int32.ofNat i)), .val (.int (Int32.ofNat (d ^ t * r))), .val (.int (Int32.ofNat d))] [])) := by
  intro t
  induction t with
  | zero =>
    intro j T' h' locs' hj hW X e1 N O K Ve
    rw [Nat.pow_zero, Nat.one_mul] at hW ⊢
    have hj' : j = E := by omega
    subst hj'
    exact own_in_exit W d r _ _ _ hx hZ hw hby hml hown X e1 N O hd hd2 hW hr (k T' h' locs' X e1 N O K Ve)
  | succ t ih =>
    intro j T' h' locs' hj hW X e1 N O K Ve
    exact own_in_turn tp te ke L W i d r j t hx hZ hw hby hml hown X e1 N O hi4 hd hd2 ge hW Ve fun T2 h2 L2 X2 e2 N2 O2 K2 V2 => ih (j + 1) T2 h2 L2 (by omega) (Nat.lt_of_le_of_lt (Nat.mul_le_mul_right r (Nat.pow_le_pow_right (by omega) (by omega))) hW) X2 e2 N2 O2 (K.trans K2 (allS (Or.inl (by simp)) all0)) V2
theorem own_nd_step {d r : Nat} (h : own_nd d r) (hd : ¬ d ∣ r) : own_nd (d + 1) r := fun x h2 hx => by
  rcases Nat.lt_or_ge x d with q | q
  · exact h x h2 q
  · rw [show x = d by omega]; exact hd
theorem own_nd_dvd {d r r2 : Nat} (h : own_nd d r) (hr : r2 ∣ r) : own_nd d r2 := fun x h2 hx q => h x h2 hx (Nat.dvd_trans q hr)
theorem own_d_prog_39_m2_37 : decode prog_39_method_2_code 37 = .ok (.iload 5, 2) := by decide +kernel
theorem own_d_prog_39_m2_39 : decode prog_39_method_2_code 39 = .ok (.iload 4, 2) := by decide +kernel
theorem own_d_prog_39_m2_41 : decode prog_39_method_2_code 41 = .ok (.iload 5, 2) := by decide +kernel
theorem own_d_prog_39_m2_43 : decode prog_39_method_2_code 43 = .ok (.idiv, 1) := by decide +kernel
theorem own_d_prog_39_m2_44 : decode prog_39_method_2_code 44 = .ok (.if_icmp .gt 50, 3) := by decide +kernel
theorem own_d_prog_39_m2_47 : decode prog_39_method_2_code 47 = .ok (.iload 4, 2) := by decide +kernel
theorem own_d_prog_39_m2_49 : decode prog_39_method_2_code 49 = .ok (.iload 5, 2) := by decide +kernel
theorem own_d_prog_39_m2_51 : decode prog_39_method_2_code 51 = .ok (.irem, 1) := by decide +kernel
theorem own_d_prog_39_m2_52 : decode prog_39_method_2_code 52 = .ok (.ifCond .ne 36, 3) := by decide +kernel
theorem own_d_prog_39_m2_55 : decode prog_39_method_2_code 55 = .ok (.aload_n 1, 1) := by decide +kernel
theorem own_d_prog_39_m2_56 : decode prog_39_method_2_code 56 = .ok (.iload_n 3, 1) := by decide +kernel
theorem own_d_prog_39_m2_57 : decode prog_39_method_2_code 57 = .ok (.iload 5, 2) := by decide +kernel
theorem own_d_prog_39_m2_59 : decode prog_39_method_2_code 59 = .ok (.iastore, 1) := by decide +kernel
theorem own_d_prog_39_m2_85 : decode prog_39_method_2_code 85 = .ok (.iinc 3 1, 3) := by decide +kernel
theorem own_d_prog_39_m2_88 : decode prog_39_method_2_code 88 = .ok (.iinc 5 1, 3) := by decide +kernel
theorem own_d_prog_39_m2_91 : decode prog_39_method_2_code 91 = .ok (.goto (-54), 3) := by decide +kernel
set_option maxRecDepth 65536 in
set_option maxHeartbeats 40000000 in
theorem own_of_turn {p : Program} {l : Launch} {e : Env} {s : State} {m : MethodId} {args : Array Value} {below : List Frame} {meth : Method} {c : Code} {Z : State} {a0 : Array Value} {locs : List Loc} {T0 : State} {h0 : Heap}  {hs : Heap} (tp te : Addr) (kp ke : ClassId) (L : List (Nat × Nat)) (W : Int32) (i d b : Nat) (hx : p.tables.exec = Jvm.exec) (hZ : Z.Warmed39 s.vm) (hw : ∀ d ∈ tables_1, d.before a0 Z = true) (hby : c.code = prog_39_method_2_code) (hml : c.maxLocals = 6) (hown : s.vm.findClass "com/example/libfacet/libfacet/exact/Factorization" = some m.cls) (X0 : Stand p l e ({ frames := 4, cells := 5, slots := 75, locals := 80 } : Room) s m args below meth c T0 locs (0 + 1 + 1) (0 + 32 + 32)) (e0 : T0.heap = h0) (N0 : Fr Z.heap.size locs) (O0 : Old Z Z.heap.size h0) (hret : meth.sig.returnType = some (.object "com/example/libfacet/libfacet/exact/Factorization")) (hlk : meth.locks = false) (hlen : L.length ≤ 4) (gp : Z.heap.size ≤ tp) (ge : Z.heap.size ≤ te) (gph : hs.size ≤ tp) (geh : hs.size ≤ te) (net : @Ne Nat tp te) (Ks : Keep hs h0 []) (hi : i ≤ L.length) (hd : 2 ≤ d) (hd2 : d < 1000000) (ha : own_asc b (L.drop i)) (hn : own_nd d (own_prod (L.drop i))) (hW : own_prod (L.drop i) < 2147483648) (Vp : Arv Z h0 tp kp .int (Int32.ofNat 32) (own_vals (own_fp L) (i)) (.int (0 : Int32))) (Ve : Arv Z h0 te ke .long (Int32.ofNat 32) (own_valsL (own_ge L) (i)) (.long (0 : Int64)))
    (k : ∀ (i2 b2 : Nat) (T' : State) (h' : Heap) (locs' : List Loc), i2 ≤ L.length → own_asc b2 (L.drop i2) → own_nd (d + 1) (own_prod (L.drop i2)) → own_prod (L.drop i2) < 2147483648 → Stand p l e ({ frames := 4, cells := 5, slots := 75, locals := 80 } : Room) s m args below meth c T' locs' (0 + 1 + 1) (0 + 32 + 32) → T'.heap = h' → Fr Z.heap.size locs' → Old Z Z.heap.size h' → Keep hs h' [] → Arv Z h' tp kp .int (Int32.ofNat 32) (own_vals (own_fp L) (i2)) (.int (0 : Int32)) → Arv Z h' te ke .long (Int32.ofNat 32) (own_valsL (own_ge L) (i2)) (.long (0 : Int64)) → own_G p.tables e below (own_F s below (own_QO Z hs L) 5 75) (T'.setTop (mkF m 37 #[.val (.int W), .val (.ref tp), .val (.ref te), .val (.int (Int32.ofNat (i2))), .val (.int (Int32.ofNat (own_prod (L.drop (i2))))), .val (.int (Int32.ofNat (d + 1)))] []))) :
    own_G p.tables e below (own_F s below (own_QO Z hs L) 5 75) (T0.setTop (mkF m 37 #[.val (.int W), .val (.ref tp), .val (.ref te), .val (.int (Int32.ofNat (i))), .val (.int (Int32.ofNat (own_prod (L.drop (i))))), .val (.int (Int32.ofNat (d)))] [])) := by
  have z0 : Z.heap.size ≤ h0.size := O0.2.1
  have Kr := Keep.refl h0 [tp, te]
  show own_G _ _ _ _ (T0.setTop (mkF m 37 #[.val (.int W), .val (.ref tp), .val (.ref te), .val (.int (Int32.ofNat (i))), .val (.int (Int32.ofNat (own_prod (L.drop (i))))), .val (.int (Int32.ofNat (d)))] []))
  have ltp := own_ltN Vp.lt
  have lte := own_ltN Ve.lt
  refine own_st (fun _ k => XS.iload X0.here hx rfl (hb hby own_d_prog_39_m2_37) rfl k) ?_
  show own_G _ _ _ _ (T0.setTop (mkF m 39 #[.val (.int W), .val (.ref tp), .val (.ref te), .val (.int (Int32.ofNat (i))), .val (.int (Int32.ofNat (own_prod (L.drop (i))))), .val (.int (Int32.ofNat (d)))] [(.int (Int32.ofNat (d)))]))
  refine own_st (fun _ k => XS.iload X0.here hx rfl (hb hby own_d_prog_39_m2_39) rfl k) ?_
  show own_G _ _ _ _ (T0.setTop (mkF m 41 #[.val (.int W), .val (.ref tp), .val (.ref te), .val (.int (Int32.ofNat (i))), .val (.int (Int32.ofNat (own_prod (L.drop (i))))), .val (.int (Int32.ofNat (d)))] [(.int (Int32.ofNat (own_prod (L.drop (i))))), (.int (Int32.ofNat (d)))]))
  refine own_st (fun _ k => XS.iload X0.here hx rfl (hb hby own_d_prog_39_m2_41) rfl k) ?_
  show own_G _ _ _ _ (T0.setTop (mkF m 43 #[.val (.int W), .val (.ref tp), .val (.ref te), .val (.int (Int32.ofNat (i))), .val (.int (Int32.ofNat (own_prod (L.drop (i))))), .val (.int (Int32.ofNat (d)))] [(.int (Int32.ofNat (d))), (.int (Int32.ofNat (own_prod (L.drop (i))))), (.int (Int32.ofNat (d)))]))
  refine own_st (fun _ k => XS.idiv X0.here hx rfl (hb hby own_d_prog_39_m2_43) rfl (own_ne0 (by omega) (by omega)) k) ?_
  show own_G _ _ _ _ (T0.setTop (mkF m 44 #[.val (.int W), .val (.ref tp), .val (.ref te), .val (.int (Int32.ofNat (i))), .val (.int (Int32.ofNat (own_prod (L.drop (i))))), .val (.int (Int32.ofNat (d)))] [(.int ((Int32.ofNat (own_prod (L.drop (i)))) / (Int32.ofNat (d)))), (.int (Int32.ofNat (d)))]))
  rw [own_div hW (by omega) (by omega)]
  show own_G _ _ _ _ (T0.setTop (mkF m 44 #[.val (.int W), .val (.ref tp), .val (.ref te), .val (.int (Int32.ofNat (i))), .val (.int (Int32.ofNat (own_prod (L.drop (i))))), .val (.int (Int32.ofNat (d)))] [(.int (Int32.ofNat (own_prod (L.drop i) / d))), (.int (Int32.ofNat (d)))]))
  by_cases hlt : own_prod (L.drop i) / d < d
  · skip
    refine own_st (fun _ k => XS.icmpYes X0.here hx rfl (pc0 := 44) (pc' := 94) rfl (hb hby own_d_prog_39_m2_44) rfl (tlt (own_lt hlt (by omega))).2.2.1 (by decide) (by decide) k) ?_
    show own_G _ _ _ _ (T0.setTop (mkF m 94 #[.val (.int W), .val (.ref tp), .val (.ref te), .val (.int (Int32.ofNat (i))), .val (.int (Int32.ofNat (own_prod (L.drop (i))))), .val (.int (Int32.ofNat (d)))] []))
    exact own_of_end tp te kp ke L W i d b hx hZ hw hby hml hown X0 e0 N0 O0 hret hlk hlen gp ge gph geh net Ks hi ha hn ((Nat.div_lt_iff_lt_mul (by omega)).mp hlt) hW Vp Ve
  · skip
    refine own_st (fun _ k => XS.icmpNo X0.here hx rfl (hb hby own_d_prog_39_m2_44) rfl (flt (own_nlt hlt (Nat.lt_of_le_of_lt (Nat.div_le_self _ _) hW) (by omega))).2.2.1 k) ?_
    show own_G _ _ _ _ (T0.setTop (mkF m 47 #[.val (.int W), .val (.ref tp), .val (.ref te), .val (.int (Int32.ofNat (i))), .val (.int (Int32.ofNat (own_prod (L.drop (i))))), .val (.int (Int32.ofNat (d)))] []))
    refine own_st (fun _ k => XS.iload X0.here hx rfl (hb hby own_d_prog_39_m2_47) rfl k) ?_
    show own_G _ _ _ _ (T0.setTop (mkF m 49 #[.val (.int W), .val (.ref tp), .val (.ref te), .val (.int (Int32.ofNat (i))), .val (.int (Int32.ofNat (own_prod (L.drop (i))))), .val (.int (Int32.ofNat (d)))] [(.int (Int32.ofNat (own_prod (L.drop (i)))))]))
    refine own_st (fun _ k => XS.iload X0.here hx rfl (hb hby own_d_prog_39_m2_49) rfl k) ?_
    show own_G _ _ _ _ (T0.setTop (mkF m 51 #[.val (.int W), .val (.ref tp), .val (.ref te), .val (.int (Int32.ofNat (i))), .val (.int (Int32.ofNat (own_prod (L.drop (i))))), .val (.int (Int32.ofNat (d)))] [(.int (Int32.ofNat (d))), (.int (Int32.ofNat (own_prod (L.drop (i)))))]))
    refine own_st (fun _ k => Jvm.RoadKit.iremM (g := (mkF m 51 #[.val (.int W), .val (.ref tp), .val (.ref te), .val (.int (Int32.ofNat (i))), .val (.int (Int32.ofNat (own_prod (L.drop (i))))), .val (.int (Int32.ofNat (d)))] [(.int (Int32.ofNat (d))), (.int (Int32.ofNat (own_prod (L.drop (i)))))])) X0 hx rfl (hb hby own_d_prog_39_m2_51) rfl (own_ne0 (by omega) (by omega)) k) ?_
    show own_G _ _ _ _ (T0.setTop (mkF m 52 #[.val (.int W), .val (.ref tp), .val (.ref te), .val (.int (Int32.ofNat (i))), .val (.int (Int32.ofNat (own_prod (L.drop (i))))), .val (.int (Int32.ofNat (d)))] [(.int ((Int32.ofNat (own_prod (L.drop (i)))) % (Int32.ofNat (d))))]))
    rw [own_mod hW (by omega) (by omega)]
    show own_G _ _ _ _ (T0.setTop (mkF m 52 #[.val (.int W), .val (.ref tp), .val (.ref te), .val (.int (Int32.ofNat (i))), .val (.int (Int32.ofNat (own_prod (L.drop (i))))), .val (.int (Int32.ofNat (d)))] [(.int (Int32.ofNat (own_prod (L.drop i) % d)))]))
    by_cases hm : own_prod (L.drop i) % d = 0
    · skip
      refine own_st (fun _ k => XS.ifNo X0.here hx rfl (hb hby own_d_prog_39_m2_52) rfl ((if0 _ _).trans (teq (by rw [hm]; rfl)).2) k) ?_
      show own_G _ _ _ _ (T0.setTop (mkF m 55 #[.val (.int W), .val (.ref tp), .val (.ref te), .val (.int (Int32.ofNat (i))), .val (.int (Int32.ofNat (own_prod (L.drop (i))))), .val (.int (Int32.ofNat (d)))] []))
      have hil : i < L.length := by
        rcases Nat.lt_or_ge i L.length with q | q
        · exact q
        · exfalso
          apply hlt
          rw [List.drop_eq_nil_of_le q]
          show 1 / d < d
          have := Nat.div_le_self 1 d
          omega
      have hdr := own_drop hil
      obtain ⟨q0, hq0⟩ : ∃ q, L.getD i (0, 0) = q := ⟨_, rfl⟩
      rw [hq0] at hdr
      have ha2 := ha
      rw [hdr] at ha2
      have hdd : d = q0.1 := own_hit hd ha2 (by rw [← hdr]; exact hn) (by rw [← hdr]; exact Nat.dvd_of_mod_eq_zero hm)
      have hprod : own_prod (L.drop i) = d ^ q0.2 * own_prod (L.drop (i + 1)) := by rw [hdr, hdd]; rfl
      have hmiss : own_prod (L.drop (i + 1)) % d ≠ 0 := fun q => own_miss ha2 (by rw [← hdd]; exact Nat.dvd_of_mod_eq_zero q)
      refine own_st (fun _ k => XS.aloadN X0.here hx rfl (hb hby own_d_prog_39_m2_55) rfl rfl k) ?_
      show own_G _ _ _ _ (T0.setTop (mkF m 56 #[.val (.int W), .val (.ref tp), .val (.ref te), .val (.int (Int32.ofNat (i))), .val (.int (Int32.ofNat (own_prod (L.drop (i))))), .val (.int (Int32.ofNat (d)))] [(.ref tp)]))
      refine own_st (fun _ k => XS.iloadN X0.here hx rfl (hb hby own_d_prog_39_m2_56) rfl k) ?_
      show own_G _ _ _ _ (T0.setTop (mkF m 57 #[.val (.int W), .val (.ref tp), .val (.ref te), .val (.int (Int32.ofNat (i))), .val (.int (Int32.ofNat (own_prod (L.drop (i))))), .val (.int (Int32.ofNat (d)))] [(.int (Int32.ofNat (i))), (.ref tp)]))
      refine own_st (fun _ k => XS.iload X0.here hx rfl (hb hby own_d_prog_39_m2_57) rfl k) ?_
      show own_G _ _ _ _ (T0.setTop (mkF m 59 #[.val (.int W), .val (.ref tp), .val (.ref te), .val (.int (Int32.ofNat (i))), .val (.int (Int32.ofNat (own_prod (L.drop (i))))), .val (.int (Int32.ofNat (d)))] [(.int (Int32.ofNat (d))), (.int (Int32.ofNat (i))), (.ref tp)]))
      have V1p : Arv Z h0 tp kp .int (Int32.ofNat 32) ((own_vals (own_fp L) (i)) ++ [(.int (0 : Int32))]) (.int (0 : Int32)) := Vp.pad (pad_rep (own_vals (own_fp L) (i)) (.int (0 : Int32)) 1)
      obtain ⟨cl2, Ar2, qk2, Sz2, Mz2, Hz2, Uz2⟩ := id V1p
      obtain ⟨T3, h3, X3, e3, W3, st3⟩ := stI X0 hx hZ e0 Ar2 (j := (Int32.ofNat (i))) (own_in (n := 32) Sz2 (by omega) (by omega)) (g := (mkF m 59 #[.val (.int W), .val (.ref tp), .val (.ref te), .val (.int (Int32.ofNat (i))), .val (.int (Int32.ofNat (own_prod (L.drop (i))))), .val (.int (Int32.ofNat (d)))] [(.int (Int32.ofNat (d))), (.int (Int32.ofNat (i))), (.ref tp)])) rfl rfl (hb hby own_d_prog_39_m2_59)
      refine own_st st3 ?_
      have V3 := Arv.set Ar2 qk2 Sz2 Mz2 Hz2 Uz2 rfl W3 (own_vals (own_fp L) (i)).length (by rw [own_clamp (by omega), own_len]) (by simp)
      have z4 : h3.size = h0.size := W3.size
      have O5 := Old.wr O0 W3 (by omega)
      have K6 : Keep h0 h3 [tp, te] := Kr.wr W3 (Or.inl (by simp))
      have N3 := Fr.snoc X3 N0 (by omega : Z.heap.size ≤ tp)
      have V3' : Arv Z h3 tp kp .int (Int32.ofNat 32) (own_vals (own_fp L) (i + 1)) (.int (0 : Int32)) := by have q := V3; rw [own_set] at q; rw [← own_next, show own_fp L i = Int32.ofNat d by rw [own_fp, hq0, hdd]]; exact q
      show own_G _ _ _ _ (T3.setTop (mkF m 60 #[.val (.int W), .val (.ref tp), .val (.ref te), .val (.int (Int32.ofNat (i))), .val (.int (Int32.ofNat (own_prod (L.drop (i))))), .val (.int (Int32.ofNat (d)))] []))
      have q7 : Arv Z h3 te ke .long (Int32.ofNat 32) (own_valsL (own_ge L) (i)) (.long (0 : Int64)) := (Ve.other W3 (show @Ne Nat te tp by omega))
      have V8p : Arv Z h3 te ke .long (Int32.ofNat 32) ((own_valsL (own_ge L) (i)) ++ [(.long (0 : Int64))]) (.long (0 : Int64)) := q7.pad (pad_rep (own_valsL (own_ge L) (i)) (.long (0 : Int64)) 1)
      rw [hprod] at hW
      rw [hprod]
      show own_G _ _ _ _ (T3.setTop (mkF m 60 #[.val (.int W), .val (.ref tp), .val (.ref te), .val (.int (Int32.ofNat (i))), .val (.int (Int32.ofNat (d ^ q0.2 * own_prod (L.drop (i + 1))))), .val (.int (Int32.ofNat (d)))] []))
      refine own_in_loop tp te ke L W i d (own_prod (L.drop (i + 1))) hx hZ hw hby hml hown (by omega) hd (by omega) ge hmiss q0.2 ?_ q0.2 0 _ _ _ (by omega) hW X3 e3 N3 O5 (Keep.refl _ _) V8p
      intro T' h' locs' X' e' N' O' K' Ve'
      have z9 : h3.size ≤ h'.size := K'.1
      have O10 := Old.keep O5 K' (allS (by omega) all0)
      have K11 : Keep h0 h' [tp, te] := K6.trans K' (allS (Or.inl (by simp)) all0)
      have Ve2 : Arv Z h' te ke .long (Int32.ofNat 32) (own_valsL (own_ge L) (i + 1)) (.long (0 : Int64)) := by have q := Ve'; rw [← own_nextL, show own_ge L i = Int64.ofNat q0.2 by rw [own_ge, hq0]]; exact q
      show own_G _ _ _ _ (T'.setTop (mkF m 85 #[.val (.int W), .val (.ref tp), .val (.ref te), .val (.int (Int32.ofNat i)), .val (.int (Int32.ofNat (own_prod (L.drop (i + 1))))), .val (.int (Int32.ofNat d))] []))
      refine own_st (fun _ k => XS.iinc X'.here hx rfl (hb hby own_d_prog_39_m2_85) rfl (l' := #[.val (.int W), .val (.ref tp), .val (.ref te), .val (.int ((Int32.ofNat i) + (1 : Int32))), .val (.int (Int32.ofNat (own_prod (L.drop (i + 1))))), .val (.int (Int32.ofNat d))]) rfl k) ?_
      show own_G _ _ _ _ (T'.setTop (mkF m 88 #[.val (.int W), .val (.ref tp), .val (.ref te), .val (.int ((Int32.ofNat i) + (1 : Int32))), .val (.int (Int32.ofNat (own_prod (L.drop (i + 1))))), .val (.int (Int32.ofNat d))] []))
      refine own_st (fun _ k => XS.iinc X'.here hx rfl (hb hby own_d_prog_39_m2_88) rfl (l' := #[.val (.int W), .val (.ref tp), .val (.ref te), .val (.int ((Int32.ofNat i) + (1 : Int32))), .val (.int (Int32.ofNat (own_prod (L.drop (i + 1))))), .val (.int ((Int32.ofNat d) + (1 : Int32)))]) rfl k) ?_
      show own_G _ _ _ _ (T'.setTop (mkF m 91 #[.val (.int W), .val (.ref tp), .val (.ref te), .val (.int ((Int32.ofNat i) + (1 : Int32))), .val (.int (Int32.ofNat (own_prod (L.drop (i + 1))))), .val (.int ((Int32.ofNat d) + (1 : Int32)))] []))
      refine own_st (fun _ k => XS.goto X'.here hx rfl (pc0 := 91) (pc' := 37) rfl (hb hby own_d_prog_39_m2_91) (by decide) (by decide) k) ?_
      show own_G _ _ _ _ (T'.setTop (mkF m 37 #[.val (.int W), .val (.ref tp), .val (.ref te), .val (.int ((Int32.ofNat i) + (1 : Int32))), .val (.int (Int32.ofNat (own_prod (L.drop (i + 1))))), .val (.int ((Int32.ofNat d) + (1 : Int32)))] []))
      rw [own_one, own_one]
      show own_G _ _ _ _ (T'.setTop (mkF m 37 #[.val (.int W), .val (.ref tp), .val (.ref te), .val (.int (Int32.ofNat (i + 1))), .val (.int (Int32.ofNat (own_prod (L.drop (i + 1))))), .val (.int (Int32.ofNat (d + 1)))] []))
      have q12 : Arv Z h' tp kp .int (Int32.ofNat 32) (own_vals (own_fp L) (i + 1)) (.int (0 : Int32)) := (V3'.keep K' (ninS (show @Ne Nat tp te by omega) nin0))
      exact k (i + 1) q0.1 _ _ _ (by omega) ha2.2.2.2 (own_nd_step (own_nd_dvd hn (by rw [hprod]; exact Nat.dvd_mul_left _ _)) (fun q => hmiss (Nat.mod_eq_zero_of_dvd q))) (Nat.lt_of_le_of_lt (Nat.le_mul_of_pos_left _ (Nat.pow_pos (by omega))) hW) X' e' N' O10 (Ks.trans K11 (allS (Or.inr gph) (allS (Or.inr geh) all0))) q12 Ve2
    · skip
      refine own_st (fun _ k => XS.ifYes X0.here hx rfl (pc0 := 52) (pc' := 88) rfl (hb hby own_d_prog_39_m2_52) rfl ((if0 _ _).trans (feq (own_ofne (b := 0) hm (Nat.lt_of_le_of_lt (Nat.mod_le _ _) hW) (by decide))).2) (by decide) (by decide) k) ?_
      show own_G _ _ _ _ (T0.setTop (mkF m 88 #[.val (.int W), .val (.ref tp), .val (.ref te), .val (.int (Int32.ofNat (i))), .val (.int (Int32.ofNat (own_prod (L.drop (i))))), .val (.int (Int32.ofNat (d)))] []))
      refine own_st (fun _ k => XS.iinc X0.here hx rfl (hb hby own_d_prog_39_m2_88) rfl (l' := #[.val (.int W), .val (.ref tp), .val (.ref te), .val (.int (Int32.ofNat (i))), .val (.int (Int32.ofNat (own_prod (L.drop (i))))), .val (.int ((Int32.ofNat (d)) + (1 : Int32)))]) rfl k) ?_
      show own_G _ _ _ _ (T0.setTop (mkF m 91 #[.val (.int W), .val (.ref tp), .val (.ref te), .val (.int (Int32.ofNat (i))), .val (.int (Int32.ofNat (own_prod (L.drop (i))))), .val (.int ((Int32.ofNat (d)) + (1 : Int32)))] []))
      refine own_st (fun _ k => XS.goto X0.here hx rfl (pc0 := 91) (pc' := 37) rfl (hb hby own_d_prog_39_m2_91) (by decide) (by decide) k) ?_
      show own_G _ _ _ _ (T0.setTop (mkF m 37 #[.val (.int W), .val (.ref tp), .val (.ref te), .val (.int (Int32.ofNat (i))), .val (.int (Int32.ofNat (own_prod (L.drop (i))))), .val (.int ((Int32.ofNat (d)) + (1 : Int32)))] []))
      rw [own_one]
      show own_G _ _ _ _ (T0.setTop (mkF m 37 #[.val (.int W), .val (.ref tp), .val (.ref te), .val (.int (Int32.ofNat (i))), .val (.int (Int32.ofNat (own_prod (L.drop (i))))), .val (.int (Int32.ofNat (d + 1)))] []))
      exact k i b _ _ _ hi ha (own_nd_step hn (fun q => hm (Nat.mod_eq_zero_of_dvd q))) hW X0 e0 N0 O0 Ks Vp Ve
set_option maxRecDepth 65536 in
set_option maxHeartbeats 40000000 in
theorem own_of_last {p : Program} {l : Launch} {e : Env} {s : State} {m : MethodId} {args : Array Value} {below : List Frame} {meth : Method} {c : Code} {Z : State} {a0 : Array Value} {locs : List Loc} {T0 : State} {h0 : Heap}  {hs : Heap} (tp te : Addr) (kp ke : ClassId) (L : List (Nat × Nat)) (W : Int32) (i d b : Nat) (hx : p.tables.exec = Jvm.exec) (hZ : Z.Warmed39 s.vm) (hw : ∀ d ∈ tables_1, d.before a0 Z = true) (hby : c.code = prog_39_method_2_code) (hml : c.maxLocals = 6) (hown : s.vm.findClass "com/example/libfacet/libfacet/exact/Factorization" = some m.cls) (X0 : Stand p l e ({ frames := 4, cells := 5, slots := 75, locals := 80 } : Room) s m args below meth c T0 locs (0 + 1 + 1) (0 + 32 + 32)) (e0 : T0.heap = h0) (N0 : Fr Z.heap.size locs) (O0 : Old Z Z.heap.size h0) (hret : meth.sig.returnType = some (.object "com/example/libfacet/libfacet/exact/Factorization")) (hlk : meth.locks = false) (hlen : L.length ≤ 4) (gp : Z.heap.size ≤ tp) (ge : Z.heap.size ≤ te) (gph : hs.size ≤ tp) (geh : hs.size ≤ te) (net : @Ne Nat tp te) (Ks : Keep hs h0 []) (hi : i ≤ L.length) (hd : 2 ≤ d) (hd2 : d < 1000000) (ha : own_asc b (L.drop i)) (hn : own_nd d (own_prod (L.drop i))) (hW : own_prod (L.drop i) < 2147483648) (Vp : Arv Z h0 tp kp .int (Int32.ofNat 32) (own_vals (own_fp L) (i)) (.int (0 : Int32))) (Ve : Arv Z h0 te ke .long (Int32.ofNat 32) (own_valsL (own_ge L) (i)) (.long (0 : Int64))) (hsq : own_prod (L.drop i) < d * d)
     :
    own_G p.tables e below (own_F s below (own_QO Z hs L) 5 75) (T0.setTop (mkF m 37 #[.val (.int W), .val (.ref tp), .val (.ref te), .val (.int (Int32.ofNat (i))), .val (.int (Int32.ofNat (own_prod (L.drop (i))))), .val (.int (Int32.ofNat (d)))] [])) := by
  have z0 : Z.heap.size ≤ h0.size := O0.2.1
  have Kr := Keep.refl h0 [tp, te]
  show own_G _ _ _ _ (T0.setTop (mkF m 37 #[.val (.int W), .val (.ref tp), .val (.ref te), .val (.int (Int32.ofNat (i))), .val (.int (Int32.ofNat (own_prod (L.drop (i))))), .val (.int (Int32.ofNat (d)))] []))
  have hlt : own_prod (L.drop i) / d < d := (Nat.div_lt_iff_lt_mul (by omega)).mpr hsq
  refine own_st (fun _ k => XS.iload X0.here hx rfl (hb hby own_d_prog_39_m2_37) rfl k) ?_
  show own_G _ _ _ _ (T0.setTop (mkF m 39 #[.val (.int W), .val (.ref tp), .val (.ref te), .val (.int (Int32.ofNat (i))), .val (.int (Int32.ofNat (own_prod (L.drop (i))))), .val (.int (Int32.ofNat (d)))] [(.int (Int32.ofNat (d)))]))
  refine own_st (fun _ k => XS.iload X0.here hx rfl (hb hby own_d_prog_39_m2_39) rfl k) ?_
  show own_G _ _ _ _ (T0.setTop (mkF m 41 #[.val (.int W), .val (.ref tp), .val (.ref te), .val (.int (Int32.ofNat (i))), .val (.int (Int32.ofNat (own_prod (L.drop (i))))), .val (.int (Int32.ofNat (d)))] [(.int (Int32.ofNat (own_prod (L.drop (i))))), (.int (Int32.ofNat (d)))]))
  refine own_st (fun _ k => XS.iload X0.here hx rfl (hb hby own_d_prog_39_m2_41) rfl k) ?_
  show own_G _ _ _ _ (T0.setTop (mkF m 43 #[.val (.int W), .val (.ref tp), .val (.ref te), .val (.int (Int32.ofNat (i))), .val (.int (Int32.ofNat (own_prod (L.drop (i))))), .val (.int (Int32.ofNat (d)))] [(.int (Int32.ofNat (d))), (.int (Int32.ofNat (own_prod (L.drop (i))))), (.int (Int32.ofNat (d)))]))
  refine own_st (fun _ k => XS.idiv X0.here hx rfl (hb hby own_d_prog_39_m2_43) rfl (own_ne0 (by omega) (by omega)) k) ?_
  show own_G _ _ _ _ (T0.setTop (mkF m 44 #[.val (.int W), .val (.ref tp), .val (.ref te), .val (.int (Int32.ofNat (i))), .val (.int (Int32.ofNat (own_prod (L.drop (i))))), .val (.int (Int32.ofNat (d)))] [(.int ((Int32.ofNat (own_prod (L.drop (i)))) / (Int32.ofNat (d)))), (.int (Int32.ofNat (d)))]))
  rw [own_div hW (by omega) (by omega)]
  show own_G _ _ _ _ (T0.setTop (mkF m 44 #[.val (.int W), .val (.ref tp), .val (.ref te), .val (.int (Int32.ofNat (i))), .val (.int (Int32.ofNat (own_prod (L.drop (i))))), .val (.int (Int32.ofNat (d)))] [(.int (Int32.ofNat (own_prod (L.drop i) / d))), (.int (Int32.ofNat (d)))]))
  refine own_st (fun _ k => XS.icmpYes X0.here hx rfl (pc0 := 44) (pc' := 94) rfl (hb hby own_d_prog_39_m2_44) rfl (tlt (own_lt hlt (by omega))).2.2.1 (by decide) (by decide) k) ?_
  show own_G _ _ _ _ (T0.setTop (mkF m 94 #[.val (.int W), .val (.ref tp), .val (.ref te), .val (.int (Int32.ofNat (i))), .val (.int (Int32.ofNat (own_prod (L.drop (i))))), .val (.int (Int32.ofNat (d)))] []))
  exact own_of_end tp te kp ke L W i d b hx hZ hw hby hml hown X0 e0 N0 O0 hret hlk hlen gp ge gph geh net Ks hi ha hn hsq hW Vp Ve
theorem own_of_loop {p : Program} {l : Launch} {e : Env} {s : State} {m : MethodId} {args : Array Value} {below : List Frame} {meth : Method} {c : Code} {Z : State} {a0 : Array Value} {hs : Heap} (tp te : Addr) (kp ke : ClassId) (L : List (Nat × Nat)) (W : Int32) (hx : p.tables.exec = Jvm.exec) (hZ : Z.Warmed39 s.vm) (hw : ∀ d ∈ tables_1, d.before a0 Z = true) (hby : c.code = prog_39_method_2_code) (hml : c.maxLocals = 6) (hown : s.vm.findClass "com/example/libfacet/libfacet/exact/Factorization" = some m.cls) (hret : meth.sig.returnType = some (.object "com/example/libfacet/libfacet/exact/Factorization")) (hlk : meth.locks = false) (hlen : L.length ≤ 4) (gp : Z.heap.size ≤ tp) (ge : Z.heap.size ≤ te) (gph : hs.size ≤ tp) (geh : hs.size ≤ te) (net : @Ne Nat tp te) :
    ∀ (t d i b : Nat) (T' : State) (h' : Heap) (locs' : List Loc), d + t = 46342 → 2 ≤ d → i ≤ L.length → own_asc b (L.drop i) → own_nd d (own_prod (L.drop i)) → own_prod (L.drop i) < 2147483648 → Stand p l e ({ frames := 4, cells := 5, slots := 75, locals := 80 } : Room) s m args below meth c T' locs' (0 + 1 + 1) (0 + 32 + 32) → T'.heap = h' → Fr Z.heap.size locs' → Old Z Z.heap.size h' → Keep hs h' [] → Arv Z h' tp kp .int (Int32.ofNat 32) (own_vals (own_fp L) (i)) (.int (0 : Int32)) → Arv Z h' te ke .long (Int32.ofNat 32) (own_valsL (own_ge L) (i)) (.long (0 : Int64)) → own_G p.tables e below (own_F s below (own_QO Z hs L) 5 75) (T'.setTop (mkF m 37 #[.val (.int W), .val (.ref tp), .val (.ref te), .val (.int (Int32.ofNat (i))), .val (.int (Int32.ofNat (own_prod (L.drop (i))))), .val (.int (Int32.ofNat (d)))] [])) := by
  intro t
  induction t with
  | zero =>
    intro d i b T' h' locs' ht hd hi ha hn hW X e1 N O Ks Vp Ve
    exact own_of_last tp te kp ke L W i d b hx hZ hw hby hml hown X e1 N O hret hlk hlen gp ge gph geh net Ks hi hd (by omega) ha hn hW Vp Ve (by rw [show d = 46342 by omega]; omega)
  | succ t ih =>
    intro d i b T' h' locs' ht hd hi ha hn hW X e1 N O Ks Vp Ve
    exact own_of_turn tp te kp ke L W i d b hx hZ hw hby hml hown X e1 N O hret hlk hlen gp ge gph geh net Ks hi hd (by omega) ha hn hW Vp Ve fun i2 b2 T2 h2 L2 hi2 ha2 hn2 hW2 X2 e2 N2 O2 K2 Vp2 Ve2 => ih (d + 1) i2 b2 T2 h2 L2 (by omega) (by omega) hi2 ha2 hn2 hW2 X2 e2 N2 O2 K2 Vp2 Ve2
theorem own_d_prog_39_m2_0 : decode prog_39_method_2_code 0 = .ok (.iload_n 0, 1) := by decide +kernel
theorem own_d_prog_39_m2_1 : decode prog_39_method_2_code 1 = .ok (.iconst 1, 1) := by decide +kernel
theorem own_d_prog_39_m2_2 : decode prog_39_method_2_code 2 = .ok (.if_icmp .ge 17, 3) := by decide +kernel
theorem own_d_prog_39_m2_19 : decode prog_39_method_2_code 19 = .ok (.bipush 32, 2) := by decide +kernel
theorem own_d_prog_39_m2_21 : decode prog_39_method_2_code 21 = .ok (.newarray .int, 2) := by decide +kernel
theorem own_d_prog_39_m2_23 : decode prog_39_method_2_code 23 = .ok (.astore_n 1, 1) := by decide +kernel
theorem own_d_prog_39_m2_24 : decode prog_39_method_2_code 24 = .ok (.bipush 32, 2) := by decide +kernel
theorem own_d_prog_39_m2_26 : decode prog_39_method_2_code 26 = .ok (.newarray .long, 2) := by decide +kernel
theorem own_d_prog_39_m2_28 : decode prog_39_method_2_code 28 = .ok (.astore_n 2, 1) := by decide +kernel
theorem own_d_prog_39_m2_29 : decode prog_39_method_2_code 29 = .ok (.iconst 0, 1) := by decide +kernel
theorem own_d_prog_39_m2_30 : decode prog_39_method_2_code 30 = .ok (.istore_n 3, 1) := by decide +kernel
theorem own_d_prog_39_m2_31 : decode prog_39_method_2_code 31 = .ok (.iload_n 0, 1) := by decide +kernel
theorem own_d_prog_39_m2_32 : decode prog_39_method_2_code 32 = .ok (.istore 4, 2) := by decide +kernel
theorem own_d_prog_39_m2_34 : decode prog_39_method_2_code 34 = .ok (.iconst 2, 1) := by decide +kernel
theorem own_d_prog_39_m2_35 : decode prog_39_method_2_code 35 = .ok (.istore 5, 2) := by decide +kernel
set_option maxRecDepth 65536 in
set_option maxHeartbeats 40000000 in
theorem own_of (l : Launch) (Z : State) (a0 : Array Value) (hw : ∀ d ∈ tables_1, d.before a0 Z = true) (ws : List Jvm.Cond)  (L : List (Nat × Nat)) (h0 : Heap) (O0 : Old Z Z.heap.size h0) (hlen : L.length ≤ 4) (ha : own_asc 1 L) (hW : own_prod L < 2147483648) :
    own_Met l Z (⟨"com/example/libfacet/libfacet/exact/Factorization", "of", "(I)Lcom/example/libfacet/libfacet/exact/Factorization;"⟩ : MethodName) prog_39_method_2_code 6 (some (.object "com/example/libfacet/libfacet/exact/Factorization")) ws ({ frames := 4, cells := 5, slots := 75, locals := 80 } : Room) #[(.int (Int32.ofNat (own_prod L)))] h0 (own_QO Z h0 L) (({ frames := 4, cells := 5, slots := 75, locals := 80 } : Room)).cells (({ frames := 4, cells := 5, slots := 75, locals := 80 } : Room)).slots := by
  refine own_body (ef := fun m => mkF m 0 #[.val (.int (Int32.ofNat (own_prod L))), .unset, .unset, .unset, .unset, .unset] []) (plainFor_of_name own_pn223) (fun m => by first | (simp [entryFrame, mkF, argsToLocals, Value.category]; done) | rfl) ?_
  intro p e s m below meth c T0 hx hZ hby hml hown hnm hret hlk X0 e0
  have N0 := Fr.nil Z.heap.size
  have z0 : Z.heap.size ≤ h0.size := O0.2.1
  have Kr := Keep.refl h0 []
  show own_G _ _ _ _ (T0.setTop (mkF m 0 #[.val (.int (Int32.ofNat (own_prod L))), .unset, .unset, .unset, .unset, .unset] []))
  refine own_st (fun _ k => XS.iloadN X0.here hx rfl (hb hby own_d_prog_39_m2_0) rfl k) ?_
  show own_G _ _ _ _ (T0.setTop (mkF m 1 #[.val (.int (Int32.ofNat (own_prod L))), .unset, .unset, .unset, .unset, .unset] [(.int (Int32.ofNat (own_prod L)))]))
  refine own_st (fun _ k => XS.iconst X0.here hx rfl (hb hby own_d_prog_39_m2_1) k) ?_
  show own_G _ _ _ _ (T0.setTop (mkF m 2 #[.val (.int (Int32.ofNat (own_prod L))), .unset, .unset, .unset, .unset, .unset] [(.int (1 : Int32)), (.int (Int32.ofNat (own_prod L)))]))
  refine own_st (fun _ k => XS.icmpYes X0.here hx rfl (pc0 := 2) (pc' := 19) rfl (hb hby own_d_prog_39_m2_2) rfl (flt (own_nlt (b := 1) (show ¬ own_prod L < 1 by have := own_prod_pos L 1 ha; omega) hW (by decide))).2.1 (by decide) (by decide) k) ?_
  show own_G _ _ _ _ (T0.setTop (mkF m 19 #[.val (.int (Int32.ofNat (own_prod L))), .unset, .unset, .unset, .unset, .unset] []))
  refine own_st (fun _ k => XS.bipush X0.here hx rfl (hb hby own_d_prog_39_m2_19) k) ?_
  show own_G _ _ _ _ (T0.setTop (mkF m 21 #[.val (.int (Int32.ofNat (own_prod L))), .unset, .unset, .unset, .unset, .unset] [(.int (32 : Int32))]))
  obtain ⟨T1, h1, k1, X1, e1, E1, A1, st1⟩ := newP X0 hx hZ (hw _ (List.mem_of_getElem? (i := 0) rfl)) e0 (g := (mkF m 21 #[.val (.int (Int32.ofNat (own_prod L))), .unset, .unset, .unset, .unset, .unset] [(.int (32 : Int32))])) rfl (hb hby own_d_prog_39_m2_21) rfl (by decide) (cap := 32) (by decide) (by decide) (by decide) (by decide)
  obtain ⟨b1, g1⟩ : ∃ z, z = h0.size := ⟨_, rfl⟩
  rw [← g1] at A1 st1
  refine own_st st1 ?_
  have z2 : h0.size ≤ h1.size := E1.1
  have O3 := Old.ext O0 E1
  have K4 : Keep h0 h1 [] := Kr.ext E1
  have V1 : Arv Z h1 b1 k1 .int (32 : Int32) [] (.int (0 : Int32)) := Arv.new A1 (by decide)
  have lt1 := own_ltN A1.lt
  show own_G _ _ _ _ (T1.setTop (mkF m 23 #[.val (.int (Int32.ofNat (own_prod L))), .unset, .unset, .unset, .unset, .unset] [(.ref b1)]))
  refine own_st (fun _ k => XS.astoreN X1.here hx rfl (hb hby own_d_prog_39_m2_23) rfl rfl (l' := #[.val (.int (Int32.ofNat (own_prod L))), .val (.ref b1), .unset, .unset, .unset, .unset]) rfl k) ?_
  show own_G _ _ _ _ (T1.setTop (mkF m 24 #[.val (.int (Int32.ofNat (own_prod L))), .val (.ref b1), .unset, .unset, .unset, .unset] []))
  refine own_st (fun _ k => XS.bipush X1.here hx rfl (hb hby own_d_prog_39_m2_24) k) ?_
  show own_G _ _ _ _ (T1.setTop (mkF m 26 #[.val (.int (Int32.ofNat (own_prod L))), .val (.ref b1), .unset, .unset, .unset, .unset] [(.int (32 : Int32))]))
  obtain ⟨T5, h5, k5, X5, e5, E5, A5, st5⟩ := newP X1 hx hZ (hw _ (List.mem_of_getElem? (i := 14) rfl)) e1 (g := (mkF m 26 #[.val (.int (Int32.ofNat (own_prod L))), .val (.ref b1), .unset, .unset, .unset, .unset] [(.int (32 : Int32))])) rfl (hb hby own_d_prog_39_m2_26) rfl (by decide) (cap := 32) (by decide) (by decide) (by decide) (by decide)
  obtain ⟨b5, g5⟩ : ∃ z, z = h1.size := ⟨_, rfl⟩
  rw [← g5] at A5 st5
  refine own_st st5 ?_
  have z6 : h1.size ≤ h5.size := E5.1
  have O7 := Old.ext O3 E5
  have K8 : Keep h0 h5 [] := K4.ext E5
  have V5 : Arv Z h5 b5 k5 .long (32 : Int32) [] (.long (0 : Int64)) := Arv.new A5 (by decide)
  have lt5 := own_ltN A5.lt
  show own_G _ _ _ _ (T5.setTop (mkF m 28 #[.val (.int (Int32.ofNat (own_prod L))), .val (.ref b1), .unset, .unset, .unset, .unset] [(.ref b5)]))
  refine own_st (fun _ k => XS.astoreN X5.here hx rfl (hb hby own_d_prog_39_m2_28) rfl rfl (l' := #[.val (.int (Int32.ofNat (own_prod L))), .val (.ref b1), .val (.ref b5), .unset, .unset, .unset]) rfl k) ?_
  show own_G _ _ _ _ (T5.setTop (mkF m 29 #[.val (.int (Int32.ofNat (own_prod L))), .val (.ref b1), .val (.ref b5), .unset, .unset, .unset] []))
  refine own_st (fun _ k => XS.iconst X5.here hx rfl (hb hby own_d_prog_39_m2_29) k) ?_
  show own_G _ _ _ _ (T5.setTop (mkF m 30 #[.val (.int (Int32.ofNat (own_prod L))), .val (.ref b1), .val (.ref b5), .unset, .unset, .unset] [(.int (0 : Int32))]))
  refine own_st (fun _ k => XS.istoreN X5.here hx rfl (hb hby own_d_prog_39_m2_30) rfl (l' := #[.val (.int (Int32.ofNat (own_prod L))), .val (.ref b1), .val (.ref b5), .val (.int (0 : Int32)), .unset, .unset]) rfl k) ?_
  show own_G _ _ _ _ (T5.setTop (mkF m 31 #[.val (.int (Int32.ofNat (own_prod L))), .val (.ref b1), .val (.ref b5), .val (.int (0 : Int32)), .unset, .unset] []))
  refine own_st (fun _ k => XS.iloadN X5.here hx rfl (hb hby own_d_prog_39_m2_31) rfl k) ?_
  show own_G _ _ _ _ (T5.setTop (mkF m 32 #[.val (.int (Int32.ofNat (own_prod L))), .val (.ref b1), .val (.ref b5), .val (.int (0 : Int32)), .unset, .unset] [(.int (Int32.ofNat (own_prod L)))]))
  refine own_st (fun _ k => XS.istore X5.here hx rfl (hb hby own_d_prog_39_m2_32) rfl (l' := #[.val (.int (Int32.ofNat (own_prod L))), .val (.ref b1), .val (.ref b5), .val (.int (0 : Int32)), .val (.int (Int32.ofNat (own_prod L))), .unset]) rfl k) ?_
  show own_G _ _ _ _ (T5.setTop (mkF m 34 #[.val (.int (Int32.ofNat (own_prod L))), .val (.ref b1), .val (.ref b5), .val (.int (0 : Int32)), .val (.int (Int32.ofNat (own_prod L))), .unset] []))
  refine own_st (fun _ k => XS.iconst X5.here hx rfl (hb hby own_d_prog_39_m2_34) k) ?_
  show own_G _ _ _ _ (T5.setTop (mkF m 35 #[.val (.int (Int32.ofNat (own_prod L))), .val (.ref b1), .val (.ref b5), .val (.int (0 : Int32)), .val (.int (Int32.ofNat (own_prod L))), .unset] [(.int (2 : Int32))]))
  refine own_st (fun _ k => XS.istore X5.here hx rfl (hb hby own_d_prog_39_m2_35) rfl (l' := #[.val (.int (Int32.ofNat (own_prod L))), .val (.ref b1), .val (.ref b5), .val (.int (0 : Int32)), .val (.int (Int32.ofNat (own_prod L))), .val (.int (2 : Int32))]) rfl k) ?_
  show own_G _ _ _ _ (T5.setTop (mkF m 37 #[.val (.int (Int32.ofNat (own_prod L))), .val (.ref b1), .val (.ref b5), .val (.int (0 : Int32)), .val (.int (Int32.ofNat (own_prod L))), .val (.int (2 : Int32))] []))
  have q9 : Arv Z h5 b1 k1 .int (32 : Int32) [] (.int (0 : Int32)) := (V1.ext E5)
  exact own_of_loop (hs := h0) b1 b5 k1 k5 L (Int32.ofNat (own_prod L)) hx hZ hw hby hml hown hret hlk hlen (by omega) (by omega) (by omega) (by omega) (show @Ne Nat b1 b5 by omega) 46340 2 0 1 _ _ _ (by omega) (by omega) (by omega) ha (fun x h2 hx2 => by omega) hW X5 e5 N0 O7 K8 q9 V5
def own_n1 (j : Nat) : Nat := [2, 3, 5, 7].getD j 0
def own_mm (j : Nat) : Nat := [31, 20, 14, 12].getD j 0
def own_n2 (j : Nat) : Nat := [11, 13, 31, 97].getD j 0
def own_n3 (j : Nat) : Nat := [101, 251, 1009, 46337].getD j 0
def own_n4 (j : Nat) : Nat := [46349, 65537, 999983, 2147483647].getD j 0
theorem own_four {P : Nat → Prop} (h0 : P 0) (h1 : P 1) (h2 : P 2) (h3 : P 3) {j : Nat} (h : j < 4) : P j := by
  have : j = 0 ∨ j = 1 ∨ j = 2 ∨ j = 3 := by omega
  rcases this with rfl | rfl | rfl | rfl
  · exact h0
  · exact h1
  · exact h2
  · exact h3
theorem own_p1 {j : Nat} (h : j < 4) : own_pr (own_n1 j) := own_four (P := fun j => own_pr (own_n1 j)) (own_pr_of (k := 1) (n := 2) (by decide) (by decide) (Or.inl (by decide +kernel))) (own_pr_of (k := 1) (n := 3) (by decide) (by decide) (Or.inl (by decide +kernel))) (own_pr_of (k := 2) (n := 5) (by decide) (by decide) (Or.inl (by decide +kernel))) (own_pr_of (k := 2) (n := 7) (by decide) (by decide) (Or.inl (by decide +kernel))) h
theorem own_p2 {j : Nat} (h : j < 4) : own_pr (own_n2 j) := own_four (P := fun j => own_pr (own_n2 j)) (own_pr_of (k := 2) (n := 11) (by decide) (by decide) (Or.inl (by decide +kernel))) (own_pr_of (k := 2) (n := 13) (by decide) (by decide) (Or.inl (by decide +kernel))) (own_pr_of (k := 3) (n := 31) (by decide) (by decide) (Or.inl (by decide +kernel))) (own_pr_of (k := 4) (n := 97) (by decide) (by decide) (Or.inl (by decide +kernel))) h
theorem own_p3 {j : Nat} (h : j < 4) : own_pr (own_n3 j) := own_four (P := fun j => own_pr (own_n3 j)) (own_pr_of (k := 4) (n := 101) (by decide) (by decide) (Or.inl (by decide +kernel))) (own_pr_of (k := 4) (n := 251) (by decide) (by decide) (Or.inl (by decide +kernel))) (own_pr_of (k := 5) (n := 1009) (by decide) (by decide) (Or.inl (by decide +kernel))) (own_pr_of (k := 8) (n := 46337) (by decide) (by decide) (Or.inl (by decide +kernel))) h
theorem own_p4 {j : Nat} (h : j < 4) : own_pr (own_n4 j) := own_four (P := fun j => own_pr (own_n4 j)) (own_pr_of (k := 8) (n := 46349) (by decide) (by decide) (Or.inl (by decide +kernel))) (own_pr_of (k := 9) (n := 65537) (by decide) (by decide) (Or.inl (by decide +kernel))) (own_pr_of (k := 10) (n := 999983) (by decide) (by decide) (Or.inl (by decide +kernel))) (own_pr_of (k := 16) (n := 2147483647) (by decide) (by decide) (Or.inl (by decide +kernel))) h
theorem own_b1 {j : Nat} (h : j < 4) : 2 ≤ own_n1 j ∧ own_n1 j ≤ 7 ∧ 12 ≤ own_mm j ∧ own_mm j ≤ 31 ∧ own_n1 j ^ (own_mm j - 1) ≤ 2147483647 := own_four (P := fun j => 2 ≤ own_n1 j ∧ own_n1 j ≤ 7 ∧ 12 ≤ own_mm j ∧ own_mm j ≤ 31 ∧ own_n1 j ^ (own_mm j - 1) ≤ 2147483647) (by decide +kernel) (by decide +kernel) (by decide +kernel) (by decide +kernel) h
theorem own_b2 {j : Nat} (h : j < 4) : 11 ≤ own_n2 j ∧ own_n2 j ≤ 97 := own_four (P := fun j => 11 ≤ own_n2 j ∧ own_n2 j ≤ 97) (by decide) (by decide) (by decide) (by decide) h
theorem own_b3 {j : Nat} (h : j < 4) : 101 ≤ own_n3 j ∧ own_n3 j ≤ 46337 := own_four (P := fun j => 101 ≤ own_n3 j ∧ own_n3 j ≤ 46337) (by decide) (by decide) (by decide) (by decide) h
theorem own_b4 {j : Nat} (h : j < 4) : 46349 ≤ own_n4 j ∧ own_n4 j ≤ 2147483647 := own_four (P := fun j => 46349 ≤ own_n4 j ∧ own_n4 j ≤ 2147483647) (by decide) (by decide) (by decide) (by decide) h
theorem own_toN {x : Int32} {k : Nat} (h0 : 0 ≤ x.toInt) (h1 : x.toInt < (k : Int)) (hk : k ≤ 2147483647) : ∃ n : Nat, n < k ∧ x = Int32.ofNat n := by
  refine ⟨x.toInt.toNat, by omega, Int32.toInt_inj.mp ?_⟩
  rw [own_nat (by omega)]
  omega
theorem own_mask {x m : Int32} (k : Nat) (hk : k ≤ 30) (hm : m.toBitVec.toNat = 2 ^ k - 1) : ∃ n : Nat, n < 2 ^ k ∧ x &&& m = Int32.ofNat n := by
  have h := c_mask x m k (by omega) hm
  have h2 : (0 : Int) < ((2 ^ k : Nat) : Int) := Int.natCast_pos.mpr (Nat.pow_pos (by decide))
  have h3 : 2 ^ k ≤ 2 ^ 30 := Nat.pow_le_pow_right (by decide) hk
  exact own_toN (by rw [h]; exact Int.emod_nonneg _ (by omega)) (by rw [h]; exact Int.emod_lt_of_pos _ h2) (by omega)
theorem own_ush (x : Int32) : ∃ n : Nat, n < 1073741824 ∧ ((x.toUInt32 >>> ((2 : Int32) &&& 31).toUInt32).toInt32) = Int32.ofNat n := by
  have h := c_iushr x 2 2 rfl (by decide)
  have h1 := rng32 x
  exact own_toN (k := 1073741824) (by rw [h]; omega) (by rw [h]; omega) (by decide)
theorem own_i2l {n : Nat} (h : n < 2147483648) : (Int32.ofNat n).toInt64 = Int64.ofNat n := by
  apply Int64.toInt_inj.mp
  rw [Int32.toInt_toInt64, own_nat h, own_L (by omega)]
theorem own_l2i {n : Nat} (h : n < 2147483648) : (Int64.ofNat n).toInt32 = Int32.ofNat n := by
  apply Int32.toInt_inj.mp
  have h1 := c_l2i (Int64.ofNat n)
  have h2 := rng32 (Int64.ofNat n).toInt32
  rw [own_L (by omega)] at h1
  rw [own_nat h]
  omega
theorem own_sat_eq {X Y : Nat} (hY : 0 < Y) (h : own_sat (X * Y) ≤ 2147483647) : own_sat (X * Y) = X * Y ∧ X ≤ 2147483647 := by
  have h1 : X ≤ X * Y := Nat.le_mul_of_pos_right X hY
  unfold own_sat at h ⊢
  split at h
  · omega
  · rename_i q
    rw [if_neg q]
    exact ⟨rfl, by omega⟩
theorem own_sat_le (n : Nat) : own_sat n ≤ 2147483648 := by unfold own_sat; split <;> omega
/-- the pairs with an exponent -/
def own_kept : List (Nat × Nat) → List (Nat × Nat)
  | [] => []
  | q :: r => if 0 < q.2 then q :: own_kept r else own_kept r
theorem own_fp_app (D : List (Nat × Nat)) (q : Nat × Nat) : own_vals (own_fp (D ++ [q])) (D.length + 1) = own_vals (own_fp D) D.length ++ [.int (Int32.ofNat q.1)] := by
  rw [← own_next]
  congr 1
  · unfold own_vals
    refine List.map_congr_left fun j hj => ?_
    have := List.mem_range.mp hj
    simp [own_fp, List.getD_eq_getElem?_getD, List.getElem?_append_left this]
  · simp [own_fp, List.getD_eq_getElem?_getD]
theorem own_ge_app (D : List (Nat × Nat)) (q : Nat × Nat) : own_valsL (own_ge (D ++ [q])) (D.length + 1) = own_valsL (own_ge D) D.length ++ [.long (Int64.ofNat q.2)] := by
  rw [← own_nextL]
  congr 1
  · unfold own_valsL
    refine List.map_congr_left fun j hj => ?_
    have := List.mem_range.mp hj
    simp [own_ge, List.getD_eq_getElem?_getD, List.getElem?_append_left this]
  · simp [own_ge, List.getD_eq_getElem?_getD]
set_option maxRecDepth 65536 in
set_option maxHeartbeats 40000000 in
theorem own_ck4 {p : Program} {l : Launch} {e : Env} {s : State} {m : MethodId} {args : Array Value} {below : List Frame} {meth : Method} {c : Code} {Z : State} {a0 : Array Value} {locs : List Loc} {cells slots : Nat} {T0 : State} {h0 : Heap}  (ps es fo tp te : Addr) (kp ke k1 k2 : ClassId) (L : List (Nat × Nat)) (s0 s1 s2 s3 s4 s5 s6 s7 s8 s9 s10 s11 s12 s13 s14 s15 s16 s17 s18 s19 : Slot) (hx : p.tables.exec = Jvm.exec) (hZ : Z.Warmed39 s.vm) (hw : ∀ d ∈ tables_1, d.before a0 Z = true) (hby : c.code = code) (hml : c.maxLocals = 25) (hown : s.vm.findClass "com/example/libfacet/libfacet/exact/FactorizationOfPinLaw" = some m.cls) (X0 : Stand p l e room_1 s m args below meth c T0 locs cells slots) (e0 : T0.heap = h0) (N0 : Fr Z.heap.size locs) (O0 : Old Z Z.heap.size h0) (hret : meth.sig.returnType = some .boolean) (hlk : meth.locks = false) (hcs : cells ≤ 32) (hss : slots ≤ 320) (hlen : L.length ≤ 4) (Vp : Arv Z h0 ps kp .int (Int32.ofNat 4) (own_vals (own_fp L) L.length) (.int (0 : Int32))) (Ve : Arv Z h0 es ke .long (Int32.ofNat 4) (own_valsL (own_ge L) L.length) (.long (0 : Int64))) (Ef : Exa Z h0 fo "com/example/libfacet/libfacet/exact/Factorization") (F1 : Fld Z h0 fo "com/example/libfacet/libfacet/exact/Factorization" "primes" "[I" (.ref tp)) (F2 : Fld Z h0 fo "com/example/libfacet/libfacet/exact/Factorization" "exponents" "[J" (.ref te)) (V1 : Arv Z h0 tp k1 .int (Int32.ofNat L.length) (own_vals (own_fp L) L.length) (.int (0 : Int32))) (V2 : Arv Z h0 te k2 .long (Int32.ofNat L.length) (own_valsL (own_ge L) L.length) (.long (0 : Int64)))
     :
    own_G p.tables e below (own_F s below (fun v h L => v = some (.int 1) ∧ Fr Z.heap.size L) 32 320) (T0.setTop (mkF m 568 #[s0, s1, s2, s3, s4, s5, s6, s7, s8, s9, s10, s11, s12, s13, s14, s15, s16, s17, s18, s19, .val (.ref ps), .val (.ref es), .val (.int (Int32.ofNat L.length)), .val (.ref fo), .val (.int (1 : Int32))] [])) := by
  have z0 : Z.heap.size ≤ h0.size := O0.2.1
  have Kr := Keep.refl h0 []
  show own_G _ _ _ _ (T0.setTop (mkF m 568 #[s0, s1, s2, s3, s4, s5, s6, s7, s8, s9, s10, s11, s12, s13, s14, s15, s16, s17, s18, s19, .val (.ref ps), .val (.ref es), .val (.int (Int32.ofNat L.length)), .val (.ref fo), .val (.int (1 : Int32))] []))
  refine own_st (fun _ k => XS.iload X0.here hx rfl (hb hby at_568) rfl k) ?_
  show own_G _ _ _ _ (T0.setTop (mkF m 570 #[s0, s1, s2, s3, s4, s5, s6, s7, s8, s9, s10, s11, s12, s13, s14, s15, s16, s17, s18, s19, .val (.ref ps), .val (.ref es), .val (.int (Int32.ofNat L.length)), .val (.ref fo), .val (.int (1 : Int32))] [(.int (1 : Int32))]))
  exact own_retN X0 hx hret hlk (by simp) (hb hby at_570) ⟨rfl, N0⟩ hcs hss
theorem own_pd340 : parseMethodDescriptor "(I)I" = some ⟨[.int], some .int⟩ := by decide +kernel
theorem own_pd348 : parseMethodDescriptor "(I)J" = some ⟨[.int], some .long⟩ := by decide +kernel
set_option maxRecDepth 65536 in
set_option maxHeartbeats 40000000 in
theorem own_ck3 {p : Program} {l : Launch} {e : Env} {s : State} {m : MethodId} {args : Array Value} {below : List Frame} {meth : Method} {c : Code} {Z : State} {a0 : Array Value} {locs : List Loc} {cells slots : Nat} {T0 : State} {h0 : Heap}  (ps es fo tp te : Addr) (kp ke k1 k2 : ClassId) (L : List (Nat × Nat)) (s0 s1 s2 s3 s4 s5 s6 s7 s8 s9 s10 s11 s12 s13 s14 s15 s16 s17 s18 s19 : Slot) (hx : p.tables.exec = Jvm.exec) (hZ : Z.Warmed39 s.vm) (hw : ∀ d ∈ tables_1, d.before a0 Z = true) (hby : c.code = code) (hml : c.maxLocals = 25) (hown : s.vm.findClass "com/example/libfacet/libfacet/exact/FactorizationOfPinLaw" = some m.cls) (X0 : Stand p l e room_1 s m args below meth c T0 locs cells slots) (e0 : T0.heap = h0) (N0 : Fr Z.heap.size locs) (O0 : Old Z Z.heap.size h0) (hret : meth.sig.returnType = some .boolean) (hlk : meth.locks = false) (hcs : cells ≤ 32) (hss : slots ≤ 320) (hlen : L.length ≤ 4) (Vp : Arv Z h0 ps kp .int (Int32.ofNat 4) (own_vals (own_fp L) L.length) (.int (0 : Int32))) (Ve : Arv Z h0 es ke .long (Int32.ofNat 4) (own_valsL (own_ge L) L.length) (.long (0 : Int64))) (Ef : Exa Z h0 fo "com/example/libfacet/libfacet/exact/Factorization") (F1 : Fld Z h0 fo "com/example/libfacet/libfacet/exact/Factorization" "primes" "[I" (.ref tp)) (F2 : Fld Z h0 fo "com/example/libfacet/libfacet/exact/Factorization" "exponents" "[J" (.ref te)) (V1 : Arv Z h0 tp k1 .int (Int32.ofNat L.length) (own_vals (own_fp L) L.length) (.int (0 : Int32))) (V2 : Arv Z h0 te k2 .long (Int32.ofNat L.length) (own_valsL (own_ge L) L.length) (.long (0 : Int64)))
     :
    own_G p.tables e below (own_F s below (fun v h L => v = some (.int 1) ∧ Fr Z.heap.size L) 32 320) (T0.setTop (mkF m 523 #[s0, s1, s2, s3, s4, s5, s6, s7, s8, s9, s10, s11, s12, s13, s14, s15, s16, s17, s18, s19, .val (.ref ps), .val (.ref es), .val (.int (Int32.ofNat L.length)), .val (.ref fo), .val (.int (1 : Int32))] [])) := by
  have z0 : Z.heap.size ≤ h0.size := O0.2.1
  have Kr := Keep.refl h0 []
  show own_G _ _ _ _ (T0.setTop (mkF m 523 #[s0, s1, s2, s3, s4, s5, s6, s7, s8, s9, s10, s11, s12, s13, s14, s15, s16, s17, s18, s19, .val (.ref ps), .val (.ref es), .val (.int (Int32.ofNat L.length)), .val (.ref fo), .val (.int (1 : Int32))] []))
  refine own_st (fun _ k => XS.iload X0.here hx rfl (hb hby at_523) rfl k) ?_
  show own_G _ _ _ _ (T0.setTop (mkF m 525 #[s0, s1, s2, s3, s4, s5, s6, s7, s8, s9, s10, s11, s12, s13, s14, s15, s16, s17, s18, s19, .val (.ref ps), .val (.ref es), .val (.int (Int32.ofNat L.length)), .val (.ref fo), .val (.int (1 : Int32))] [(.int (Int32.ofNat L.length))]))
  refine own_st (fun _ k => XS.iconst X0.here hx rfl (hb hby at_525) k) ?_
  show own_G _ _ _ _ (T0.setTop (mkF m 526 #[s0, s1, s2, s3, s4, s5, s6, s7, s8, s9, s10, s11, s12, s13, s14, s15, s16, s17, s18, s19, .val (.ref ps), .val (.ref es), .val (.int (Int32.ofNat L.length)), .val (.ref fo), .val (.int (1 : Int32))] [(.int (3 : Int32)), (.int (Int32.ofNat L.length))]))
  by_cases hj : 3 < L.length
  · skip
    refine own_st (fun _ k => XS.icmpNo X0.here hx rfl (hb hby at_526) rfl (tlt (own_lt (i := 3) hj (by omega))).2.2.2 k) ?_
    show own_G _ _ _ _ (T0.setTop (mkF m 529 #[s0, s1, s2, s3, s4, s5, s6, s7, s8, s9, s10, s11, s12, s13, s14, s15, s16, s17, s18, s19, .val (.ref ps), .val (.ref es), .val (.int (Int32.ofNat L.length)), .val (.ref fo), .val (.int (1 : Int32))] []))
    refine own_st (fun _ k => XS.iload X0.here hx rfl (hb hby at_529) rfl k) ?_
    show own_G _ _ _ _ (T0.setTop (mkF m 531 #[s0, s1, s2, s3, s4, s5, s6, s7, s8, s9, s10, s11, s12, s13, s14, s15, s16, s17, s18, s19, .val (.ref ps), .val (.ref es), .val (.int (Int32.ofNat L.length)), .val (.ref fo), .val (.int (1 : Int32))] [(.int (1 : Int32))]))
    refine own_st (fun _ k => XS.ifNo X0.here hx rfl (hb hby at_531) rfl ((if0 _ _).trans (feq (by decide)).1) k) ?_
    show own_G _ _ _ _ (T0.setTop (mkF m 534 #[s0, s1, s2, s3, s4, s5, s6, s7, s8, s9, s10, s11, s12, s13, s14, s15, s16, s17, s18, s19, .val (.ref ps), .val (.ref es), .val (.int (Int32.ofNat L.length)), .val (.ref fo), .val (.int (1 : Int32))] []))
    refine own_st (fun _ k => XS.aload X0.here hx rfl (hb hby at_534) rfl rfl k) ?_
    show own_G _ _ _ _ (T0.setTop (mkF m 536 #[s0, s1, s2, s3, s4, s5, s6, s7, s8, s9, s10, s11, s12, s13, s14, s15, s16, s17, s18, s19, .val (.ref ps), .val (.ref es), .val (.int (Int32.ofNat L.length)), .val (.ref fo), .val (.int (1 : Int32))] [(.ref fo)]))
    refine own_st (fun _ k => XS.iconst X0.here hx rfl (hb hby at_536) k) ?_
    show own_G _ _ _ _ (T0.setTop (mkF m 537 #[s0, s1, s2, s3, s4, s5, s6, s7, s8, s9, s10, s11, s12, s13, s14, s15, s16, s17, s18, s19, .val (.ref ps), .val (.ref es), .val (.int (Int32.ofNat L.length)), .val (.ref fo), .val (.int (1 : Int32))] [(.int (3 : Int32)), (.ref fo)]))
    obtain ⟨cq1, kq1, q1a, q1b, q1c⟩ := isOf hZ e0 Ef
    obtain ⟨_, _, ⟨T1, L1, k1, n1⟩, -, X1, ⟨Lc1, hQ1, l1, y1, z1⟩, st1⟩ := X0.virtualBack hx (y := (⟨"com/example/libfacet/libfacet/exact/Factorization", "prime", "(I)I"⟩ : MethodName)) (z := (⟨"com/example/libfacet/libfacet/exact/Factorization", "prime", "(I)I"⟩ : MethodName)) hown (mvT hZ (hw _ (List.mem_of_getElem? (i := 68) rfl))) (mvT hZ (hw _ (List.mem_of_getElem? (i := 69) rfl))) (notFace_of_selects (args := #[]) (mvT hZ (hw _ (List.mem_of_getElem? (i := 71) rfl)))) (mvT hZ (hw _ (List.mem_of_getElem? (i := 71) rfl))) (mvT hZ (hw _ (List.mem_of_getElem? (i := 70) rfl))) (by decide) (own_back (rm := ({ frames := 0, cells := 0, slots := 0, locals := 0 } : Room)) (W := 0) (own_prime l Z a0 hw [] fo tp k1 (own_fp L) 3 L.length h0 O0 hj hlen F1 V1) hZ (hw _ (List.mem_of_getElem? (i := 72) rfl)) (hw _ (List.mem_of_getElem? (i := 17) rfl)) (by decide) (by decide)) q1a q1c (g := (mkF m 537 #[s0, s1, s2, s3, s4, s5, s6, s7, s8, s9, s10, s11, s12, s13, s14, s15, s16, s17, s18, s19, .val (.ref ps), .val (.ref es), .val (.int (Int32.ofNat L.length)), .val (.ref fo), .val (.int (1 : Int32))] [(.int (3 : Int32)), (.ref fo)])) rfl (by rw [hml]; rfl) (Steps.refl _) (argsL := [(.int (3 : Int32))]) (rest := []) (lenOf own_pd340 rfl) rfl (by show 2 * 0 + _ ≤ _; exact Nat.le_of_eq rfl) (hb hby at_537) (fun _ _ => ⟨rfl, e0, hcs, hss⟩)
    dsimp only [Pt.U, Pt.locs, Pt.cells, Pt.slots] at X1 l1 y1 z1 st1 hQ1
    subst l1 y1 z1
    obtain ⟨rfl, N1q, eh1⟩ := hQ1
    have N1 := Fr.app N0 N1q
    refine own_tr st1 ?_
    show own_G _ _ _ _ (T1.setTop (mkF m 540 #[s0, s1, s2, s3, s4, s5, s6, s7, s8, s9, s10, s11, s12, s13, s14, s15, s16, s17, s18, s19, .val (.ref ps), .val (.ref es), .val (.int (Int32.ofNat L.length)), .val (.ref fo), .val (.int (1 : Int32))] [(.int (own_fp L 3))]))
    refine own_st (fun _ k => XS.aload X1.here hx rfl (hb hby at_540) rfl rfl k) ?_
    show own_G _ _ _ _ (T1.setTop (mkF m 542 #[s0, s1, s2, s3, s4, s5, s6, s7, s8, s9, s10, s11, s12, s13, s14, s15, s16, s17, s18, s19, .val (.ref ps), .val (.ref es), .val (.int (Int32.ofNat L.length)), .val (.ref fo), .val (.int (1 : Int32))] [(.ref ps), (.int (own_fp L 3))]))
    refine own_st (fun _ k => XS.iconst X1.here hx rfl (hb hby at_542) k) ?_
    show own_G _ _ _ _ (T1.setTop (mkF m 543 #[s0, s1, s2, s3, s4, s5, s6, s7, s8, s9, s10, s11, s12, s13, s14, s15, s16, s17, s18, s19, .val (.ref ps), .val (.ref es), .val (.int (Int32.ofNat L.length)), .val (.ref fo), .val (.int (1 : Int32))] [(.int (3 : Int32)), (.ref ps), (.int (own_fp L 3))]))
    obtain ⟨cl2, Ar2, qk2, Sz2, Mz2, Hz2, Uz2⟩ := id Vp
    refine own_st (X1.iaload hx (j := (3 : Int32)) (v := (.int (own_fp L 3))) (by rw [eh1]; exact Ar2.1) (State.isArrayOf_alike hZ.alike Ar2.2.1) Ar2.2.2 (own_in (i := 3) (n := 4) Sz2 (by decide) (by decide)) (own_get (i := 3) (N := 4) Sz2 Hz2 hj hlen (by decide)) (g := (mkF m 543 #[s0, s1, s2, s3, s4, s5, s6, s7, s8, s9, s10, s11, s12, s13, s14, s15, s16, s17, s18, s19, .val (.ref ps), .val (.ref es), .val (.int (Int32.ofNat L.length)), .val (.ref fo), .val (.int (1 : Int32))] [(.int (3 : Int32)), (.ref ps), (.int (own_fp L 3))])) rfl rfl (hb hby at_543)) ?_
    show own_G _ _ _ _ (T1.setTop (mkF m 544 #[s0, s1, s2, s3, s4, s5, s6, s7, s8, s9, s10, s11, s12, s13, s14, s15, s16, s17, s18, s19, .val (.ref ps), .val (.ref es), .val (.int (Int32.ofNat L.length)), .val (.ref fo), .val (.int (1 : Int32))] [(.int (own_fp L 3)), (.int (own_fp L 3))]))
    refine own_st (fun _ k => XS.icmpNo X1.here hx rfl (hb hby at_544) rfl (teq rfl).2 k) ?_
    show own_G _ _ _ _ (T1.setTop (mkF m 547 #[s0, s1, s2, s3, s4, s5, s6, s7, s8, s9, s10, s11, s12, s13, s14, s15, s16, s17, s18, s19, .val (.ref ps), .val (.ref es), .val (.int (Int32.ofNat L.length)), .val (.ref fo), .val (.int (1 : Int32))] []))
    refine own_st (fun _ k => XS.aload X1.here hx rfl (hb hby at_547) rfl rfl k) ?_
    show own_G _ _ _ _ (T1.setTop (mkF m 549 #[s0, s1, s2, s3, s4, s5, s6, s7, s8, s9, s10, s11, s12, s13, s14, s15, s16, s17, s18, s19, .val (.ref ps), .val (.ref es), .val (.int (Int32.ofNat L.length)), .val (.ref fo), .val (.int (1 : Int32))] [(.ref fo)]))
    refine own_st (fun _ k => XS.iconst X1.here hx rfl (hb hby at_549) k) ?_
    show own_G _ _ _ _ (T1.setTop (mkF m 550 #[s0, s1, s2, s3, s4, s5, s6, s7, s8, s9, s10, s11, s12, s13, s14, s15, s16, s17, s18, s19, .val (.ref ps), .val (.ref es), .val (.int (Int32.ofNat L.length)), .val (.ref fo), .val (.int (1 : Int32))] [(.int (3 : Int32)), (.ref fo)]))
    obtain ⟨cq3, kq3, q3a, q3b, q3c⟩ := isOf hZ eh1 Ef
    obtain ⟨_, _, ⟨T3, L3, k3, n3⟩, -, X3, ⟨Lc3, hQ3, l3, y3, z3⟩, st3⟩ := X1.virtualBack hx (y := (⟨"com/example/libfacet/libfacet/exact/Factorization", "exponent", "(I)J"⟩ : MethodName)) (z := (⟨"com/example/libfacet/libfacet/exact/Factorization", "exponent", "(I)J"⟩ : MethodName)) hown (mvT hZ (hw _ (List.mem_of_getElem? (i := 73) rfl))) (mvT hZ (hw _ (List.mem_of_getElem? (i := 74) rfl))) (notFace_of_selects (args := #[]) (mvT hZ (hw _ (List.mem_of_getElem? (i := 76) rfl)))) (mvT hZ (hw _ (List.mem_of_getElem? (i := 76) rfl))) (mvT hZ (hw _ (List.mem_of_getElem? (i := 75) rfl))) (by decide) (own_back (rm := ({ frames := 0, cells := 0, slots := 0, locals := 0 } : Room)) (W := 0) (own_expo l Z a0 hw [] fo te k2 (own_ge L) 3 L.length h0 O0 hj hlen F2 V2) hZ (hw _ (List.mem_of_getElem? (i := 77) rfl)) (hw _ (List.mem_of_getElem? (i := 17) rfl)) (by decide) (by decide)) q3a q3c (g := (mkF m 550 #[s0, s1, s2, s3, s4, s5, s6, s7, s8, s9, s10, s11, s12, s13, s14, s15, s16, s17, s18, s19, .val (.ref ps), .val (.ref es), .val (.int (Int32.ofNat L.length)), .val (.ref fo), .val (.int (1 : Int32))] [(.int (3 : Int32)), (.ref fo)])) rfl (by rw [hml]; rfl) (Steps.refl _) (argsL := [(.int (3 : Int32))]) (rest := []) (lenOf own_pd348 rfl) rfl (by show 2 * 0 + _ ≤ _; exact Nat.le_of_eq rfl) (hb hby at_550) (fun _ _ => ⟨rfl, eh1, hcs, hss⟩)
    dsimp only [Pt.U, Pt.locs, Pt.cells, Pt.slots] at X3 l3 y3 z3 st3 hQ3
    subst l3 y3 z3
    obtain ⟨rfl, N3q, eh3⟩ := hQ3
    have N3 := Fr.app N1 N3q
    refine own_tr st3 ?_
    show own_G _ _ _ _ (T3.setTop (mkF m 553 #[s0, s1, s2, s3, s4, s5, s6, s7, s8, s9, s10, s11, s12, s13, s14, s15, s16, s17, s18, s19, .val (.ref ps), .val (.ref es), .val (.int (Int32.ofNat L.length)), .val (.ref fo), .val (.int (1 : Int32))] [(.long (own_ge L 3))]))
    refine own_st (fun _ k => XS.aload X3.here hx rfl (hb hby at_553) rfl rfl k) ?_
    show own_G _ _ _ _ (T3.setTop (mkF m 555 #[s0, s1, s2, s3, s4, s5, s6, s7, s8, s9, s10, s11, s12, s13, s14, s15, s16, s17, s18, s19, .val (.ref ps), .val (.ref es), .val (.int (Int32.ofNat L.length)), .val (.ref fo), .val (.int (1 : Int32))] [(.ref es), (.long (own_ge L 3))]))
    refine own_st (fun _ k => XS.iconst X3.here hx rfl (hb hby at_555) k) ?_
    show own_G _ _ _ _ (T3.setTop (mkF m 556 #[s0, s1, s2, s3, s4, s5, s6, s7, s8, s9, s10, s11, s12, s13, s14, s15, s16, s17, s18, s19, .val (.ref ps), .val (.ref es), .val (.int (Int32.ofNat L.length)), .val (.ref fo), .val (.int (1 : Int32))] [(.int (3 : Int32)), (.ref es), (.long (own_ge L 3))]))
    obtain ⟨cl4, Ar4, qk4, Sz4, Mz4, Hz4, Uz4⟩ := id Ve
    refine own_st (X3.laload hx (j := (3 : Int32)) (v := (.long (own_ge L 3))) (by rw [eh3]; exact Ar4.1) (State.isArrayOf_alike hZ.alike Ar4.2.1) Ar4.2.2 (own_in (i := 3) (n := 4) Sz4 (by decide) (by decide)) (own_getL (i := 3) (N := 4) Sz4 Hz4 hj hlen (by decide)) (g := (mkF m 556 #[s0, s1, s2, s3, s4, s5, s6, s7, s8, s9, s10, s11, s12, s13, s14, s15, s16, s17, s18, s19, .val (.ref ps), .val (.ref es), .val (.int (Int32.ofNat L.length)), .val (.ref fo), .val (.int (1 : Int32))] [(.int (3 : Int32)), (.ref es), (.long (own_ge L 3))])) rfl rfl (hb hby at_556)) ?_
    show own_G _ _ _ _ (T3.setTop (mkF m 557 #[s0, s1, s2, s3, s4, s5, s6, s7, s8, s9, s10, s11, s12, s13, s14, s15, s16, s17, s18, s19, .val (.ref ps), .val (.ref es), .val (.int (Int32.ofNat L.length)), .val (.ref fo), .val (.int (1 : Int32))] [(.long (own_ge L 3)), (.long (own_ge L 3))]))
    refine own_st (fun _ k => XS.lcmp X3.here hx rfl (hb hby at_557) rfl k) ?_
    show own_G _ _ _ _ (T3.setTop (mkF m 558 #[s0, s1, s2, s3, s4, s5, s6, s7, s8, s9, s10, s11, s12, s13, s14, s15, s16, s17, s18, s19, .val (.ref ps), .val (.ref es), .val (.int (Int32.ofNat L.length)), .val (.ref fo), .val (.int (1 : Int32))] [(.int (lcmpW (own_ge L 3) (own_ge L 3)))]))
    refine own_st (fun _ k => XS.ifNo X3.here hx rfl (hb hby at_558) rfl ((if0 _ _).trans (teq ((lw_eq _ _).mpr rfl)).2) k) ?_
    show own_G _ _ _ _ (T3.setTop (mkF m 561 #[s0, s1, s2, s3, s4, s5, s6, s7, s8, s9, s10, s11, s12, s13, s14, s15, s16, s17, s18, s19, .val (.ref ps), .val (.ref es), .val (.int (Int32.ofNat L.length)), .val (.ref fo), .val (.int (1 : Int32))] []))
    refine own_st (fun _ k => XS.iconst X3.here hx rfl (hb hby at_561) k) ?_
    show own_G _ _ _ _ (T3.setTop (mkF m 562 #[s0, s1, s2, s3, s4, s5, s6, s7, s8, s9, s10, s11, s12, s13, s14, s15, s16, s17, s18, s19, .val (.ref ps), .val (.ref es), .val (.int (Int32.ofNat L.length)), .val (.ref fo), .val (.int (1 : Int32))] [(.int (1 : Int32))]))
    refine own_st (fun _ k => XS.goto X3.here hx rfl (pc0 := 562) (pc' := 566) rfl (hb hby at_562) (by decide) (by decide) k) ?_
    show own_G _ _ _ _ (T3.setTop (mkF m 566 #[s0, s1, s2, s3, s4, s5, s6, s7, s8, s9, s10, s11, s12, s13, s14, s15, s16, s17, s18, s19, .val (.ref ps), .val (.ref es), .val (.int (Int32.ofNat L.length)), .val (.ref fo), .val (.int (1 : Int32))] [(.int (1 : Int32))]))
    refine own_st (fun _ k => XS.istore X3.here hx rfl (hb hby at_566) rfl (l' := #[s0, s1, s2, s3, s4, s5, s6, s7, s8, s9, s10, s11, s12, s13, s14, s15, s16, s17, s18, s19, .val (.ref ps), .val (.ref es), .val (.int (Int32.ofNat L.length)), .val (.ref fo), .val (.int (1 : Int32))]) rfl k) ?_
    show own_G _ _ _ _ (T3.setTop (mkF m 568 #[s0, s1, s2, s3, s4, s5, s6, s7, s8, s9, s10, s11, s12, s13, s14, s15, s16, s17, s18, s19, .val (.ref ps), .val (.ref es), .val (.int (Int32.ofNat L.length)), .val (.ref fo), .val (.int (1 : Int32))] []))
    exact own_ck4 ps es fo tp te kp ke k1 k2 L s0 s1 s2 s3 s4 s5 s6 s7 s8 s9 s10 s11 s12 s13 s14 s15 s16 s17 s18 s19 hx hZ hw hby hml hown X3 eh3 N3 O0 hret hlk hcs hss hlen Vp Ve Ef F1 F2 V1 V2
  · skip
    refine own_st (fun _ k => XS.icmpYes X0.here hx rfl (pc0 := 526) (pc' := 568) rfl (hb hby at_526) rfl (flt (own_nlt (b := L.length) (a := 3) hj (by decide) (by omega))).2.2.2 (by decide) (by decide) k) ?_
    show own_G _ _ _ _ (T0.setTop (mkF m 568 #[s0, s1, s2, s3, s4, s5, s6, s7, s8, s9, s10, s11, s12, s13, s14, s15, s16, s17, s18, s19, .val (.ref ps), .val (.ref es), .val (.int (Int32.ofNat L.length)), .val (.ref fo), .val (.int (1 : Int32))] []))
    exact own_ck4 ps es fo tp te kp ke k1 k2 L s0 s1 s2 s3 s4 s5 s6 s7 s8 s9 s10 s11 s12 s13 s14 s15 s16 s17 s18 s19 hx hZ hw hby hml hown X0 e0 N0 O0 hret hlk hcs hss hlen Vp Ve Ef F1 F2 V1 V2
set_option maxRecDepth 65536 in
set_option maxHeartbeats 40000000 in
theorem own_ck2 {p : Program} {l : Launch} {e : Env} {s : State} {m : MethodId} {args : Array Value} {below : List Frame} {meth : Method} {c : Code} {Z : State} {a0 : Array Value} {locs : List Loc} {cells slots : Nat} {T0 : State} {h0 : Heap}  (ps es fo tp te : Addr) (kp ke k1 k2 : ClassId) (L : List (Nat × Nat)) (s0 s1 s2 s3 s4 s5 s6 s7 s8 s9 s10 s11 s12 s13 s14 s15 s16 s17 s18 s19 : Slot) (hx : p.tables.exec = Jvm.exec) (hZ : Z.Warmed39 s.vm) (hw : ∀ d ∈ tables_1, d.before a0 Z = true) (hby : c.code = code) (hml : c.maxLocals = 25) (hown : s.vm.findClass "com/example/libfacet/libfacet/exact/FactorizationOfPinLaw" = some m.cls) (X0 : Stand p l e room_1 s m args below meth c T0 locs cells slots) (e0 : T0.heap = h0) (N0 : Fr Z.heap.size locs) (O0 : Old Z Z.heap.size h0) (hret : meth.sig.returnType = some .boolean) (hlk : meth.locks = false) (hcs : cells ≤ 32) (hss : slots ≤ 320) (hlen : L.length ≤ 4) (Vp : Arv Z h0 ps kp .int (Int32.ofNat 4) (own_vals (own_fp L) L.length) (.int (0 : Int32))) (Ve : Arv Z h0 es ke .long (Int32.ofNat 4) (own_valsL (own_ge L) L.length) (.long (0 : Int64))) (Ef : Exa Z h0 fo "com/example/libfacet/libfacet/exact/Factorization") (F1 : Fld Z h0 fo "com/example/libfacet/libfacet/exact/Factorization" "primes" "[I" (.ref tp)) (F2 : Fld Z h0 fo "com/example/libfacet/libfacet/exact/Factorization" "exponents" "[J" (.ref te)) (V1 : Arv Z h0 tp k1 .int (Int32.ofNat L.length) (own_vals (own_fp L) L.length) (.int (0 : Int32))) (V2 : Arv Z h0 te k2 .long (Int32.ofNat L.length) (own_valsL (own_ge L) L.length) (.long (0 : Int64)))
     :
    own_G p.tables e below (own_F s below (fun v h L => v = some (.int 1) ∧ Fr Z.heap.size L) 32 320) (T0.setTop (mkF m 478 #[s0, s1, s2, s3, s4, s5, s6, s7, s8, s9, s10, s11, s12, s13, s14, s15, s16, s17, s18, s19, .val (.ref ps), .val (.ref es), .val (.int (Int32.ofNat L.length)), .val (.ref fo), .val (.int (1 : Int32))] [])) := by
  have z0 : Z.heap.size ≤ h0.size := O0.2.1
  have Kr := Keep.refl h0 []
  show own_G _ _ _ _ (T0.setTop (mkF m 478 #[s0, s1, s2, s3, s4, s5, s6, s7, s8, s9, s10, s11, s12, s13, s14, s15, s16, s17, s18, s19, .val (.ref ps), .val (.ref es), .val (.int (Int32.ofNat L.length)), .val (.ref fo), .val (.int (1 : Int32))] []))
  refine own_st (fun _ k => XS.iload X0.here hx rfl (hb hby at_478) rfl k) ?_
  show own_G _ _ _ _ (T0.setTop (mkF m 480 #[s0, s1, s2, s3, s4, s5, s6, s7, s8, s9, s10, s11, s12, s13, s14, s15, s16, s17, s18, s19, .val (.ref ps), .val (.ref es), .val (.int (Int32.ofNat L.length)), .val (.ref fo), .val (.int (1 : Int32))] [(.int (Int32.ofNat L.length))]))
  refine own_st (fun _ k => XS.iconst X0.here hx rfl (hb hby at_480) k) ?_
  show own_G _ _ _ _ (T0.setTop (mkF m 481 #[s0, s1, s2, s3, s4, s5, s6, s7, s8, s9, s10, s11, s12, s13, s14, s15, s16, s17, s18, s19, .val (.ref ps), .val (.ref es), .val (.int (Int32.ofNat L.length)), .val (.ref fo), .val (.int (1 : Int32))] [(.int (2 : Int32)), (.int (Int32.ofNat L.length))]))
  by_cases hj : 2 < L.length
  · skip
    refine own_st (fun _ k => XS.icmpNo X0.here hx rfl (hb hby at_481) rfl (tlt (own_lt (i := 2) hj (by omega))).2.2.2 k) ?_
    show own_G _ _ _ _ (T0.setTop (mkF m 484 #[s0, s1, s2, s3, s4, s5, s6, s7, s8, s9, s10, s11, s12, s13, s14, s15, s16, s17, s18, s19, .val (.ref ps), .val (.ref es), .val (.int (Int32.ofNat L.length)), .val (.ref fo), .val (.int (1 : Int32))] []))
    refine own_st (fun _ k => XS.iload X0.here hx rfl (hb hby at_484) rfl k) ?_
    show own_G _ _ _ _ (T0.setTop (mkF m 486 #[s0, s1, s2, s3, s4, s5, s6, s7, s8, s9, s10, s11, s12, s13, s14, s15, s16, s17, s18, s19, .val (.ref ps), .val (.ref es), .val (.int (Int32.ofNat L.length)), .val (.ref fo), .val (.int (1 : Int32))] [(.int (1 : Int32))]))
    refine own_st (fun _ k => XS.ifNo X0.here hx rfl (hb hby at_486) rfl ((if0 _ _).trans (feq (by decide)).1) k) ?_
    show own_G _ _ _ _ (T0.setTop (mkF m 489 #[s0, s1, s2, s3, s4, s5, s6, s7, s8, s9, s10, s11, s12, s13, s14, s15, s16, s17, s18, s19, .val (.ref ps), .val (.ref es), .val (.int (Int32.ofNat L.length)), .val (.ref fo), .val (.int (1 : Int32))] []))
    refine own_st (fun _ k => XS.aload X0.here hx rfl (hb hby at_489) rfl rfl k) ?_
    show own_G _ _ _ _ (T0.setTop (mkF m 491 #[s0, s1, s2, s3, s4, s5, s6, s7, s8, s9, s10, s11, s12, s13, s14, s15, s16, s17, s18, s19, .val (.ref ps), .val (.ref es), .val (.int (Int32.ofNat L.length)), .val (.ref fo), .val (.int (1 : Int32))] [(.ref fo)]))
    refine own_st (fun _ k => XS.iconst X0.here hx rfl (hb hby at_491) k) ?_
    show own_G _ _ _ _ (T0.setTop (mkF m 492 #[s0, s1, s2, s3, s4, s5, s6, s7, s8, s9, s10, s11, s12, s13, s14, s15, s16, s17, s18, s19, .val (.ref ps), .val (.ref es), .val (.int (Int32.ofNat L.length)), .val (.ref fo), .val (.int (1 : Int32))] [(.int (2 : Int32)), (.ref fo)]))
    obtain ⟨cq1, kq1, q1a, q1b, q1c⟩ := isOf hZ e0 Ef
    obtain ⟨_, _, ⟨T1, L1, k1, n1⟩, -, X1, ⟨Lc1, hQ1, l1, y1, z1⟩, st1⟩ := X0.virtualBack hx (y := (⟨"com/example/libfacet/libfacet/exact/Factorization", "prime", "(I)I"⟩ : MethodName)) (z := (⟨"com/example/libfacet/libfacet/exact/Factorization", "prime", "(I)I"⟩ : MethodName)) hown (mvT hZ (hw _ (List.mem_of_getElem? (i := 68) rfl))) (mvT hZ (hw _ (List.mem_of_getElem? (i := 69) rfl))) (notFace_of_selects (args := #[]) (mvT hZ (hw _ (List.mem_of_getElem? (i := 71) rfl)))) (mvT hZ (hw _ (List.mem_of_getElem? (i := 71) rfl))) (mvT hZ (hw _ (List.mem_of_getElem? (i := 70) rfl))) (by decide) (own_back (rm := ({ frames := 0, cells := 0, slots := 0, locals := 0 } : Room)) (W := 0) (own_prime l Z a0 hw [] fo tp k1 (own_fp L) 2 L.length h0 O0 hj hlen F1 V1) hZ (hw _ (List.mem_of_getElem? (i := 72) rfl)) (hw _ (List.mem_of_getElem? (i := 17) rfl)) (by decide) (by decide)) q1a q1c (g := (mkF m 492 #[s0, s1, s2, s3, s4, s5, s6, s7, s8, s9, s10, s11, s12, s13, s14, s15, s16, s17, s18, s19, .val (.ref ps), .val (.ref es), .val (.int (Int32.ofNat L.length)), .val (.ref fo), .val (.int (1 : Int32))] [(.int (2 : Int32)), (.ref fo)])) rfl (by rw [hml]; rfl) (Steps.refl _) (argsL := [(.int (2 : Int32))]) (rest := []) (lenOf own_pd340 rfl) rfl (by show 2 * 0 + _ ≤ _; exact Nat.le_of_eq rfl) (hb hby at_492) (fun _ _ => ⟨rfl, e0, hcs, hss⟩)
    dsimp only [Pt.U, Pt.locs, Pt.cells, Pt.slots] at X1 l1 y1 z1 st1 hQ1
    subst l1 y1 z1
    obtain ⟨rfl, N1q, eh1⟩ := hQ1
    have N1 := Fr.app N0 N1q
    refine own_tr st1 ?_
    show own_G _ _ _ _ (T1.setTop (mkF m 495 #[s0, s1, s2, s3, s4, s5, s6, s7, s8, s9, s10, s11, s12, s13, s14, s15, s16, s17, s18, s19, .val (.ref ps), .val (.ref es), .val (.int (Int32.ofNat L.length)), .val (.ref fo), .val (.int (1 : Int32))] [(.int (own_fp L 2))]))
    refine own_st (fun _ k => XS.aload X1.here hx rfl (hb hby at_495) rfl rfl k) ?_
    show own_G _ _ _ _ (T1.setTop (mkF m 497 #[s0, s1, s2, s3, s4, s5, s6, s7, s8, s9, s10, s11, s12, s13, s14, s15, s16, s17, s18, s19, .val (.ref ps), .val (.ref es), .val (.int (Int32.ofNat L.length)), .val (.ref fo), .val (.int (1 : Int32))] [(.ref ps), (.int (own_fp L 2))]))
    refine own_st (fun _ k => XS.iconst X1.here hx rfl (hb hby at_497) k) ?_
    show own_G _ _ _ _ (T1.setTop (mkF m 498 #[s0, s1, s2, s3, s4, s5, s6, s7, s8, s9, s10, s11, s12, s13, s14, s15, s16, s17, s18, s19, .val (.ref ps), .val (.ref es), .val (.int (Int32.ofNat L.length)), .val (.ref fo), .val (.int (1 : Int32))] [(.int (2 : Int32)), (.ref ps), (.int (own_fp L 2))]))
    obtain ⟨cl2, Ar2, qk2, Sz2, Mz2, Hz2, Uz2⟩ := id Vp
    refine own_st (X1.iaload hx (j := (2 : Int32)) (v := (.int (own_fp L 2))) (by rw [eh1]; exact Ar2.1) (State.isArrayOf_alike hZ.alike Ar2.2.1) Ar2.2.2 (own_in (i := 2) (n := 4) Sz2 (by decide) (by decide)) (own_get (i := 2) (N := 4) Sz2 Hz2 hj hlen (by decide)) (g := (mkF m 498 #[s0, s1, s2, s3, s4, s5, s6, s7, s8, s9, s10, s11, s12, s13, s14, s15, s16, s17, s18, s19, .val (.ref ps), .val (.ref es), .val (.int (Int32.ofNat L.length)), .val (.ref fo), .val (.int (1 : Int32))] [(.int (2 : Int32)), (.ref ps), (.int (own_fp L 2))])) rfl rfl (hb hby at_498)) ?_
    show own_G _ _ _ _ (T1.setTop (mkF m 499 #[s0, s1, s2, s3, s4, s5, s6, s7, s8, s9, s10, s11, s12, s13, s14, s15, s16, s17, s18, s19, .val (.ref ps), .val (.ref es), .val (.int (Int32.ofNat L.length)), .val (.ref fo), .val (.int (1 : Int32))] [(.int (own_fp L 2)), (.int (own_fp L 2))]))
    refine own_st (fun _ k => XS.icmpNo X1.here hx rfl (hb hby at_499) rfl (teq rfl).2 k) ?_
    show own_G _ _ _ _ (T1.setTop (mkF m 502 #[s0, s1, s2, s3, s4, s5, s6, s7, s8, s9, s10, s11, s12, s13, s14, s15, s16, s17, s18, s19, .val (.ref ps), .val (.ref es), .val (.int (Int32.ofNat L.length)), .val (.ref fo), .val (.int (1 : Int32))] []))
    refine own_st (fun _ k => XS.aload X1.here hx rfl (hb hby at_502) rfl rfl k) ?_
    show own_G _ _ _ _ (T1.setTop (mkF m 504 #[s0, s1, s2, s3, s4, s5, s6, s7, s8, s9, s10, s11, s12, s13, s14, s15, s16, s17, s18, s19, .val (.ref ps), .val (.ref es), .val (.int (Int32.ofNat L.length)), .val (.ref fo), .val (.int (1 : Int32))] [(.ref fo)]))
    refine own_st (fun _ k => XS.iconst X1.here hx rfl (hb hby at_504) k) ?_
    show own_G _ _ _ _ (T1.setTop (mkF m 505 #[s0, s1, s2, s3, s4, s5, s6, s7, s8, s9, s10, s11, s12, s13, s14, s15, s16, s17, s18, s19, .val (.ref ps), .val (.ref es), .val (.int (Int32.ofNat L.length)), .val (.ref fo), .val (.int (1 : Int32))] [(.int (2 : Int32)), (.ref fo)]))
    obtain ⟨cq3, kq3, q3a, q3b, q3c⟩ := isOf hZ eh1 Ef
    obtain ⟨_, _, ⟨T3, L3, k3, n3⟩, -, X3, ⟨Lc3, hQ3, l3, y3, z3⟩, st3⟩ := X1.virtualBack hx (y := (⟨"com/example/libfacet/libfacet/exact/Factorization", "exponent", "(I)J"⟩ : MethodName)) (z := (⟨"com/example/libfacet/libfacet/exact/Factorization", "exponent", "(I)J"⟩ : MethodName)) hown (mvT hZ (hw _ (List.mem_of_getElem? (i := 73) rfl))) (mvT hZ (hw _ (List.mem_of_getElem? (i := 74) rfl))) (notFace_of_selects (args := #[]) (mvT hZ (hw _ (List.mem_of_getElem? (i := 76) rfl)))) (mvT hZ (hw _ (List.mem_of_getElem? (i := 76) rfl))) (mvT hZ (hw _ (List.mem_of_getElem? (i := 75) rfl))) (by decide) (own_back (rm := ({ frames := 0, cells := 0, slots := 0, locals := 0 } : Room)) (W := 0) (own_expo l Z a0 hw [] fo te k2 (own_ge L) 2 L.length h0 O0 hj hlen F2 V2) hZ (hw _ (List.mem_of_getElem? (i := 77) rfl)) (hw _ (List.mem_of_getElem? (i := 17) rfl)) (by decide) (by decide)) q3a q3c (g := (mkF m 505 #[s0, s1, s2, s3, s4, s5, s6, s7, s8, s9, s10, s11, s12, s13, s14, s15, s16, s17, s18, s19, .val (.ref ps), .val (.ref es), .val (.int (Int32.ofNat L.length)), .val (.ref fo), .val (.int (1 : Int32))] [(.int (2 : Int32)), (.ref fo)])) rfl (by rw [hml]; rfl) (Steps.refl _) (argsL := [(.int (2 : Int32))]) (rest := []) (lenOf own_pd348 rfl) rfl (by show 2 * 0 + _ ≤ _; exact Nat.le_of_eq rfl) (hb hby at_505) (fun _ _ => ⟨rfl, eh1, hcs, hss⟩)
    dsimp only [Pt.U, Pt.locs, Pt.cells, Pt.slots] at X3 l3 y3 z3 st3 hQ3
    subst l3 y3 z3
    obtain ⟨rfl, N3q, eh3⟩ := hQ3
    have N3 := Fr.app N1 N3q
    refine own_tr st3 ?_
    show own_G _ _ _ _ (T3.setTop (mkF m 508 #[s0, s1, s2, s3, s4, s5, s6, s7, s8, s9, s10, s11, s12, s13, s14, s15, s16, s17, s18, s19, .val (.ref ps), .val (.ref es), .val (.int (Int32.ofNat L.length)), .val (.ref fo), .val (.int (1 : Int32))] [(.long (own_ge L 2))]))
    refine own_st (fun _ k => XS.aload X3.here hx rfl (hb hby at_508) rfl rfl k) ?_
    show own_G _ _ _ _ (T3.setTop (mkF m 510 #[s0, s1, s2, s3, s4, s5, s6, s7, s8, s9, s10, s11, s12, s13, s14, s15, s16, s17, s18, s19, .val (.ref ps), .val (.ref es), .val (.int (Int32.ofNat L.length)), .val (.ref fo), .val (.int (1 : Int32))] [(.ref es), (.long (own_ge L 2))]))
    refine own_st (fun _ k => XS.iconst X3.here hx rfl (hb hby at_510) k) ?_
    show own_G _ _ _ _ (T3.setTop (mkF m 511 #[s0, s1, s2, s3, s4, s5, s6, s7, s8, s9, s10, s11, s12, s13, s14, s15, s16, s17, s18, s19, .val (.ref ps), .val (.ref es), .val (.int (Int32.ofNat L.length)), .val (.ref fo), .val (.int (1 : Int32))] [(.int (2 : Int32)), (.ref es), (.long (own_ge L 2))]))
    obtain ⟨cl4, Ar4, qk4, Sz4, Mz4, Hz4, Uz4⟩ := id Ve
    refine own_st (X3.laload hx (j := (2 : Int32)) (v := (.long (own_ge L 2))) (by rw [eh3]; exact Ar4.1) (State.isArrayOf_alike hZ.alike Ar4.2.1) Ar4.2.2 (own_in (i := 2) (n := 4) Sz4 (by decide) (by decide)) (own_getL (i := 2) (N := 4) Sz4 Hz4 hj hlen (by decide)) (g := (mkF m 511 #[s0, s1, s2, s3, s4, s5, s6, s7, s8, s9, s10, s11, s12, s13, s14, s15, s16, s17, s18, s19, .val (.ref ps), .val (.ref es), .val (.int (Int32.ofNat L.length)), .val (.ref fo), .val (.int (1 : Int32))] [(.int (2 : Int32)), (.ref es), (.long (own_ge L 2))])) rfl rfl (hb hby at_511)) ?_
    show own_G _ _ _ _ (T3.setTop (mkF m 512 #[s0, s1, s2, s3, s4, s5, s6, s7, s8, s9, s10, s11, s12, s13, s14, s15, s16, s17, s18, s19, .val (.ref ps), .val (.ref es), .val (.int (Int32.ofNat L.length)), .val (.ref fo), .val (.int (1 : Int32))] [(.long (own_ge L 2)), (.long (own_ge L 2))]))
    refine own_st (fun _ k => XS.lcmp X3.here hx rfl (hb hby at_512) rfl k) ?_
    show own_G _ _ _ _ (T3.setTop (mkF m 513 #[s0, s1, s2, s3, s4, s5, s6, s7, s8, s9, s10, s11, s12, s13, s14, s15, s16, s17, s18, s19, .val (.ref ps), .val (.ref es), .val (.int (Int32.ofNat L.length)), .val (.ref fo), .val (.int (1 : Int32))] [(.int (lcmpW (own_ge L 2) (own_ge L 2)))]))
    refine own_st (fun _ k => XS.ifNo X3.here hx rfl (hb hby at_513) rfl ((if0 _ _).trans (teq ((lw_eq _ _).mpr rfl)).2) k) ?_
    show own_G _ _ _ _ (T3.setTop (mkF m 516 #[s0, s1, s2, s3, s4, s5, s6, s7, s8, s9, s10, s11, s12, s13, s14, s15, s16, s17, s18, s19, .val (.ref ps), .val (.ref es), .val (.int (Int32.ofNat L.length)), .val (.ref fo), .val (.int (1 : Int32))] []))
    refine own_st (fun _ k => XS.iconst X3.here hx rfl (hb hby at_516) k) ?_
    show own_G _ _ _ _ (T3.setTop (mkF m 517 #[s0, s1, s2, s3, s4, s5, s6, s7, s8, s9, s10, s11, s12, s13, s14, s15, s16, s17, s18, s19, .val (.ref ps), .val (.ref es), .val (.int (Int32.ofNat L.length)), .val (.ref fo), .val (.int (1 : Int32))] [(.int (1 : Int32))]))
    refine own_st (fun _ k => XS.goto X3.here hx rfl (pc0 := 517) (pc' := 521) rfl (hb hby at_517) (by decide) (by decide) k) ?_
    show own_G _ _ _ _ (T3.setTop (mkF m 521 #[s0, s1, s2, s3, s4, s5, s6, s7, s8, s9, s10, s11, s12, s13, s14, s15, s16, s17, s18, s19, .val (.ref ps), .val (.ref es), .val (.int (Int32.ofNat L.length)), .val (.ref fo), .val (.int (1 : Int32))] [(.int (1 : Int32))]))
    refine own_st (fun _ k => XS.istore X3.here hx rfl (hb hby at_521) rfl (l' := #[s0, s1, s2, s3, s4, s5, s6, s7, s8, s9, s10, s11, s12, s13, s14, s15, s16, s17, s18, s19, .val (.ref ps), .val (.ref es), .val (.int (Int32.ofNat L.length)), .val (.ref fo), .val (.int (1 : Int32))]) rfl k) ?_
    show own_G _ _ _ _ (T3.setTop (mkF m 523 #[s0, s1, s2, s3, s4, s5, s6, s7, s8, s9, s10, s11, s12, s13, s14, s15, s16, s17, s18, s19, .val (.ref ps), .val (.ref es), .val (.int (Int32.ofNat L.length)), .val (.ref fo), .val (.int (1 : Int32))] []))
    exact own_ck3 ps es fo tp te kp ke k1 k2 L s0 s1 s2 s3 s4 s5 s6 s7 s8 s9 s10 s11 s12 s13 s14 s15 s16 s17 s18 s19 hx hZ hw hby hml hown X3 eh3 N3 O0 hret hlk hcs hss hlen Vp Ve Ef F1 F2 V1 V2
  · skip
    refine own_st (fun _ k => XS.icmpYes X0.here hx rfl (pc0 := 481) (pc' := 523) rfl (hb hby at_481) rfl (flt (own_nlt (b := L.length) (a := 2) hj (by decide) (by omega))).2.2.2 (by decide) (by decide) k) ?_
    show own_G _ _ _ _ (T0.setTop (mkF m 523 #[s0, s1, s2, s3, s4, s5, s6, s7, s8, s9, s10, s11, s12, s13, s14, s15, s16, s17, s18, s19, .val (.ref ps), .val (.ref es), .val (.int (Int32.ofNat L.length)), .val (.ref fo), .val (.int (1 : Int32))] []))
    exact own_ck3 ps es fo tp te kp ke k1 k2 L s0 s1 s2 s3 s4 s5 s6 s7 s8 s9 s10 s11 s12 s13 s14 s15 s16 s17 s18 s19 hx hZ hw hby hml hown X0 e0 N0 O0 hret hlk hcs hss hlen Vp Ve Ef F1 F2 V1 V2
set_option maxRecDepth 65536 in
set_option maxHeartbeats 40000000 in
theorem own_ck1 {p : Program} {l : Launch} {e : Env} {s : State} {m : MethodId} {args : Array Value} {below : List Frame} {meth : Method} {c : Code} {Z : State} {a0 : Array Value} {locs : List Loc} {cells slots : Nat} {T0 : State} {h0 : Heap}  (ps es fo tp te : Addr) (kp ke k1 k2 : ClassId) (L : List (Nat × Nat)) (s0 s1 s2 s3 s4 s5 s6 s7 s8 s9 s10 s11 s12 s13 s14 s15 s16 s17 s18 s19 : Slot) (hx : p.tables.exec = Jvm.exec) (hZ : Z.Warmed39 s.vm) (hw : ∀ d ∈ tables_1, d.before a0 Z = true) (hby : c.code = code) (hml : c.maxLocals = 25) (hown : s.vm.findClass "com/example/libfacet/libfacet/exact/FactorizationOfPinLaw" = some m.cls) (X0 : Stand p l e room_1 s m args below meth c T0 locs cells slots) (e0 : T0.heap = h0) (N0 : Fr Z.heap.size locs) (O0 : Old Z Z.heap.size h0) (hret : meth.sig.returnType = some .boolean) (hlk : meth.locks = false) (hcs : cells ≤ 32) (hss : slots ≤ 320) (hlen : L.length ≤ 4) (Vp : Arv Z h0 ps kp .int (Int32.ofNat 4) (own_vals (own_fp L) L.length) (.int (0 : Int32))) (Ve : Arv Z h0 es ke .long (Int32.ofNat 4) (own_valsL (own_ge L) L.length) (.long (0 : Int64))) (Ef : Exa Z h0 fo "com/example/libfacet/libfacet/exact/Factorization") (F1 : Fld Z h0 fo "com/example/libfacet/libfacet/exact/Factorization" "primes" "[I" (.ref tp)) (F2 : Fld Z h0 fo "com/example/libfacet/libfacet/exact/Factorization" "exponents" "[J" (.ref te)) (V1 : Arv Z h0 tp k1 .int (Int32.ofNat L.length) (own_vals (own_fp L) L.length) (.int (0 : Int32))) (V2 : Arv Z h0 te k2 .long (Int32.ofNat L.length) (own_valsL (own_ge L) L.length) (.long (0 : Int64)))
     :
    own_G p.tables e below (own_F s below (fun v h L => v = some (.int 1) ∧ Fr Z.heap.size L) 32 320) (T0.setTop (mkF m 433 #[s0, s1, s2, s3, s4, s5, s6, s7, s8, s9, s10, s11, s12, s13, s14, s15, s16, s17, s18, s19, .val (.ref ps), .val (.ref es), .val (.int (Int32.ofNat L.length)), .val (.ref fo), .val (.int (1 : Int32))] [])) := by
  have z0 : Z.heap.size ≤ h0.size := O0.2.1
  have Kr := Keep.refl h0 []
  show own_G _ _ _ _ (T0.setTop (mkF m 433 #[s0, s1, s2, s3, s4, s5, s6, s7, s8, s9, s10, s11, s12, s13, s14, s15, s16, s17, s18, s19, .val (.ref ps), .val (.ref es), .val (.int (Int32.ofNat L.length)), .val (.ref fo), .val (.int (1 : Int32))] []))
  refine own_st (fun _ k => XS.iload X0.here hx rfl (hb hby at_433) rfl k) ?_
  show own_G _ _ _ _ (T0.setTop (mkF m 435 #[s0, s1, s2, s3, s4, s5, s6, s7, s8, s9, s10, s11, s12, s13, s14, s15, s16, s17, s18, s19, .val (.ref ps), .val (.ref es), .val (.int (Int32.ofNat L.length)), .val (.ref fo), .val (.int (1 : Int32))] [(.int (Int32.ofNat L.length))]))
  refine own_st (fun _ k => XS.iconst X0.here hx rfl (hb hby at_435) k) ?_
  show own_G _ _ _ _ (T0.setTop (mkF m 436 #[s0, s1, s2, s3, s4, s5, s6, s7, s8, s9, s10, s11, s12, s13, s14, s15, s16, s17, s18, s19, .val (.ref ps), .val (.ref es), .val (.int (Int32.ofNat L.length)), .val (.ref fo), .val (.int (1 : Int32))] [(.int (1 : Int32)), (.int (Int32.ofNat L.length))]))
  by_cases hj : 1 < L.length
  · skip
    refine own_st (fun _ k => XS.icmpNo X0.here hx rfl (hb hby at_436) rfl (tlt (own_lt (i := 1) hj (by omega))).2.2.2 k) ?_
    show own_G _ _ _ _ (T0.setTop (mkF m 439 #[s0, s1, s2, s3, s4, s5, s6, s7, s8, s9, s10, s11, s12, s13, s14, s15, s16, s17, s18, s19, .val (.ref ps), .val (.ref es), .val (.int (Int32.ofNat L.length)), .val (.ref fo), .val (.int (1 : Int32))] []))
    refine own_st (fun _ k => XS.iload X0.here hx rfl (hb hby at_439) rfl k) ?_
    show own_G _ _ _ _ (T0.setTop (mkF m 441 #[s0, s1, s2, s3, s4, s5, s6, s7, s8, s9, s10, s11, s12, s13, s14, s15, s16, s17, s18, s19, .val (.ref ps), .val (.ref es), .val (.int (Int32.ofNat L.length)), .val (.ref fo), .val (.int (1 : Int32))] [(.int (1 : Int32))]))
    refine own_st (fun _ k => XS.ifNo X0.here hx rfl (hb hby at_441) rfl ((if0 _ _).trans (feq (by decide)).1) k) ?_
    show own_G _ _ _ _ (T0.setTop (mkF m 444 #[s0, s1, s2, s3, s4, s5, s6, s7, s8, s9, s10, s11, s12, s13, s14, s15, s16, s17, s18, s19, .val (.ref ps), .val (.ref es), .val (.int (Int32.ofNat L.length)), .val (.ref fo), .val (.int (1 : Int32))] []))
    refine own_st (fun _ k => XS.aload X0.here hx rfl (hb hby at_444) rfl rfl k) ?_
    show own_G _ _ _ _ (T0.setTop (mkF m 446 #[s0, s1, s2, s3, s4, s5, s6, s7, s8, s9, s10, s11, s12, s13, s14, s15, s16, s17, s18, s19, .val (.ref ps), .val (.ref es), .val (.int (Int32.ofNat L.length)), .val (.ref fo), .val (.int (1 : Int32))] [(.ref fo)]))
    refine own_st (fun _ k => XS.iconst X0.here hx rfl (hb hby at_446) k) ?_
    show own_G _ _ _ _ (T0.setTop (mkF m 447 #[s0, s1, s2, s3, s4, s5, s6, s7, s8, s9, s10, s11, s12, s13, s14, s15, s16, s17, s18, s19, .val (.ref ps), .val (.ref es), .val (.int (Int32.ofNat L.length)), .val (.ref fo), .val (.int (1 : Int32))] [(.int (1 : Int32)), (.ref fo)]))
    obtain ⟨cq1, kq1, q1a, q1b, q1c⟩ := isOf hZ e0 Ef
    obtain ⟨_, _, ⟨T1, L1, k1, n1⟩, -, X1, ⟨Lc1, hQ1, l1, y1, z1⟩, st1⟩ := X0.virtualBack hx (y := (⟨"com/example/libfacet/libfacet/exact/Factorization", "prime", "(I)I"⟩ : MethodName)) (z := (⟨"com/example/libfacet/libfacet/exact/Factorization", "prime", "(I)I"⟩ : MethodName)) hown (mvT hZ (hw _ (List.mem_of_getElem? (i := 68) rfl))) (mvT hZ (hw _ (List.mem_of_getElem? (i := 69) rfl))) (notFace_of_selects (args := #[]) (mvT hZ (hw _ (List.mem_of_getElem? (i := 71) rfl)))) (mvT hZ (hw _ (List.mem_of_getElem? (i := 71) rfl))) (mvT hZ (hw _ (List.mem_of_getElem? (i := 70) rfl))) (by decide) (own_back (rm := ({ frames := 0, cells := 0, slots := 0, locals := 0 } : Room)) (W := 0) (own_prime l Z a0 hw [] fo tp k1 (own_fp L) 1 L.length h0 O0 hj hlen F1 V1) hZ (hw _ (List.mem_of_getElem? (i := 72) rfl)) (hw _ (List.mem_of_getElem? (i := 17) rfl)) (by decide) (by decide)) q1a q1c (g := (mkF m 447 #[s0, s1, s2, s3, s4, s5, s6, s7, s8, s9, s10, s11, s12, s13, s14, s15, s16, s17, s18, s19, .val (.ref ps), .val (.ref es), .val (.int (Int32.ofNat L.length)), .val (.ref fo), .val (.int (1 : Int32))] [(.int (1 : Int32)), (.ref fo)])) rfl (by rw [hml]; rfl) (Steps.refl _) (argsL := [(.int (1 : Int32))]) (rest := []) (lenOf own_pd340 rfl) rfl (by show 2 * 0 + _ ≤ _; exact Nat.le_of_eq rfl) (hb hby at_447) (fun _ _ => ⟨rfl, e0, hcs, hss⟩)
    dsimp only [Pt.U, Pt.locs, Pt.cells, Pt.slots] at X1 l1 y1 z1 st1 hQ1
    subst l1 y1 z1
    obtain ⟨rfl, N1q, eh1⟩ := hQ1
    have N1 := Fr.app N0 N1q
    refine own_tr st1 ?_
    show own_G _ _ _ _ (T1.setTop (mkF m 450 #[s0, s1, s2, s3, s4, s5, s6, s7, s8, s9, s10, s11, s12, s13, s14, s15, s16, s17, s18, s19, .val (.ref ps), .val (.ref es), .val (.int (Int32.ofNat L.length)), .val (.ref fo), .val (.int (1 : Int32))] [(.int (own_fp L 1))]))
    refine own_st (fun _ k => XS.aload X1.here hx rfl (hb hby at_450) rfl rfl k) ?_
    show own_G _ _ _ _ (T1.setTop (mkF m 452 #[s0, s1, s2, s3, s4, s5, s6, s7, s8, s9, s10, s11, s12, s13, s14, s15, s16, s17, s18, s19, .val (.ref ps), .val (.ref es), .val (.int (Int32.ofNat L.length)), .val (.ref fo), .val (.int (1 : Int32))] [(.ref ps), (.int (own_fp L 1))]))
    refine own_st (fun _ k => XS.iconst X1.here hx rfl (hb hby at_452) k) ?_
    show own_G _ _ _ _ (T1.setTop (mkF m 453 #[s0, s1, s2, s3, s4, s5, s6, s7, s8, s9, s10, s11, s12, s13, s14, s15, s16, s17, s18, s19, .val (.ref ps), .val (.ref es), .val (.int (Int32.ofNat L.length)), .val (.ref fo), .val (.int (1 : Int32))] [(.int (1 : Int32)), (.ref ps), (.int (own_fp L 1))]))
    obtain ⟨cl2, Ar2, qk2, Sz2, Mz2, Hz2, Uz2⟩ := id Vp
    refine own_st (X1.iaload hx (j := (1 : Int32)) (v := (.int (own_fp L 1))) (by rw [eh1]; exact Ar2.1) (State.isArrayOf_alike hZ.alike Ar2.2.1) Ar2.2.2 (own_in (i := 1) (n := 4) Sz2 (by decide) (by decide)) (own_get (i := 1) (N := 4) Sz2 Hz2 hj hlen (by decide)) (g := (mkF m 453 #[s0, s1, s2, s3, s4, s5, s6, s7, s8, s9, s10, s11, s12, s13, s14, s15, s16, s17, s18, s19, .val (.ref ps), .val (.ref es), .val (.int (Int32.ofNat L.length)), .val (.ref fo), .val (.int (1 : Int32))] [(.int (1 : Int32)), (.ref ps), (.int (own_fp L 1))])) rfl rfl (hb hby at_453)) ?_
    show own_G _ _ _ _ (T1.setTop (mkF m 454 #[s0, s1, s2, s3, s4, s5, s6, s7, s8, s9, s10, s11, s12, s13, s14, s15, s16, s17, s18, s19, .val (.ref ps), .val (.ref es), .val (.int (Int32.ofNat L.length)), .val (.ref fo), .val (.int (1 : Int32))] [(.int (own_fp L 1)), (.int (own_fp L 1))]))
    refine own_st (fun _ k => XS.icmpNo X1.here hx rfl (hb hby at_454) rfl (teq rfl).2 k) ?_
    show own_G _ _ _ _ (T1.setTop (mkF m 457 #[s0, s1, s2, s3, s4, s5, s6, s7, s8, s9, s10, s11, s12, s13, s14, s15, s16, s17, s18, s19, .val (.ref ps), .val (.ref es), .val (.int (Int32.ofNat L.length)), .val (.ref fo), .val (.int (1 : Int32))] []))
    refine own_st (fun _ k => XS.aload X1.here hx rfl (hb hby at_457) rfl rfl k) ?_
    show own_G _ _ _ _ (T1.setTop (mkF m 459 #[s0, s1, s2, s3, s4, s5, s6, s7, s8, s9, s10, s11, s12, s13, s14, s15, s16, s17, s18, s19, .val (.ref ps), .val (.ref es), .val (.int (Int32.ofNat L.length)), .val (.ref fo), .val (.int (1 : Int32))] [(.ref fo)]))
    refine own_st (fun _ k => XS.iconst X1.here hx rfl (hb hby at_459) k) ?_
    show own_G _ _ _ _ (T1.setTop (mkF m 460 #[s0, s1, s2, s3, s4, s5, s6, s7, s8, s9, s10, s11, s12, s13, s14, s15, s16, s17, s18, s19, .val (.ref ps), .val (.ref es), .val (.int (Int32.ofNat L.length)), .val (.ref fo), .val (.int (1 : Int32))] [(.int (1 : Int32)), (.ref fo)]))
    obtain ⟨cq3, kq3, q3a, q3b, q3c⟩ := isOf hZ eh1 Ef
    obtain ⟨_, _, ⟨T3, L3, k3, n3⟩, -, X3, ⟨Lc3, hQ3, l3, y3, z3⟩, st3⟩ := X1.virtualBack hx (y := (⟨"com/example/libfacet/libfacet/exact/Factorization", "exponent", "(I)J"⟩ : MethodName)) (z := (⟨"com/example/libfacet/libfacet/exact/Factorization", "exponent", "(I)J"⟩ : MethodName)) hown (mvT hZ (hw _ (List.mem_of_getElem? (i := 73) rfl))) (mvT hZ (hw _ (List.mem_of_getElem? (i := 74) rfl))) (notFace_of_selects (args := #[]) (mvT hZ (hw _ (List.mem_of_getElem? (i := 76) rfl)))) (mvT hZ (hw _ (List.mem_of_getElem? (i := 76) rfl))) (mvT hZ (hw _ (List.mem_of_getElem? (i := 75) rfl))) (by decide) (own_back (rm := ({ frames := 0, cells := 0, slots := 0, locals := 0 } : Room)) (W := 0) (own_expo l Z a0 hw [] fo te k2 (own_ge L) 1 L.length h0 O0 hj hlen F2 V2) hZ (hw _ (List.mem_of_getElem? (i := 77) rfl)) (hw _ (List.mem_of_getElem? (i := 17) rfl)) (by decide) (by decide)) q3a q3c (g := (mkF m 460 #[s0, s1, s2, s3, s4, s5, s6, s7, s8, s9, s10, s11, s12, s13, s14, s15, s16, s17, s18, s19, .val (.ref ps), .val (.ref es), .val (.int (Int32.ofNat L.length)), .val (.ref fo), .val (.int (1 : Int32))] [(.int (1 : Int32)), (.ref fo)])) rfl (by rw [hml]; rfl) (Steps.refl _) (argsL := [(.int (1 : Int32))]) (rest := []) (lenOf own_pd348 rfl) rfl (by show 2 * 0 + _ ≤ _; exact Nat.le_of_eq rfl) (hb hby at_460) (fun _ _ => ⟨rfl, eh1, hcs, hss⟩)
    dsimp only [Pt.U, Pt.locs, Pt.cells, Pt.slots] at X3 l3 y3 z3 st3 hQ3
    subst l3 y3 z3
    obtain ⟨rfl, N3q, eh3⟩ := hQ3
    have N3 := Fr.app N1 N3q
    refine own_tr st3 ?_
    show own_G _ _ _ _ (T3.setTop (mkF m 463 #[s0, s1, s2, s3, s4, s5, s6, s7, s8, s9, s10, s11, s12, s13, s14, s15, s16, s17, s18, s19, .val (.ref ps), .val (.ref es), .val (.int (Int32.ofNat L.length)), .val (.ref fo), .val (.int (1 : Int32))] [(.long (own_ge L 1))]))
    refine own_st (fun _ k => XS.aload X3.here hx rfl (hb hby at_463) rfl rfl k) ?_
    show own_G _ _ _ _ (T3.setTop (mkF m 465 #[s0, s1, s2, s3, s4, s5, s6, s7, s8, s9, s10, s11, s12, s13, s14, s15, s16, s17, s18, s19, .val (.ref ps), .val (.ref es), .val (.int (Int32.ofNat L.length)), .val (.ref fo), .val (.int (1 : Int32))] [(.ref es), (.long (own_ge L 1))]))
    refine own_st (fun _ k => XS.iconst X3.here hx rfl (hb hby at_465) k) ?_
    show own_G _ _ _ _ (T3.setTop (mkF m 466 #[s0, s1, s2, s3, s4, s5, s6, s7, s8, s9, s10, s11, s12, s13, s14, s15, s16, s17, s18, s19, .val (.ref ps), .val (.ref es), .val (.int (Int32.ofNat L.length)), .val (.ref fo), .val (.int (1 : Int32))] [(.int (1 : Int32)), (.ref es), (.long (own_ge L 1))]))
    obtain ⟨cl4, Ar4, qk4, Sz4, Mz4, Hz4, Uz4⟩ := id Ve
    refine own_st (X3.laload hx (j := (1 : Int32)) (v := (.long (own_ge L 1))) (by rw [eh3]; exact Ar4.1) (State.isArrayOf_alike hZ.alike Ar4.2.1) Ar4.2.2 (own_in (i := 1) (n := 4) Sz4 (by decide) (by decide)) (own_getL (i := 1) (N := 4) Sz4 Hz4 hj hlen (by decide)) (g := (mkF m 466 #[s0, s1, s2, s3, s4, s5, s6, s7, s8, s9, s10, s11, s12, s13, s14, s15, s16, s17, s18, s19, .val (.ref ps), .val (.ref es), .val (.int (Int32.ofNat L.length)), .val (.ref fo), .val (.int (1 : Int32))] [(.int (1 : Int32)), (.ref es), (.long (own_ge L 1))])) rfl rfl (hb hby at_466)) ?_
    show own_G _ _ _ _ (T3.setTop (mkF m 467 #[s0, s1, s2, s3, s4, s5, s6, s7, s8, s9, s10, s11, s12, s13, s14, s15, s16, s17, s18, s19, .val (.ref ps), .val (.ref es), .val (.int (Int32.ofNat L.length)), .val (.ref fo), .val (.int (1 : Int32))] [(.long (own_ge L 1)), (.long (own_ge L 1))]))
    refine own_st (fun _ k => XS.lcmp X3.here hx rfl (hb hby at_467) rfl k) ?_
    show own_G _ _ _ _ (T3.setTop (mkF m 468 #[s0, s1, s2, s3, s4, s5, s6, s7, s8, s9, s10, s11, s12, s13, s14, s15, s16, s17, s18, s19, .val (.ref ps), .val (.ref es), .val (.int (Int32.ofNat L.length)), .val (.ref fo), .val (.int (1 : Int32))] [(.int (lcmpW (own_ge L 1) (own_ge L 1)))]))
    refine own_st (fun _ k => XS.ifNo X3.here hx rfl (hb hby at_468) rfl ((if0 _ _).trans (teq ((lw_eq _ _).mpr rfl)).2) k) ?_
    show own_G _ _ _ _ (T3.setTop (mkF m 471 #[s0, s1, s2, s3, s4, s5, s6, s7, s8, s9, s10, s11, s12, s13, s14, s15, s16, s17, s18, s19, .val (.ref ps), .val (.ref es), .val (.int (Int32.ofNat L.length)), .val (.ref fo), .val (.int (1 : Int32))] []))
    refine own_st (fun _ k => XS.iconst X3.here hx rfl (hb hby at_471) k) ?_
    show own_G _ _ _ _ (T3.setTop (mkF m 472 #[s0, s1, s2, s3, s4, s5, s6, s7, s8, s9, s10, s11, s12, s13, s14, s15, s16, s17, s18, s19, .val (.ref ps), .val (.ref es), .val (.int (Int32.ofNat L.length)), .val (.ref fo), .val (.int (1 : Int32))] [(.int (1 : Int32))]))
    refine own_st (fun _ k => XS.goto X3.here hx rfl (pc0 := 472) (pc' := 476) rfl (hb hby at_472) (by decide) (by decide) k) ?_
    show own_G _ _ _ _ (T3.setTop (mkF m 476 #[s0, s1, s2, s3, s4, s5, s6, s7, s8, s9, s10, s11, s12, s13, s14, s15, s16, s17, s18, s19, .val (.ref ps), .val (.ref es), .val (.int (Int32.ofNat L.length)), .val (.ref fo), .val (.int (1 : Int32))] [(.int (1 : Int32))]))
    refine own_st (fun _ k => XS.istore X3.here hx rfl (hb hby at_476) rfl (l' := #[s0, s1, s2, s3, s4, s5, s6, s7, s8, s9, s10, s11, s12, s13, s14, s15, s16, s17, s18, s19, .val (.ref ps), .val (.ref es), .val (.int (Int32.ofNat L.length)), .val (.ref fo), .val (.int (1 : Int32))]) rfl k) ?_
    show own_G _ _ _ _ (T3.setTop (mkF m 478 #[s0, s1, s2, s3, s4, s5, s6, s7, s8, s9, s10, s11, s12, s13, s14, s15, s16, s17, s18, s19, .val (.ref ps), .val (.ref es), .val (.int (Int32.ofNat L.length)), .val (.ref fo), .val (.int (1 : Int32))] []))
    exact own_ck2 ps es fo tp te kp ke k1 k2 L s0 s1 s2 s3 s4 s5 s6 s7 s8 s9 s10 s11 s12 s13 s14 s15 s16 s17 s18 s19 hx hZ hw hby hml hown X3 eh3 N3 O0 hret hlk hcs hss hlen Vp Ve Ef F1 F2 V1 V2
  · skip
    refine own_st (fun _ k => XS.icmpYes X0.here hx rfl (pc0 := 436) (pc' := 478) rfl (hb hby at_436) rfl (flt (own_nlt (b := L.length) (a := 1) hj (by decide) (by omega))).2.2.2 (by decide) (by decide) k) ?_
    show own_G _ _ _ _ (T0.setTop (mkF m 478 #[s0, s1, s2, s3, s4, s5, s6, s7, s8, s9, s10, s11, s12, s13, s14, s15, s16, s17, s18, s19, .val (.ref ps), .val (.ref es), .val (.int (Int32.ofNat L.length)), .val (.ref fo), .val (.int (1 : Int32))] []))
    exact own_ck2 ps es fo tp te kp ke k1 k2 L s0 s1 s2 s3 s4 s5 s6 s7 s8 s9 s10 s11 s12 s13 s14 s15 s16 s17 s18 s19 hx hZ hw hby hml hown X0 e0 N0 O0 hret hlk hcs hss hlen Vp Ve Ef F1 F2 V1 V2
set_option maxRecDepth 65536 in
set_option maxHeartbeats 40000000 in
theorem own_ck0 {p : Program} {l : Launch} {e : Env} {s : State} {m : MethodId} {args : Array Value} {below : List Frame} {meth : Method} {c : Code} {Z : State} {a0 : Array Value} {locs : List Loc} {cells slots : Nat} {T0 : State} {h0 : Heap}  (ps es fo tp te : Addr) (kp ke k1 k2 : ClassId) (L : List (Nat × Nat)) (s0 s1 s2 s3 s4 s5 s6 s7 s8 s9 s10 s11 s12 s13 s14 s15 s16 s17 s18 s19 : Slot) (hx : p.tables.exec = Jvm.exec) (hZ : Z.Warmed39 s.vm) (hw : ∀ d ∈ tables_1, d.before a0 Z = true) (hby : c.code = code) (hml : c.maxLocals = 25) (hown : s.vm.findClass "com/example/libfacet/libfacet/exact/FactorizationOfPinLaw" = some m.cls) (X0 : Stand p l e room_1 s m args below meth c T0 locs cells slots) (e0 : T0.heap = h0) (N0 : Fr Z.heap.size locs) (O0 : Old Z Z.heap.size h0) (hret : meth.sig.returnType = some .boolean) (hlk : meth.locks = false) (hcs : cells ≤ 32) (hss : slots ≤ 320) (hlen : L.length ≤ 4) (Vp : Arv Z h0 ps kp .int (Int32.ofNat 4) (own_vals (own_fp L) L.length) (.int (0 : Int32))) (Ve : Arv Z h0 es ke .long (Int32.ofNat 4) (own_valsL (own_ge L) L.length) (.long (0 : Int64))) (Ef : Exa Z h0 fo "com/example/libfacet/libfacet/exact/Factorization") (F1 : Fld Z h0 fo "com/example/libfacet/libfacet/exact/Factorization" "primes" "[I" (.ref tp)) (F2 : Fld Z h0 fo "com/example/libfacet/libfacet/exact/Factorization" "exponents" "[J" (.ref te)) (V1 : Arv Z h0 tp k1 .int (Int32.ofNat L.length) (own_vals (own_fp L) L.length) (.int (0 : Int32))) (V2 : Arv Z h0 te k2 .long (Int32.ofNat L.length) (own_valsL (own_ge L) L.length) (.long (0 : Int64)))
     :
    own_G p.tables e below (own_F s below (fun v h L => v = some (.int 1) ∧ Fr Z.heap.size L) 32 320) (T0.setTop (mkF m 389 #[s0, s1, s2, s3, s4, s5, s6, s7, s8, s9, s10, s11, s12, s13, s14, s15, s16, s17, s18, s19, .val (.ref ps), .val (.ref es), .val (.int (Int32.ofNat L.length)), .val (.ref fo), .val (.int (1 : Int32))] [])) := by
  have z0 : Z.heap.size ≤ h0.size := O0.2.1
  have Kr := Keep.refl h0 []
  show own_G _ _ _ _ (T0.setTop (mkF m 389 #[s0, s1, s2, s3, s4, s5, s6, s7, s8, s9, s10, s11, s12, s13, s14, s15, s16, s17, s18, s19, .val (.ref ps), .val (.ref es), .val (.int (Int32.ofNat L.length)), .val (.ref fo), .val (.int (1 : Int32))] []))
  refine own_st (fun _ k => XS.iload X0.here hx rfl (hb hby at_389) rfl k) ?_
  show own_G _ _ _ _ (T0.setTop (mkF m 391 #[s0, s1, s2, s3, s4, s5, s6, s7, s8, s9, s10, s11, s12, s13, s14, s15, s16, s17, s18, s19, .val (.ref ps), .val (.ref es), .val (.int (Int32.ofNat L.length)), .val (.ref fo), .val (.int (1 : Int32))] [(.int (Int32.ofNat L.length))]))
  by_cases hj : 0 < L.length
  · skip
    refine own_st (fun _ k => XS.ifNo X0.here hx rfl (hb hby at_391) rfl ((if0 _ _).trans (tlt (own_lt (i := 0) hj (by omega))).2.2.2) k) ?_
    show own_G _ _ _ _ (T0.setTop (mkF m 394 #[s0, s1, s2, s3, s4, s5, s6, s7, s8, s9, s10, s11, s12, s13, s14, s15, s16, s17, s18, s19, .val (.ref ps), .val (.ref es), .val (.int (Int32.ofNat L.length)), .val (.ref fo), .val (.int (1 : Int32))] []))
    refine own_st (fun _ k => XS.iload X0.here hx rfl (hb hby at_394) rfl k) ?_
    show own_G _ _ _ _ (T0.setTop (mkF m 396 #[s0, s1, s2, s3, s4, s5, s6, s7, s8, s9, s10, s11, s12, s13, s14, s15, s16, s17, s18, s19, .val (.ref ps), .val (.ref es), .val (.int (Int32.ofNat L.length)), .val (.ref fo), .val (.int (1 : Int32))] [(.int (1 : Int32))]))
    refine own_st (fun _ k => XS.ifNo X0.here hx rfl (hb hby at_396) rfl ((if0 _ _).trans (feq (by decide)).1) k) ?_
    show own_G _ _ _ _ (T0.setTop (mkF m 399 #[s0, s1, s2, s3, s4, s5, s6, s7, s8, s9, s10, s11, s12, s13, s14, s15, s16, s17, s18, s19, .val (.ref ps), .val (.ref es), .val (.int (Int32.ofNat L.length)), .val (.ref fo), .val (.int (1 : Int32))] []))
    refine own_st (fun _ k => XS.aload X0.here hx rfl (hb hby at_399) rfl rfl k) ?_
    show own_G _ _ _ _ (T0.setTop (mkF m 401 #[s0, s1, s2, s3, s4, s5, s6, s7, s8, s9, s10, s11, s12, s13, s14, s15, s16, s17, s18, s19, .val (.ref ps), .val (.ref es), .val (.int (Int32.ofNat L.length)), .val (.ref fo), .val (.int (1 : Int32))] [(.ref fo)]))
    refine own_st (fun _ k => XS.iconst X0.here hx rfl (hb hby at_401) k) ?_
    show own_G _ _ _ _ (T0.setTop (mkF m 402 #[s0, s1, s2, s3, s4, s5, s6, s7, s8, s9, s10, s11, s12, s13, s14, s15, s16, s17, s18, s19, .val (.ref ps), .val (.ref es), .val (.int (Int32.ofNat L.length)), .val (.ref fo), .val (.int (1 : Int32))] [(.int (0 : Int32)), (.ref fo)]))
    obtain ⟨cq1, kq1, q1a, q1b, q1c⟩ := isOf hZ e0 Ef
    obtain ⟨_, _, ⟨T1, L1, k1, n1⟩, -, X1, ⟨Lc1, hQ1, l1, y1, z1⟩, st1⟩ := X0.virtualBack hx (y := (⟨"com/example/libfacet/libfacet/exact/Factorization", "prime", "(I)I"⟩ : MethodName)) (z := (⟨"com/example/libfacet/libfacet/exact/Factorization", "prime", "(I)I"⟩ : MethodName)) hown (mvT hZ (hw _ (List.mem_of_getElem? (i := 68) rfl))) (mvT hZ (hw _ (List.mem_of_getElem? (i := 69) rfl))) (notFace_of_selects (args := #[]) (mvT hZ (hw _ (List.mem_of_getElem? (i := 71) rfl)))) (mvT hZ (hw _ (List.mem_of_getElem? (i := 71) rfl))) (mvT hZ (hw _ (List.mem_of_getElem? (i := 70) rfl))) (by decide) (own_back (rm := ({ frames := 0, cells := 0, slots := 0, locals := 0 } : Room)) (W := 0) (own_prime l Z a0 hw [] fo tp k1 (own_fp L) 0 L.length h0 O0 hj hlen F1 V1) hZ (hw _ (List.mem_of_getElem? (i := 72) rfl)) (hw _ (List.mem_of_getElem? (i := 17) rfl)) (by decide) (by decide)) q1a q1c (g := (mkF m 402 #[s0, s1, s2, s3, s4, s5, s6, s7, s8, s9, s10, s11, s12, s13, s14, s15, s16, s17, s18, s19, .val (.ref ps), .val (.ref es), .val (.int (Int32.ofNat L.length)), .val (.ref fo), .val (.int (1 : Int32))] [(.int (0 : Int32)), (.ref fo)])) rfl (by rw [hml]; rfl) (Steps.refl _) (argsL := [(.int (0 : Int32))]) (rest := []) (lenOf own_pd340 rfl) rfl (by show 2 * 0 + _ ≤ _; exact Nat.le_of_eq rfl) (hb hby at_402) (fun _ _ => ⟨rfl, e0, hcs, hss⟩)
    dsimp only [Pt.U, Pt.locs, Pt.cells, Pt.slots] at X1 l1 y1 z1 st1 hQ1
    subst l1 y1 z1
    obtain ⟨rfl, N1q, eh1⟩ := hQ1
    have N1 := Fr.app N0 N1q
    refine own_tr st1 ?_
    show own_G _ _ _ _ (T1.setTop (mkF m 405 #[s0, s1, s2, s3, s4, s5, s6, s7, s8, s9, s10, s11, s12, s13, s14, s15, s16, s17, s18, s19, .val (.ref ps), .val (.ref es), .val (.int (Int32.ofNat L.length)), .val (.ref fo), .val (.int (1 : Int32))] [(.int (own_fp L 0))]))
    refine own_st (fun _ k => XS.aload X1.here hx rfl (hb hby at_405) rfl rfl k) ?_
    show own_G _ _ _ _ (T1.setTop (mkF m 407 #[s0, s1, s2, s3, s4, s5, s6, s7, s8, s9, s10, s11, s12, s13, s14, s15, s16, s17, s18, s19, .val (.ref ps), .val (.ref es), .val (.int (Int32.ofNat L.length)), .val (.ref fo), .val (.int (1 : Int32))] [(.ref ps), (.int (own_fp L 0))]))
    refine own_st (fun _ k => XS.iconst X1.here hx rfl (hb hby at_407) k) ?_
    show own_G _ _ _ _ (T1.setTop (mkF m 408 #[s0, s1, s2, s3, s4, s5, s6, s7, s8, s9, s10, s11, s12, s13, s14, s15, s16, s17, s18, s19, .val (.ref ps), .val (.ref es), .val (.int (Int32.ofNat L.length)), .val (.ref fo), .val (.int (1 : Int32))] [(.int (0 : Int32)), (.ref ps), (.int (own_fp L 0))]))
    obtain ⟨cl2, Ar2, qk2, Sz2, Mz2, Hz2, Uz2⟩ := id Vp
    refine own_st (X1.iaload hx (j := (0 : Int32)) (v := (.int (own_fp L 0))) (by rw [eh1]; exact Ar2.1) (State.isArrayOf_alike hZ.alike Ar2.2.1) Ar2.2.2 (own_in (i := 0) (n := 4) Sz2 (by decide) (by decide)) (own_get (i := 0) (N := 4) Sz2 Hz2 hj hlen (by decide)) (g := (mkF m 408 #[s0, s1, s2, s3, s4, s5, s6, s7, s8, s9, s10, s11, s12, s13, s14, s15, s16, s17, s18, s19, .val (.ref ps), .val (.ref es), .val (.int (Int32.ofNat L.length)), .val (.ref fo), .val (.int (1 : Int32))] [(.int (0 : Int32)), (.ref ps), (.int (own_fp L 0))])) rfl rfl (hb hby at_408)) ?_
    show own_G _ _ _ _ (T1.setTop (mkF m 409 #[s0, s1, s2, s3, s4, s5, s6, s7, s8, s9, s10, s11, s12, s13, s14, s15, s16, s17, s18, s19, .val (.ref ps), .val (.ref es), .val (.int (Int32.ofNat L.length)), .val (.ref fo), .val (.int (1 : Int32))] [(.int (own_fp L 0)), (.int (own_fp L 0))]))
    refine own_st (fun _ k => XS.icmpNo X1.here hx rfl (hb hby at_409) rfl (teq rfl).2 k) ?_
    show own_G _ _ _ _ (T1.setTop (mkF m 412 #[s0, s1, s2, s3, s4, s5, s6, s7, s8, s9, s10, s11, s12, s13, s14, s15, s16, s17, s18, s19, .val (.ref ps), .val (.ref es), .val (.int (Int32.ofNat L.length)), .val (.ref fo), .val (.int (1 : Int32))] []))
    refine own_st (fun _ k => XS.aload X1.here hx rfl (hb hby at_412) rfl rfl k) ?_
    show own_G _ _ _ _ (T1.setTop (mkF m 414 #[s0, s1, s2, s3, s4, s5, s6, s7, s8, s9, s10, s11, s12, s13, s14, s15, s16, s17, s18, s19, .val (.ref ps), .val (.ref es), .val (.int (Int32.ofNat L.length)), .val (.ref fo), .val (.int (1 : Int32))] [(.ref fo)]))
    refine own_st (fun _ k => XS.iconst X1.here hx rfl (hb hby at_414) k) ?_
    show own_G _ _ _ _ (T1.setTop (mkF m 415 #[s0, s1, s2, s3, s4, s5, s6, s7, s8, s9, s10, s11, s12, s13, s14, s15, s16, s17, s18, s19, .val (.ref ps), .val (.ref es), .val (.int (Int32.ofNat L.length)), .val (.ref fo), .val (.int (1 : Int32))] [(.int (0 : Int32)), (.ref fo)]))
    obtain ⟨cq3, kq3, q3a, q3b, q3c⟩ := isOf hZ eh1 Ef
    obtain ⟨_, _, ⟨T3, L3, k3, n3⟩, -, X3, ⟨Lc3, hQ3, l3, y3, z3⟩, st3⟩ := X1.virtualBack hx (y := (⟨"com/example/libfacet/libfacet/exact/Factorization", "exponent", "(I)J"⟩ : MethodName)) (z := (⟨"com/example/libfacet/libfacet/exact/Factorization", "exponent", "(I)J"⟩ : MethodName)) hown (mvT hZ (hw _ (List.mem_of_getElem? (i := 73) rfl))) (mvT hZ (hw _ (List.mem_of_getElem? (i := 74) rfl))) (notFace_of_selects (args := #[]) (mvT hZ (hw _ (List.mem_of_getElem? (i := 76) rfl)))) (mvT hZ (hw _ (List.mem_of_getElem? (i := 76) rfl))) (mvT hZ (hw _ (List.mem_of_getElem? (i := 75) rfl))) (by decide) (own_back (rm := ({ frames := 0, cells := 0, slots := 0, locals := 0 } : Room)) (W := 0) (own_expo l Z a0 hw [] fo te k2 (own_ge L) 0 L.length h0 O0 hj hlen F2 V2) hZ (hw _ (List.mem_of_getElem? (i := 77) rfl)) (hw _ (List.mem_of_getElem? (i := 17) rfl)) (by decide) (by decide)) q3a q3c (g := (mkF m 415 #[s0, s1, s2, s3, s4, s5, s6, s7, s8, s9, s10, s11, s12, s13, s14, s15, s16, s17, s18, s19, .val (.ref ps), .val (.ref es), .val (.int (Int32.ofNat L.length)), .val (.ref fo), .val (.int (1 : Int32))] [(.int (0 : Int32)), (.ref fo)])) rfl (by rw [hml]; rfl) (Steps.refl _) (argsL := [(.int (0 : Int32))]) (rest := []) (lenOf own_pd348 rfl) rfl (by show 2 * 0 + _ ≤ _; exact Nat.le_of_eq rfl) (hb hby at_415) (fun _ _ => ⟨rfl, eh1, hcs, hss⟩)
    dsimp only [Pt.U, Pt.locs, Pt.cells, Pt.slots] at X3 l3 y3 z3 st3 hQ3
    subst l3 y3 z3
    obtain ⟨rfl, N3q, eh3⟩ := hQ3
    have N3 := Fr.app N1 N3q
    refine own_tr st3 ?_
    show own_G _ _ _ _ (T3.setTop (mkF m 418 #[s0, s1, s2, s3, s4, s5, s6, s7, s8, s9, s10, s11, s12, s13, s14, s15, s16, s17, s18, s19, .val (.ref ps), .val (.ref es), .val (.int (Int32.ofNat L.length)), .val (.ref fo), .val (.int (1 : Int32))] [(.long (own_ge L 0))]))
    refine own_st (fun _ k => XS.aload X3.here hx rfl (hb hby at_418) rfl rfl k) ?_
    show own_G _ _ _ _ (T3.setTop (mkF m 420 #[s0, s1, s2, s3, s4, s5, s6, s7, s8, s9, s10, s11, s12, s13, s14, s15, s16, s17, s18, s19, .val (.ref ps), .val (.ref es), .val (.int (Int32.ofNat L.length)), .val (.ref fo), .val (.int (1 : Int32))] [(.ref es), (.long (own_ge L 0))]))
    refine own_st (fun _ k => XS.iconst X3.here hx rfl (hb hby at_420) k) ?_
    show own_G _ _ _ _ (T3.setTop (mkF m 421 #[s0, s1, s2, s3, s4, s5, s6, s7, s8, s9, s10, s11, s12, s13, s14, s15, s16, s17, s18, s19, .val (.ref ps), .val (.ref es), .val (.int (Int32.ofNat L.length)), .val (.ref fo), .val (.int (1 : Int32))] [(.int (0 : Int32)), (.ref es), (.long (own_ge L 0))]))
    obtain ⟨cl4, Ar4, qk4, Sz4, Mz4, Hz4, Uz4⟩ := id Ve
    refine own_st (X3.laload hx (j := (0 : Int32)) (v := (.long (own_ge L 0))) (by rw [eh3]; exact Ar4.1) (State.isArrayOf_alike hZ.alike Ar4.2.1) Ar4.2.2 (own_in (i := 0) (n := 4) Sz4 (by decide) (by decide)) (own_getL (i := 0) (N := 4) Sz4 Hz4 hj hlen (by decide)) (g := (mkF m 421 #[s0, s1, s2, s3, s4, s5, s6, s7, s8, s9, s10, s11, s12, s13, s14, s15, s16, s17, s18, s19, .val (.ref ps), .val (.ref es), .val (.int (Int32.ofNat L.length)), .val (.ref fo), .val (.int (1 : Int32))] [(.int (0 : Int32)), (.ref es), (.long (own_ge L 0))])) rfl rfl (hb hby at_421)) ?_
    show own_G _ _ _ _ (T3.setTop (mkF m 422 #[s0, s1, s2, s3, s4, s5, s6, s7, s8, s9, s10, s11, s12, s13, s14, s15, s16, s17, s18, s19, .val (.ref ps), .val (.ref es), .val (.int (Int32.ofNat L.length)), .val (.ref fo), .val (.int (1 : Int32))] [(.long (own_ge L 0)), (.long (own_ge L 0))]))
    refine own_st (fun _ k => XS.lcmp X3.here hx rfl (hb hby at_422) rfl k) ?_
    show own_G _ _ _ _ (T3.setTop (mkF m 423 #[s0, s1, s2, s3, s4, s5, s6, s7, s8, s9, s10, s11, s12, s13, s14, s15, s16, s17, s18, s19, .val (.ref ps), .val (.ref es), .val (.int (Int32.ofNat L.length)), .val (.ref fo), .val (.int (1 : Int32))] [(.int (lcmpW (own_ge L 0) (own_ge L 0)))]))
    refine own_st (fun _ k => XS.ifNo X3.here hx rfl (hb hby at_423) rfl ((if0 _ _).trans (teq ((lw_eq _ _).mpr rfl)).2) k) ?_
    show own_G _ _ _ _ (T3.setTop (mkF m 426 #[s0, s1, s2, s3, s4, s5, s6, s7, s8, s9, s10, s11, s12, s13, s14, s15, s16, s17, s18, s19, .val (.ref ps), .val (.ref es), .val (.int (Int32.ofNat L.length)), .val (.ref fo), .val (.int (1 : Int32))] []))
    refine own_st (fun _ k => XS.iconst X3.here hx rfl (hb hby at_426) k) ?_
    show own_G _ _ _ _ (T3.setTop (mkF m 427 #[s0, s1, s2, s3, s4, s5, s6, s7, s8, s9, s10, s11, s12, s13, s14, s15, s16, s17, s18, s19, .val (.ref ps), .val (.ref es), .val (.int (Int32.ofNat L.length)), .val (.ref fo), .val (.int (1 : Int32))] [(.int (1 : Int32))]))
    refine own_st (fun _ k => XS.goto X3.here hx rfl (pc0 := 427) (pc' := 431) rfl (hb hby at_427) (by decide) (by decide) k) ?_
    show own_G _ _ _ _ (T3.setTop (mkF m 431 #[s0, s1, s2, s3, s4, s5, s6, s7, s8, s9, s10, s11, s12, s13, s14, s15, s16, s17, s18, s19, .val (.ref ps), .val (.ref es), .val (.int (Int32.ofNat L.length)), .val (.ref fo), .val (.int (1 : Int32))] [(.int (1 : Int32))]))
    refine own_st (fun _ k => XS.istore X3.here hx rfl (hb hby at_431) rfl (l' := #[s0, s1, s2, s3, s4, s5, s6, s7, s8, s9, s10, s11, s12, s13, s14, s15, s16, s17, s18, s19, .val (.ref ps), .val (.ref es), .val (.int (Int32.ofNat L.length)), .val (.ref fo), .val (.int (1 : Int32))]) rfl k) ?_
    show own_G _ _ _ _ (T3.setTop (mkF m 433 #[s0, s1, s2, s3, s4, s5, s6, s7, s8, s9, s10, s11, s12, s13, s14, s15, s16, s17, s18, s19, .val (.ref ps), .val (.ref es), .val (.int (Int32.ofNat L.length)), .val (.ref fo), .val (.int (1 : Int32))] []))
    exact own_ck1 ps es fo tp te kp ke k1 k2 L s0 s1 s2 s3 s4 s5 s6 s7 s8 s9 s10 s11 s12 s13 s14 s15 s16 s17 s18 s19 hx hZ hw hby hml hown X3 eh3 N3 O0 hret hlk hcs hss hlen Vp Ve Ef F1 F2 V1 V2
  · skip
    refine own_st (fun _ k => XS.ifYes X0.here hx rfl (pc0 := 391) (pc' := 433) rfl (hb hby at_391) rfl ((if0 _ _).trans (flt (own_nlt (b := L.length) (a := 0) hj (by decide) (by omega))).2.2.2) (by decide) (by decide) k) ?_
    show own_G _ _ _ _ (T0.setTop (mkF m 433 #[s0, s1, s2, s3, s4, s5, s6, s7, s8, s9, s10, s11, s12, s13, s14, s15, s16, s17, s18, s19, .val (.ref ps), .val (.ref es), .val (.int (Int32.ofNat L.length)), .val (.ref fo), .val (.int (1 : Int32))] []))
    exact own_ck1 ps es fo tp te kp ke k1 k2 L s0 s1 s2 s3 s4 s5 s6 s7 s8 s9 s10 s11 s12 s13 s14 s15 s16 s17 s18 s19 hx hZ hw hby hml hown X0 e0 N0 O0 hret hlk hcs hss hlen Vp Ve Ef F1 F2 V1 V2
theorem own_pd428 : parseMethodDescriptor "(I)Lcom/example/libfacet/libfacet/exact/Factorization;" = some ⟨[.int], some (.object "com/example/libfacet/libfacet/exact/Factorization")⟩ := by decide +kernel
theorem own_pd432 : parseMethodDescriptor "()I" = some ⟨[], some .int⟩ := by decide +kernel
set_option maxRecDepth 65536 in
set_option maxHeartbeats 40000000 in
theorem own_lw5 {p : Program} {l : Launch} {e : Env} {s : State} {m : MethodId} {args : Array Value} {below : List Frame} {meth : Method} {c : Code} {Z : State} {a0 : Array Value} {locs : List Loc} {cells slots : Nat} {T0 : State} {h0 : Heap}  (ps es : Addr) (kp ke : ClassId) (L : List (Nat × Nat)) (s0 s1 s2 s3 s4 s5 s6 s7 s8 s9 s10 s11 s12 s13 s14 s15 s16 s17 : Slot) (hx : p.tables.exec = Jvm.exec) (hZ : Z.Warmed39 s.vm) (hw : ∀ d ∈ tables_1, d.before a0 Z = true) (hby : c.code = code) (hml : c.maxLocals = 25) (hown : s.vm.findClass "com/example/libfacet/libfacet/exact/FactorizationOfPinLaw" = some m.cls) (X0 : Stand p l e room_1 s m args below meth c T0 locs cells slots) (e0 : T0.heap = h0) (N0 : Fr Z.heap.size locs) (O0 : Old Z Z.heap.size h0) (hret : meth.sig.returnType = some .boolean) (hlk : meth.locks = false) (hcs : cells + 5 ≤ 32) (hss : slots + 75 ≤ 320) (hlen : L.length ≤ 4) (ha : own_asc 1 L) (hW : own_prod L < 2147483648) (Vp : Arv Z h0 ps kp .int (Int32.ofNat 4) (own_vals (own_fp L) L.length) (.int (0 : Int32))) (Ve : Arv Z h0 es ke .long (Int32.ofNat 4) (own_valsL (own_ge L) L.length) (.long (0 : Int64)))
     :
    own_G p.tables e below (own_F s below (fun v h L => v = some (.int 1) ∧ Fr Z.heap.size L) 32 320) (T0.setTop (mkF m 366 #[s0, s1, s2, s3, s4, s5, s6, s7, s8, s9, s10, s11, s12, s13, s14, s15, s16, s17, .val (.long (Int64.ofNat (own_prod L))), .second, .val (.ref ps), .val (.ref es), .val (.int (Int32.ofNat L.length)), .unset, .unset] [])) := by
  have z0 : Z.heap.size ≤ h0.size := O0.2.1
  have Kr := Keep.refl h0 []
  show own_G _ _ _ _ (T0.setTop (mkF m 366 #[s0, s1, s2, s3, s4, s5, s6, s7, s8, s9, s10, s11, s12, s13, s14, s15, s16, s17, .val (.long (Int64.ofNat (own_prod L))), .second, .val (.ref ps), .val (.ref es), .val (.int (Int32.ofNat L.length)), .unset, .unset] []))
  have ltp := own_ltN Vp.lt
  have lte := own_ltN Ve.lt
  refine own_st (fun _ k => XS.lload X0.here hx rfl (hb hby at_366) rfl k) ?_
  show own_G _ _ _ _ (T0.setTop (mkF m 368 #[s0, s1, s2, s3, s4, s5, s6, s7, s8, s9, s10, s11, s12, s13, s14, s15, s16, s17, .val (.long (Int64.ofNat (own_prod L))), .second, .val (.ref ps), .val (.ref es), .val (.int (Int32.ofNat L.length)), .unset, .unset] [(.long (Int64.ofNat (own_prod L)))]))
  refine own_st (fun _ k => XS.l2i X0.here hx rfl (hb hby at_368) rfl k) ?_
  show own_G _ _ _ _ (T0.setTop (mkF m 369 #[s0, s1, s2, s3, s4, s5, s6, s7, s8, s9, s10, s11, s12, s13, s14, s15, s16, s17, .val (.long (Int64.ofNat (own_prod L))), .second, .val (.ref ps), .val (.ref es), .val (.int (Int32.ofNat L.length)), .unset, .unset] [(.int ((Int64.ofNat (own_prod L)).toInt32))]))
  rw [own_l2i hW]
  show own_G _ _ _ _ (T0.setTop (mkF m 369 #[s0, s1, s2, s3, s4, s5, s6, s7, s8, s9, s10, s11, s12, s13, s14, s15, s16, s17, .val (.long (Int64.ofNat (own_prod L))), .second, .val (.ref ps), .val (.ref es), .val (.int (Int32.ofNat L.length)), .unset, .unset] [(.int (Int32.ofNat (own_prod L)))]))
  obtain ⟨_, _, ⟨T1, L1, k1, n1⟩, -, X1, ⟨Lc1, hQ1, l1, y1, z1⟩, st1⟩ := Jvm.LawKit.callS X0 hx (y := (⟨"com/example/libfacet/libfacet/exact/Factorization", "of", "(I)Lcom/example/libfacet/libfacet/exact/Factorization;"⟩ : MethodName)) hown (mvT hZ (hw _ (List.mem_of_getElem? (i := 15) rfl))) (mvT hZ (hw _ (List.mem_of_getElem? (i := 16) rfl))) (mvT hZ (hw _ (List.mem_of_getElem? (i := 17) rfl))) (mvT hZ (hw _ (List.mem_of_getElem? (i := 18) rfl))) (by decide) (own_back (rm := ({ frames := 4, cells := 5, slots := 75, locals := 80 } : Room)) (W := 0) (own_of l Z a0 hw [] L h0 O0 hlen ha hW) hZ (hw _ (List.mem_of_getElem? (i := 18) rfl)) (hw _ (List.mem_of_getElem? (i := 17) rfl)) (by decide) (by decide)) (g := (mkF m 369 #[s0, s1, s2, s3, s4, s5, s6, s7, s8, s9, s10, s11, s12, s13, s14, s15, s16, s17, .val (.long (Int64.ofNat (own_prod L))), .second, .val (.ref ps), .val (.ref es), .val (.int (Int32.ofNat L.length)), .unset, .unset] [(.int (Int32.ofNat (own_prod L)))])) rfl (by rw [hml]; rfl) (argsL := [(.int (Int32.ofNat (own_prod L)))]) (rest := []) (lenOf own_pd428 rfl) rfl (by show 2 * 0 + _ ≤ _; exact Nat.le_of_eq rfl) (hb hby at_369) (fun _ _ => ⟨rfl, e0, hcs, hss⟩)
  dsimp only [Pt.U, Pt.locs, Pt.cells, Pt.slots] at X1 l1 y1 z1 st1 hQ1
  subst l1 y1 z1
  obtain ⟨fo, tp, te, k1, k2, rfl, N1q, K1_, Ef, F1, F2, V1, V2⟩ := hQ1
  have N1 := Fr.app N0 N1q
  refine own_st st1 ?_
  have z2 : h0.size ≤ T1.heap.size := K1_.1
  have O3 := Old.keep O0 K1_ all0
  have K4 : Keep h0 T1.heap [] := Kr.trans K1_ all0
  show own_G _ _ _ _ (T1.setTop (mkF m 372 #[s0, s1, s2, s3, s4, s5, s6, s7, s8, s9, s10, s11, s12, s13, s14, s15, s16, s17, .val (.long (Int64.ofNat (own_prod L))), .second, .val (.ref ps), .val (.ref es), .val (.int (Int32.ofNat L.length)), .unset, .unset] [(.ref fo)]))
  refine own_st (fun _ k => XS.astore X1.here hx rfl (hb hby at_372) rfl rfl (l' := #[s0, s1, s2, s3, s4, s5, s6, s7, s8, s9, s10, s11, s12, s13, s14, s15, s16, s17, .val (.long (Int64.ofNat (own_prod L))), .second, .val (.ref ps), .val (.ref es), .val (.int (Int32.ofNat L.length)), .val (.ref fo), .unset]) rfl k) ?_
  show own_G _ _ _ _ (T1.setTop (mkF m 374 #[s0, s1, s2, s3, s4, s5, s6, s7, s8, s9, s10, s11, s12, s13, s14, s15, s16, s17, .val (.long (Int64.ofNat (own_prod L))), .second, .val (.ref ps), .val (.ref es), .val (.int (Int32.ofNat L.length)), .val (.ref fo), .unset] []))
  refine own_st (fun _ k => XS.aload X1.here hx rfl (hb hby at_374) rfl rfl k) ?_
  show own_G _ _ _ _ (T1.setTop (mkF m 376 #[s0, s1, s2, s3, s4, s5, s6, s7, s8, s9, s10, s11, s12, s13, s14, s15, s16, s17, .val (.long (Int64.ofNat (own_prod L))), .second, .val (.ref ps), .val (.ref es), .val (.int (Int32.ofNat L.length)), .val (.ref fo), .unset] [(.ref fo)]))
  obtain ⟨cq5, kq5, q5a, q5b, q5c⟩ := isOf hZ rfl Ef
  obtain ⟨_, _, ⟨T5, L5, k5, n5⟩, -, X5, ⟨Lc5, hQ5, l5, y5, z5⟩, st5⟩ := X1.virtualBack hx (y := (⟨"com/example/libfacet/libfacet/exact/Factorization", "size", "()I"⟩ : MethodName)) (z := (⟨"com/example/libfacet/libfacet/exact/Factorization", "size", "()I"⟩ : MethodName)) hown (mvT hZ (hw _ (List.mem_of_getElem? (i := 54) rfl))) (mvT hZ (hw _ (List.mem_of_getElem? (i := 55) rfl))) (notFace_of_selects (args := #[]) (mvT hZ (hw _ (List.mem_of_getElem? (i := 57) rfl)))) (mvT hZ (hw _ (List.mem_of_getElem? (i := 57) rfl))) (mvT hZ (hw _ (List.mem_of_getElem? (i := 56) rfl))) (by decide) (own_back (rm := ({ frames := 0, cells := 0, slots := 0, locals := 0 } : Room)) (W := 0) (own_size l Z a0 hw [] fo tp k1 (own_fp L) L.length T1.heap O3 F1 V1) hZ (hw _ (List.mem_of_getElem? (i := 58) rfl)) (hw _ (List.mem_of_getElem? (i := 17) rfl)) (by decide) (by decide)) q5a q5c (g := (mkF m 376 #[s0, s1, s2, s3, s4, s5, s6, s7, s8, s9, s10, s11, s12, s13, s14, s15, s16, s17, .val (.long (Int64.ofNat (own_prod L))), .second, .val (.ref ps), .val (.ref es), .val (.int (Int32.ofNat L.length)), .val (.ref fo), .unset] [(.ref fo)])) rfl (by rw [hml]; rfl) (Steps.refl _) (argsL := []) (rest := []) (lenOf own_pd432 rfl) rfl (by show 2 * 0 + _ ≤ _; exact Nat.le_of_eq rfl) (hb hby at_376) (fun _ _ => ⟨rfl, rfl, hcs, hss⟩)
  dsimp only [Pt.U, Pt.locs, Pt.cells, Pt.slots] at X5 l5 y5 z5 st5 hQ5
  subst l5 y5 z5
  obtain ⟨rfl, N5q, eh5⟩ := hQ5
  have N5 := Fr.app N1 N5q
  refine own_tr st5 ?_
  show own_G _ _ _ _ (T5.setTop (mkF m 379 #[s0, s1, s2, s3, s4, s5, s6, s7, s8, s9, s10, s11, s12, s13, s14, s15, s16, s17, .val (.long (Int64.ofNat (own_prod L))), .second, .val (.ref ps), .val (.ref es), .val (.int (Int32.ofNat L.length)), .val (.ref fo), .unset] [(.int (Int32.ofNat L.length))]))
  refine own_st (fun _ k => XS.iload X5.here hx rfl (hb hby at_379) rfl k) ?_
  show own_G _ _ _ _ (T5.setTop (mkF m 381 #[s0, s1, s2, s3, s4, s5, s6, s7, s8, s9, s10, s11, s12, s13, s14, s15, s16, s17, .val (.long (Int64.ofNat (own_prod L))), .second, .val (.ref ps), .val (.ref es), .val (.int (Int32.ofNat L.length)), .val (.ref fo), .unset] [(.int (Int32.ofNat L.length)), (.int (Int32.ofNat L.length))]))
  refine own_st (fun _ k => XS.icmpYes X5.here hx rfl (pc0 := 381) (pc' := 386) rfl (hb hby at_381) rfl (teq rfl).1 (by decide) (by decide) k) ?_
  show own_G _ _ _ _ (T5.setTop (mkF m 386 #[s0, s1, s2, s3, s4, s5, s6, s7, s8, s9, s10, s11, s12, s13, s14, s15, s16, s17, .val (.long (Int64.ofNat (own_prod L))), .second, .val (.ref ps), .val (.ref es), .val (.int (Int32.ofNat L.length)), .val (.ref fo), .unset] []))
  refine own_st (fun _ k => XS.iconst X5.here hx rfl (hb hby at_386) k) ?_
  show own_G _ _ _ _ (T5.setTop (mkF m 387 #[s0, s1, s2, s3, s4, s5, s6, s7, s8, s9, s10, s11, s12, s13, s14, s15, s16, s17, .val (.long (Int64.ofNat (own_prod L))), .second, .val (.ref ps), .val (.ref es), .val (.int (Int32.ofNat L.length)), .val (.ref fo), .unset] [(.int (1 : Int32))]))
  refine own_st (fun _ k => XS.istore X5.here hx rfl (hb hby at_387) rfl (l' := #[s0, s1, s2, s3, s4, s5, s6, s7, s8, s9, s10, s11, s12, s13, s14, s15, s16, s17, .val (.long (Int64.ofNat (own_prod L))), .second, .val (.ref ps), .val (.ref es), .val (.int (Int32.ofNat L.length)), .val (.ref fo), .val (.int (1 : Int32))]) rfl k) ?_
  show own_G _ _ _ _ (T5.setTop (mkF m 389 #[s0, s1, s2, s3, s4, s5, s6, s7, s8, s9, s10, s11, s12, s13, s14, s15, s16, s17, .val (.long (Int64.ofNat (own_prod L))), .second, .val (.ref ps), .val (.ref es), .val (.int (Int32.ofNat L.length)), .val (.ref fo), .val (.int (1 : Int32))] []))
  have q6 : Arv Z T1.heap ps kp .int (Int32.ofNat 4) (own_vals (own_fp L) L.length) (.int (0 : Int32)) := (Vp.keep K1_ nin0)
  have q7 : Arv Z T1.heap es ke .long (Int32.ofNat 4) (own_valsL (own_ge L) L.length) (.long (0 : Int64)) := (Ve.keep K1_ nin0)
  exact own_ck0 ps es fo tp te kp ke k1 k2 L _ _ _ _ _ _ _ _ _ _ _ _ _ _ _ _ _ _ _ _ hx hZ hw hby hml hown X5 eh5 N5 O3 hret hlk hcs hss hlen q6 q7 Ef F1 F2 V1 V2
/-- the list is right for the number W -/
def own_all (L : List (Nat × Nat)) (W : Nat) : Prop := own_asc 1 L ∧ own_prod L < 2147483648 ∧ own_prod L = W
theorem own_all_end {L : List (Nat × Nat)} {W : Nat} (h4 : L.length ≤ 4) (h : own_all (L ++ own_kept []) W) : L.length ≤ 4 ∧ own_asc 1 L ∧ own_prod L < 2147483648 ∧ own_prod L = W := by
  rw [own_kept, List.append_nil] at h
  exact ⟨h4, h.1, h.2.1, h.2.2⟩
set_option maxRecDepth 65536 in
set_option maxHeartbeats 40000000 in
theorem own_lw4 {p : Program} {l : Launch} {e : Env} {s : State} {m : MethodId} {args : Array Value} {below : List Frame} {meth : Method} {c : Code} {Z : State} {a0 : Array Value} {locs : List Loc} {cells slots : Nat} {T0 : State} {h0 : Heap}  (ps es : Addr) (kp ke : ClassId) (D : List (Nat × Nat)) (W P1 E1 P2 E2 P3 E3 P4 E4 : Nat) (s0 s1 s2 s3 s4 s5 s6 s7 s8 s9 : Slot) (hx : p.tables.exec = Jvm.exec) (hZ : Z.Warmed39 s.vm) (hw : ∀ d ∈ tables_1, d.before a0 Z = true) (hby : c.code = code) (hml : c.maxLocals = 25) (hown : s.vm.findClass "com/example/libfacet/libfacet/exact/FactorizationOfPinLaw" = some m.cls) (X0 : Stand p l e room_1 s m args below meth c T0 locs cells slots) (e0 : T0.heap = h0) (N0 : Fr Z.heap.size locs) (O0 : Old Z Z.heap.size h0) (hret : meth.sig.returnType = some .boolean) (hlk : meth.locks = false) (hcs : cells + 5 ≤ 32) (hss : slots + 75 ≤ 320) (gp : Z.heap.size ≤ ps) (ge : Z.heap.size ≤ es) (net : @Ne Nat ps es) (hD : D.length ≤ 3) (hP1 : P1 < 2147483648) (hP2 : P2 < 2147483648) (hP3 : P3 < 2147483648) (hP4 : P4 < 2147483648) (hE1 : E1 < 2147483648) (hE2 : E2 < 2147483648) (hE3 : E3 < 2147483648) (hE4 : E4 < 2147483648) (hall : own_all (D ++ own_kept [(P4, E4)]) W) (Vp : Arv Z h0 ps kp .int (Int32.ofNat 4) (own_vals (own_fp D) D.length) (.int (0 : Int32))) (Ve : Arv Z h0 es ke .long (Int32.ofNat 4) (own_valsL (own_ge D) D.length) (.long (0 : Int64)))
     :
    own_G p.tables e below (own_F s below (fun v h L => v = some (.int 1) ∧ Fr Z.heap.size L) 32 320) (T0.setTop (mkF m 343 #[s0, s1, s2, s3, s4, s5, s6, s7, s8, s9, .val (.int (Int32.ofNat P1)), .val (.int (Int32.ofNat E1)), .val (.int (Int32.ofNat P2)), .val (.int (Int32.ofNat E2)), .val (.int (Int32.ofNat P3)), .val (.int (Int32.ofNat E3)), .val (.int (Int32.ofNat P4)), .val (.int (Int32.ofNat E4)), .val (.long (Int64.ofNat W)), .second, .val (.ref ps), .val (.ref es), .val (.int (Int32.ofNat D.length)), .unset, .unset] [])) := by
  have z0 : Z.heap.size ≤ h0.size := O0.2.1
  have Kr := Keep.refl h0 [ps, es]
  show own_G _ _ _ _ (T0.setTop (mkF m 343 #[s0, s1, s2, s3, s4, s5, s6, s7, s8, s9, .val (.int (Int32.ofNat P1)), .val (.int (Int32.ofNat E1)), .val (.int (Int32.ofNat P2)), .val (.int (Int32.ofNat E2)), .val (.int (Int32.ofNat P3)), .val (.int (Int32.ofNat E3)), .val (.int (Int32.ofNat P4)), .val (.int (Int32.ofNat E4)), .val (.long (Int64.ofNat W)), .second, .val (.ref ps), .val (.ref es), .val (.int (Int32.ofNat D.length)), .unset, .unset] []))
  have ltp := own_ltN Vp.lt
  have lte := own_ltN Ve.lt
  refine own_st (fun _ k => XS.iload X0.here hx rfl (hb hby at_343) rfl k) ?_
  show own_G _ _ _ _ (T0.setTop (mkF m 345 #[s0, s1, s2, s3, s4, s5, s6, s7, s8, s9, .val (.int (Int32.ofNat P1)), .val (.int (Int32.ofNat E1)), .val (.int (Int32.ofNat P2)), .val (.int (Int32.ofNat E2)), .val (.int (Int32.ofNat P3)), .val (.int (Int32.ofNat E3)), .val (.int (Int32.ofNat P4)), .val (.int (Int32.ofNat E4)), .val (.long (Int64.ofNat W)), .second, .val (.ref ps), .val (.ref es), .val (.int (Int32.ofNat D.length)), .unset, .unset] [(.int (Int32.ofNat E4))]))
  by_cases hE : 0 < E4
  · skip
    refine own_st (fun _ k => XS.ifNo X0.here hx rfl (hb hby at_345) rfl ((if0 _ _).trans (tlt (own_lt (i := 0) hE (by omega))).2.2.2) k) ?_
    show own_G _ _ _ _ (T0.setTop (mkF m 348 #[s0, s1, s2, s3, s4, s5, s6, s7, s8, s9, .val (.int (Int32.ofNat P1)), .val (.int (Int32.ofNat E1)), .val (.int (Int32.ofNat P2)), .val (.int (Int32.ofNat E2)), .val (.int (Int32.ofNat P3)), .val (.int (Int32.ofNat E3)), .val (.int (Int32.ofNat P4)), .val (.int (Int32.ofNat E4)), .val (.long (Int64.ofNat W)), .second, .val (.ref ps), .val (.ref es), .val (.int (Int32.ofNat D.length)), .unset, .unset] []))
    refine own_st (fun _ k => XS.aload X0.here hx rfl (hb hby at_348) rfl rfl k) ?_
    show own_G _ _ _ _ (T0.setTop (mkF m 350 #[s0, s1, s2, s3, s4, s5, s6, s7, s8, s9, .val (.int (Int32.ofNat P1)), .val (.int (Int32.ofNat E1)), .val (.int (Int32.ofNat P2)), .val (.int (Int32.ofNat E2)), .val (.int (Int32.ofNat P3)), .val (.int (Int32.ofNat E3)), .val (.int (Int32.ofNat P4)), .val (.int (Int32.ofNat E4)), .val (.long (Int64.ofNat W)), .second, .val (.ref ps), .val (.ref es), .val (.int (Int32.ofNat D.length)), .unset, .unset] [(.ref ps)]))
    refine own_st (fun _ k => XS.iload X0.here hx rfl (hb hby at_350) rfl k) ?_
    show own_G _ _ _ _ (T0.setTop (mkF m 352 #[s0, s1, s2, s3, s4, s5, s6, s7, s8, s9, .val (.int (Int32.ofNat P1)), .val (.int (Int32.ofNat E1)), .val (.int (Int32.ofNat P2)), .val (.int (Int32.ofNat E2)), .val (.int (Int32.ofNat P3)), .val (.int (Int32.ofNat E3)), .val (.int (Int32.ofNat P4)), .val (.int (Int32.ofNat E4)), .val (.long (Int64.ofNat W)), .second, .val (.ref ps), .val (.ref es), .val (.int (Int32.ofNat D.length)), .unset, .unset] [(.int (Int32.ofNat D.length)), (.ref ps)]))
    refine own_st (fun _ k => XS.iload X0.here hx rfl (hb hby at_352) rfl k) ?_
    show own_G _ _ _ _ (T0.setTop (mkF m 354 #[s0, s1, s2, s3, s4, s5, s6, s7, s8, s9, .val (.int (Int32.ofNat P1)), .val (.int (Int32.ofNat E1)), .val (.int (Int32.ofNat P2)), .val (.int (Int32.ofNat E2)), .val (.int (Int32.ofNat P3)), .val (.int (Int32.ofNat E3)), .val (.int (Int32.ofNat P4)), .val (.int (Int32.ofNat E4)), .val (.long (Int64.ofNat W)), .second, .val (.ref ps), .val (.ref es), .val (.int (Int32.ofNat D.length)), .unset, .unset] [(.int (Int32.ofNat P4)), (.int (Int32.ofNat D.length)), (.ref ps)]))
    have V1p : Arv Z h0 ps kp .int (Int32.ofNat 4) ((own_vals (own_fp D) D.length) ++ [(.int (0 : Int32))]) (.int (0 : Int32)) := Vp.pad (pad_rep (own_vals (own_fp D) D.length) (.int (0 : Int32)) 1)
    have hall' : own_all (D ++ [(P4, E4)] ++ own_kept []) W := by have q := hall; unfold own_kept at q; rw [if_pos hE] at q; rw [List.append_assoc]; exact q
    obtain ⟨cl2, Ar2, qk2, Sz2, Mz2, Hz2, Uz2⟩ := id V1p
    obtain ⟨T3, h3, X3, e3, W3, st3⟩ := stI X0 hx hZ e0 Ar2 (j := (Int32.ofNat D.length)) (own_in (n := 4) Sz2 (by omega) (by omega)) (g := (mkF m 354 #[s0, s1, s2, s3, s4, s5, s6, s7, s8, s9, .val (.int (Int32.ofNat P1)), .val (.int (Int32.ofNat E1)), .val (.int (Int32.ofNat P2)), .val (.int (Int32.ofNat E2)), .val (.int (Int32.ofNat P3)), .val (.int (Int32.ofNat E3)), .val (.int (Int32.ofNat P4)), .val (.int (Int32.ofNat E4)), .val (.long (Int64.ofNat W)), .second, .val (.ref ps), .val (.ref es), .val (.int (Int32.ofNat D.length)), .unset, .unset] [(.int (Int32.ofNat P4)), (.int (Int32.ofNat D.length)), (.ref ps)])) rfl rfl (hb hby at_354)
    refine own_st st3 ?_
    have V3 := Arv.set Ar2 qk2 Sz2 Mz2 Hz2 Uz2 rfl W3 (own_vals (own_fp D) D.length).length (by rw [own_clamp (by omega), own_len]) (by simp)
    have z4 : h3.size = h0.size := W3.size
    have O5 := Old.wr O0 W3 (by omega)
    have K6 : Keep h0 h3 [ps, es] := Kr.wr W3 (Or.inl (by simp))
    have N3 := Fr.snoc X3 N0 (by omega : Z.heap.size ≤ ps)
    have V3' : Arv Z h3 ps kp .int (Int32.ofNat 4) (own_vals (own_fp (D ++ [(P4, E4)])) (D.length + 1)) (.int (0 : Int32)) := by have q := V3; rw [own_set] at q; rw [own_fp_app]; exact q
    show own_G _ _ _ _ (T3.setTop (mkF m 355 #[s0, s1, s2, s3, s4, s5, s6, s7, s8, s9, .val (.int (Int32.ofNat P1)), .val (.int (Int32.ofNat E1)), .val (.int (Int32.ofNat P2)), .val (.int (Int32.ofNat E2)), .val (.int (Int32.ofNat P3)), .val (.int (Int32.ofNat E3)), .val (.int (Int32.ofNat P4)), .val (.int (Int32.ofNat E4)), .val (.long (Int64.ofNat W)), .second, .val (.ref ps), .val (.ref es), .val (.int (Int32.ofNat D.length)), .unset, .unset] []))
    refine own_st (fun _ k => XS.aload X3.here hx rfl (hb hby at_355) rfl rfl k) ?_
    show own_G _ _ _ _ (T3.setTop (mkF m 357 #[s0, s1, s2, s3, s4, s5, s6, s7, s8, s9, .val (.int (Int32.ofNat P1)), .val (.int (Int32.ofNat E1)), .val (.int (Int32.ofNat P2)), .val (.int (Int32.ofNat E2)), .val (.int (Int32.ofNat P3)), .val (.int (Int32.ofNat E3)), .val (.int (Int32.ofNat P4)), .val (.int (Int32.ofNat E4)), .val (.long (Int64.ofNat W)), .second, .val (.ref ps), .val (.ref es), .val (.int (Int32.ofNat D.length)), .unset, .unset] [(.ref es)]))
    refine own_st (fun _ k => XS.iload X3.here hx rfl (hb hby at_357) rfl k) ?_
    show own_G _ _ _ _ (T3.setTop (mkF m 359 #[s0, s1, s2, s3, s4, s5, s6, s7, s8, s9, .val (.int (Int32.ofNat P1)), .val (.int (Int32.ofNat E1)), .val (.int (Int32.ofNat P2)), .val (.int (Int32.ofNat E2)), .val (.int (Int32.ofNat P3)), .val (.int (Int32.ofNat E3)), .val (.int (Int32.ofNat P4)), .val (.int (Int32.ofNat E4)), .val (.long (Int64.ofNat W)), .second, .val (.ref ps), .val (.ref es), .val (.int (Int32.ofNat D.length)), .unset, .unset] [(.int (Int32.ofNat D.length)), (.ref es)]))
    refine own_st (fun _ k => XS.iload X3.here hx rfl (hb hby at_359) rfl k) ?_
    show own_G _ _ _ _ (T3.setTop (mkF m 361 #[s0, s1, s2, s3, s4, s5, s6, s7, s8, s9, .val (.int (Int32.ofNat P1)), .val (.int (Int32.ofNat E1)), .val (.int (Int32.ofNat P2)), .val (.int (Int32.ofNat E2)), .val (.int (Int32.ofNat P3)), .val (.int (Int32.ofNat E3)), .val (.int (Int32.ofNat P4)), .val (.int (Int32.ofNat E4)), .val (.long (Int64.ofNat W)), .second, .val (.ref ps), .val (.ref es), .val (.int (Int32.ofNat D.length)), .unset, .unset] [(.int (Int32.ofNat E4)), (.int (Int32.ofNat D.length)), (.ref es)]))
    refine own_st (fun _ k => XS.i2l X3.here hx rfl (hb hby at_361) rfl k) ?_
    show own_G _ _ _ _ (T3.setTop (mkF m 362 #[s0, s1, s2, s3, s4, s5, s6, s7, s8, s9, .val (.int (Int32.ofNat P1)), .val (.int (Int32.ofNat E1)), .val (.int (Int32.ofNat P2)), .val (.int (Int32.ofNat E2)), .val (.int (Int32.ofNat P3)), .val (.int (Int32.ofNat E3)), .val (.int (Int32.ofNat P4)), .val (.int (Int32.ofNat E4)), .val (.long (Int64.ofNat W)), .second, .val (.ref ps), .val (.ref es), .val (.int (Int32.ofNat D.length)), .unset, .unset] [(.long ((Int32.ofNat E4).toInt64)), (.int (Int32.ofNat D.length)), (.ref es)]))
    rw [own_i2l (by omega)]
    show own_G _ _ _ _ (T3.setTop (mkF m 362 #[s0, s1, s2, s3, s4, s5, s6, s7, s8, s9, .val (.int (Int32.ofNat P1)), .val (.int (Int32.ofNat E1)), .val (.int (Int32.ofNat P2)), .val (.int (Int32.ofNat E2)), .val (.int (Int32.ofNat P3)), .val (.int (Int32.ofNat E3)), .val (.int (Int32.ofNat P4)), .val (.int (Int32.ofNat E4)), .val (.long (Int64.ofNat W)), .second, .val (.ref ps), .val (.ref es), .val (.int (Int32.ofNat D.length)), .unset, .unset] [(.long (Int64.ofNat E4)), (.int (Int32.ofNat D.length)), (.ref es)]))
    have q7 : Arv Z h3 es ke .long (Int32.ofNat 4) (own_valsL (own_ge D) D.length) (.long (0 : Int64)) := (Ve.other W3 (show @Ne Nat es ps by omega))
    have V8p : Arv Z h3 es ke .long (Int32.ofNat 4) ((own_valsL (own_ge D) D.length) ++ [(.long (0 : Int64))]) (.long (0 : Int64)) := q7.pad (pad_rep (own_valsL (own_ge D) D.length) (.long (0 : Int64)) 1)
    obtain ⟨cl9, Ar9, qk9, Sz9, Mz9, Hz9, Uz9⟩ := id V8p
    obtain ⟨T10, h10, X10, e10, W10, st10⟩ := stJ X3 hx hZ e3 Ar9 (j := (Int32.ofNat D.length)) (own_in (n := 4) Sz9 (by omega) (by omega)) (g := (mkF m 362 #[s0, s1, s2, s3, s4, s5, s6, s7, s8, s9, .val (.int (Int32.ofNat P1)), .val (.int (Int32.ofNat E1)), .val (.int (Int32.ofNat P2)), .val (.int (Int32.ofNat E2)), .val (.int (Int32.ofNat P3)), .val (.int (Int32.ofNat E3)), .val (.int (Int32.ofNat P4)), .val (.int (Int32.ofNat E4)), .val (.long (Int64.ofNat W)), .second, .val (.ref ps), .val (.ref es), .val (.int (Int32.ofNat D.length)), .unset, .unset] [(.long (Int64.ofNat E4)), (.int (Int32.ofNat D.length)), (.ref es)])) rfl rfl (hb hby at_362)
    refine own_st st10 ?_
    have V10 := Arv.set Ar9 qk9 Sz9 Mz9 Hz9 Uz9 rfl W10 (own_valsL (own_ge D) D.length).length (by rw [own_clamp (by omega), own_lenL]) (by simp)
    have z11 : h10.size = h3.size := W10.size
    have O12 := Old.wr O5 W10 (by omega)
    have K13 : Keep h0 h10 [ps, es] := K6.wr W10 (Or.inl (by simp))
    have N10 := Fr.snoc X10 N3 (by omega : Z.heap.size ≤ es)
    have V10' : Arv Z h10 es ke .long (Int32.ofNat 4) (own_valsL (own_ge (D ++ [(P4, E4)])) (D.length + 1)) (.long (0 : Int64)) := by have q := V10; rw [own_set] at q; rw [own_ge_app]; exact q
    show own_G _ _ _ _ (T10.setTop (mkF m 363 #[s0, s1, s2, s3, s4, s5, s6, s7, s8, s9, .val (.int (Int32.ofNat P1)), .val (.int (Int32.ofNat E1)), .val (.int (Int32.ofNat P2)), .val (.int (Int32.ofNat E2)), .val (.int (Int32.ofNat P3)), .val (.int (Int32.ofNat E3)), .val (.int (Int32.ofNat P4)), .val (.int (Int32.ofNat E4)), .val (.long (Int64.ofNat W)), .second, .val (.ref ps), .val (.ref es), .val (.int (Int32.ofNat D.length)), .unset, .unset] []))
    refine own_st (fun _ k => XS.iinc X10.here hx rfl (hb hby at_363) rfl (l' := #[s0, s1, s2, s3, s4, s5, s6, s7, s8, s9, .val (.int (Int32.ofNat P1)), .val (.int (Int32.ofNat E1)), .val (.int (Int32.ofNat P2)), .val (.int (Int32.ofNat E2)), .val (.int (Int32.ofNat P3)), .val (.int (Int32.ofNat E3)), .val (.int (Int32.ofNat P4)), .val (.int (Int32.ofNat E4)), .val (.long (Int64.ofNat W)), .second, .val (.ref ps), .val (.ref es), .val (.int ((Int32.ofNat D.length) + (1 : Int32))), .unset, .unset]) rfl k) ?_
    show own_G _ _ _ _ (T10.setTop (mkF m 366 #[s0, s1, s2, s3, s4, s5, s6, s7, s8, s9, .val (.int (Int32.ofNat P1)), .val (.int (Int32.ofNat E1)), .val (.int (Int32.ofNat P2)), .val (.int (Int32.ofNat E2)), .val (.int (Int32.ofNat P3)), .val (.int (Int32.ofNat E3)), .val (.int (Int32.ofNat P4)), .val (.int (Int32.ofNat E4)), .val (.long (Int64.ofNat W)), .second, .val (.ref ps), .val (.ref es), .val (.int ((Int32.ofNat D.length) + (1 : Int32))), .unset, .unset] []))
    have hl1 : (D ++ [(P4, E4)]).length = D.length + 1 := by simp
    have hD' : (D ++ [(P4, E4)]).length ≤ 4 := by omega
    have q14 : Arv Z h10 ps kp .int (Int32.ofNat 4) (own_vals (own_fp (D ++ [(P4, E4)])) (D.length + 1)) (.int (0 : Int32)) := (V3'.other W10 (show @Ne Nat ps es by omega))
    have Vp2 := q14
    have Ve2 := V10'
    rw [own_one]
    rw [← hl1] at Vp2 Ve2 ⊢
    obtain ⟨hlen2, ha2, hW2, hp2⟩ := own_all_end hD' hall'
    subst hp2
    exact own_lw5 ps es kp ke (D ++ [(P4, E4)]) _ _ _ _ _ _ _ _ _ _ _ _ _ _ _ _ _ _ hx hZ hw hby hml hown X10 e10 N10 O12 hret hlk hcs hss hlen2 ha2 hW2 Vp2 Ve2
  · skip
    refine own_st (fun _ k => XS.ifYes X0.here hx rfl (pc0 := 345) (pc' := 366) rfl (hb hby at_345) rfl ((if0 _ _).trans (flt (own_nlt (a := 0) hE (by decide) (by omega))).2.2.2) (by decide) (by decide) k) ?_
    show own_G _ _ _ _ (T0.setTop (mkF m 366 #[s0, s1, s2, s3, s4, s5, s6, s7, s8, s9, .val (.int (Int32.ofNat P1)), .val (.int (Int32.ofNat E1)), .val (.int (Int32.ofNat P2)), .val (.int (Int32.ofNat E2)), .val (.int (Int32.ofNat P3)), .val (.int (Int32.ofNat E3)), .val (.int (Int32.ofNat P4)), .val (.int (Int32.ofNat E4)), .val (.long (Int64.ofNat W)), .second, .val (.ref ps), .val (.ref es), .val (.int (Int32.ofNat D.length)), .unset, .unset] []))
    have hall' : own_all (D ++ own_kept []) W := by have q := hall; unfold own_kept at q; rw [if_neg hE] at q; exact q
    have hD' : D.length ≤ 4 := by omega
    obtain ⟨hlen2, ha2, hW2, hp2⟩ := own_all_end hD' hall'
    subst hp2
    exact own_lw5 ps es kp ke D _ _ _ _ _ _ _ _ _ _ _ _ _ _ _ _ _ _ hx hZ hw hby hml hown X0 e0 N0 O0 hret hlk hcs hss hlen2 ha2 hW2 Vp Ve
set_option maxRecDepth 65536 in
set_option maxHeartbeats 40000000 in
theorem own_lw3 {p : Program} {l : Launch} {e : Env} {s : State} {m : MethodId} {args : Array Value} {below : List Frame} {meth : Method} {c : Code} {Z : State} {a0 : Array Value} {locs : List Loc} {cells slots : Nat} {T0 : State} {h0 : Heap}  (ps es : Addr) (kp ke : ClassId) (D : List (Nat × Nat)) (W P1 E1 P2 E2 P3 E3 P4 E4 : Nat) (s0 s1 s2 s3 s4 s5 s6 s7 s8 s9 : Slot) (hx : p.tables.exec = Jvm.exec) (hZ : Z.Warmed39 s.vm) (hw : ∀ d ∈ tables_1, d.before a0 Z = true) (hby : c.code = code) (hml : c.maxLocals = 25) (hown : s.vm.findClass "com/example/libfacet/libfacet/exact/FactorizationOfPinLaw" = some m.cls) (X0 : Stand p l e room_1 s m args below meth c T0 locs cells slots) (e0 : T0.heap = h0) (N0 : Fr Z.heap.size locs) (O0 : Old Z Z.heap.size h0) (hret : meth.sig.returnType = some .boolean) (hlk : meth.locks = false) (hcs : cells + 5 ≤ 32) (hss : slots + 75 ≤ 320) (gp : Z.heap.size ≤ ps) (ge : Z.heap.size ≤ es) (net : @Ne Nat ps es) (hD : D.length ≤ 2) (hP1 : P1 < 2147483648) (hP2 : P2 < 2147483648) (hP3 : P3 < 2147483648) (hP4 : P4 < 2147483648) (hE1 : E1 < 2147483648) (hE2 : E2 < 2147483648) (hE3 : E3 < 2147483648) (hE4 : E4 < 2147483648) (hall : own_all (D ++ own_kept [(P3, E3), (P4, E4)]) W) (Vp : Arv Z h0 ps kp .int (Int32.ofNat 4) (own_vals (own_fp D) D.length) (.int (0 : Int32))) (Ve : Arv Z h0 es ke .long (Int32.ofNat 4) (own_valsL (own_ge D) D.length) (.long (0 : Int64)))
     :
    own_G p.tables e below (own_F s below (fun v h L => v = some (.int 1) ∧ Fr Z.heap.size L) 32 320) (T0.setTop (mkF m 320 #[s0, s1, s2, s3, s4, s5, s6, s7, s8, s9, .val (.int (Int32.ofNat P1)), .val (.int (Int32.ofNat E1)), .val (.int (Int32.ofNat P2)), .val (.int (Int32.ofNat E2)), .val (.int (Int32.ofNat P3)), .val (.int (Int32.ofNat E3)), .val (.int (Int32.ofNat P4)), .val (.int (Int32.ofNat E4)), .val (.long (Int64.ofNat W)), .second, .val (.ref ps), .val (.ref es), .val (.int (Int32.ofNat D.length)), .unset, .unset] [])) := by
  have z0 : Z.heap.size ≤ h0.size := O0.2.1
  have Kr := Keep.refl h0 [ps, es]
  show own_G _ _ _ _ (T0.setTop (mkF m 320 #[s0, s1, s2, s3, s4, s5, s6, s7, s8, s9, .val (.int (Int32.ofNat P1)), .val (.int (Int32.ofNat E1)), .val (.int (Int32.ofNat P2)), .val (.int (Int32.ofNat E2)), .val (.int (Int32.ofNat P3)), .val (.int (Int32.ofNat E3)), .val (.int (Int32.ofNat P4)), .val (.int (Int32.ofNat E4)), .val (.long (Int64.ofNat W)), .second, .val (.ref ps), .val (.ref es), .val (.int (Int32.ofNat D.length)), .unset, .unset] []))
  have ltp := own_ltN Vp.lt
  have lte := own_ltN Ve.lt
  refine own_st (fun _ k => XS.iload X0.here hx rfl (hb hby at_320) rfl k) ?_
  show own_G _ _ _ _ (T0.setTop (mkF m 322 #[s0, s1, s2, s3, s4, s5, s6, s7, s8, s9, .val (.int (Int32.ofNat P1)), .val (.int (Int32.ofNat E1)), .val (.int (Int32.ofNat P2)), .val (.int (Int32.ofNat E2)), .val (.int (Int32.ofNat P3)), .val (.int (Int32.ofNat E3)), .val (.int (Int32.ofNat P4)), .val (.int (Int32.ofNat E4)), .val (.long (Int64.ofNat W)), .second, .val (.ref ps), .val (.ref es), .val (.int (Int32.ofNat D.length)), .unset, .unset] [(.int (Int32.ofNat E3))]))
  by_cases hE : 0 < E3
  · skip
    refine own_st (fun _ k => XS.ifNo X0.here hx rfl (hb hby at_322) rfl ((if0 _ _).trans (tlt (own_lt (i := 0) hE (by omega))).2.2.2) k) ?_
    show own_G _ _ _ _ (T0.setTop (mkF m 325 #[s0, s1, s2, s3, s4, s5, s6, s7, s8, s9, .val (.int (Int32.ofNat P1)), .val (.int (Int32.ofNat E1)), .val (.int (Int32.ofNat P2)), .val (.int (Int32.ofNat E2)), .val (.int (Int32.ofNat P3)), .val (.int (Int32.ofNat E3)), .val (.int (Int32.ofNat P4)), .val (.int (Int32.ofNat E4)), .val (.long (Int64.ofNat W)), .second, .val (.ref ps), .val (.ref es), .val (.int (Int32.ofNat D.length)), .unset, .unset] []))
    refine own_st (fun _ k => XS.aload X0.here hx rfl (hb hby at_325) rfl rfl k) ?_
    show own_G _ _ _ _ (T0.setTop (mkF m 327 #[s0, s1, s2, s3, s4, s5, s6, s7, s8, s9, .val (.int (Int32.ofNat P1)), .val (.int (Int32.ofNat E1)), .val (.int (Int32.ofNat P2)), .val (.int (Int32.ofNat E2)), .val (.int (Int32.ofNat P3)), .val (.int (Int32.ofNat E3)), .val (.int (Int32.ofNat P4)), .val (.int (Int32.ofNat E4)), .val (.long (Int64.ofNat W)), .second, .val (.ref ps), .val (.ref es), .val (.int (Int32.ofNat D.length)), .unset, .unset] [(.ref ps)]))
    refine own_st (fun _ k => XS.iload X0.here hx rfl (hb hby at_327) rfl k) ?_
    show own_G _ _ _ _ (T0.setTop (mkF m 329 #[s0, s1, s2, s3, s4, s5, s6, s7, s8, s9, .val (.int (Int32.ofNat P1)), .val (.int (Int32.ofNat E1)), .val (.int (Int32.ofNat P2)), .val (.int (Int32.ofNat E2)), .val (.int (Int32.ofNat P3)), .val (.int (Int32.ofNat E3)), .val (.int (Int32.ofNat P4)), .val (.int (Int32.ofNat E4)), .val (.long (Int64.ofNat W)), .second, .val (.ref ps), .val (.ref es), .val (.int (Int32.ofNat D.length)), .unset, .unset] [(.int (Int32.ofNat D.length)), (.ref ps)]))
    refine own_st (fun _ k => XS.iload X0.here hx rfl (hb hby at_329) rfl k) ?_
    show own_G _ _ _ _ (T0.setTop (mkF m 331 #[s0, s1, s2, s3, s4, s5, s6, s7, s8, s9, .val (.int (Int32.ofNat P1)), .val (.int (Int32.ofNat E1)), .val (.int (Int32.ofNat P2)), .val (.int (Int32.ofNat E2)), .val (.int (Int32.ofNat P3)), .val (.int (Int32.ofNat E3)), .val (.int (Int32.ofNat P4)), .val (.int (Int32.ofNat E4)), .val (.long (Int64.ofNat W)), .second, .val (.ref ps), .val (.ref es), .val (.int (Int32.ofNat D.length)), .unset, .unset] [(.int (Int32.ofNat P3)), (.int (Int32.ofNat D.length)), (.ref ps)]))
    have V1p : Arv Z h0 ps kp .int (Int32.ofNat 4) ((own_vals (own_fp D) D.length) ++ [(.int (0 : Int32))]) (.int (0 : Int32)) := Vp.pad (pad_rep (own_vals (own_fp D) D.length) (.int (0 : Int32)) 1)
    have hall' : own_all (D ++ [(P3, E3)] ++ own_kept [(P4, E4)]) W := by have q := hall; unfold own_kept at q; rw [if_pos hE] at q; rw [List.append_assoc]; exact q
    obtain ⟨cl2, Ar2, qk2, Sz2, Mz2, Hz2, Uz2⟩ := id V1p
    obtain ⟨T3, h3, X3, e3, W3, st3⟩ := stI X0 hx hZ e0 Ar2 (j := (Int32.ofNat D.length)) (own_in (n := 4) Sz2 (by omega) (by omega)) (g := (mkF m 331 #[s0, s1, s2, s3, s4, s5, s6, s7, s8, s9, .val (.int (Int32.ofNat P1)), .val (.int (Int32.ofNat E1)), .val (.int (Int32.ofNat P2)), .val (.int (Int32.ofNat E2)), .val (.int (Int32.ofNat P3)), .val (.int (Int32.ofNat E3)), .val (.int (Int32.ofNat P4)), .val (.int (Int32.ofNat E4)), .val (.long (Int64.ofNat W)), .second, .val (.ref ps), .val (.ref es), .val (.int (Int32.ofNat D.length)), .unset, .unset] [(.int (Int32.ofNat P3)), (.int (Int32.ofNat D.length)), (.ref ps)])) rfl rfl (hb hby at_331)
    refine own_st st3 ?_
    have V3 := Arv.set Ar2 qk2 Sz2 Mz2 Hz2 Uz2 rfl W3 (own_vals (own_fp D) D.length).length (by rw [own_clamp (by omega), own_len]) (by simp)
    have z4 : h3.size = h0.size := W3.size
    have O5 := Old.wr O0 W3 (by omega)
    have K6 : Keep h0 h3 [ps, es] := Kr.wr W3 (Or.inl (by simp))
    have N3 := Fr.snoc X3 N0 (by omega : Z.heap.size ≤ ps)
    have V3' : Arv Z h3 ps kp .int (Int32.ofNat 4) (own_vals (own_fp (D ++ [(P3, E3)])) (D.length + 1)) (.int (0 : Int32)) := by have q := V3; rw [own_set] at q; rw [own_fp_app]; exact q
    show own_G _ _ _ _ (T3.setTop (mkF m 332 #[s0, s1, s2, s3, s4, s5, s6, s7, s8, s9, .val (.int (Int32.ofNat P1)), .val (.int (Int32.ofNat E1)), .val (.int (Int32.ofNat P2)), .val (.int (Int32.ofNat E2)), .val (.int (Int32.ofNat P3)), .val (.int (Int32.ofNat E3)), .val (.int (Int32.ofNat P4)), .val (.int (Int32.ofNat E4)), .val (.long (Int64.ofNat W)), .second, .val (.ref ps), .val (.ref es), .val (.int (Int32.ofNat D.length)), .unset, .unset] []))
    refine own_st (fun _ k => XS.aload X3.here hx rfl (hb hby at_332) rfl rfl k) ?_
    show own_G _ _ _ _ (T3.setTop (mkF m 334 #[s0, s1, s2, s3, s4, s5, s6, s7, s8, s9, .val (.int (Int32.ofNat P1)), .val (.int (Int32.ofNat E1)), .val (.int (Int32.ofNat P2)), .val (.int (Int32.ofNat E2)), .val (.int (Int32.ofNat P3)), .val (.int (Int32.ofNat E3)), .val (.int (Int32.ofNat P4)), .val (.int (Int32.ofNat E4)), .val (.long (Int64.ofNat W)), .second, .val (.ref ps), .val (.ref es), .val (.int (Int32.ofNat D.length)), .unset, .unset] [(.ref es)]))
    refine own_st (fun _ k => XS.iload X3.here hx rfl (hb hby at_334) rfl k) ?_
    show own_G _ _ _ _ (T3.setTop (mkF m 336 #[s0, s1, s2, s3, s4, s5, s6, s7, s8, s9, .val (.int (Int32.ofNat P1)), .val (.int (Int32.ofNat E1)), .val (.int (Int32.ofNat P2)), .val (.int (Int32.ofNat E2)), .val (.int (Int32.ofNat P3)), .val (.int (Int32.ofNat E3)), .val (.int (Int32.ofNat P4)), .val (.int (Int32.ofNat E4)), .val (.long (Int64.ofNat W)), .second, .val (.ref ps), .val (.ref es), .val (.int (Int32.ofNat D.length)), .unset, .unset] [(.int (Int32.ofNat D.length)), (.ref es)]))
    refine own_st (fun _ k => XS.iload X3.here hx rfl (hb hby at_336) rfl k) ?_
    show own_G _ _ _ _ (T3.setTop (mkF m 338 #[s0, s1, s2, s3, s4, s5, s6, s7, s8, s9, .val (.int (Int32.ofNat P1)), .val (.int (Int32.ofNat E1)), .val (.int (Int32.ofNat P2)), .val (.int (Int32.ofNat E2)), .val (.int (Int32.ofNat P3)), .val (.int (Int32.ofNat E3)), .val (.int (Int32.ofNat P4)), .val (.int (Int32.ofNat E4)), .val (.long (Int64.ofNat W)), .second, .val (.ref ps), .val (.ref es), .val (.int (Int32.ofNat D.length)), .unset, .unset] [(.int (Int32.ofNat E3)), (.int (Int32.ofNat D.length)), (.ref es)]))
    refine own_st (fun _ k => XS.i2l X3.here hx rfl (hb hby at_338) rfl k) ?_
    show own_G _ _ _ _ (T3.setTop (mkF m 339 #[s0, s1, s2, s3, s4, s5, s6, s7, s8, s9, .val (.int (Int32.ofNat P1)), .val (.int (Int32.ofNat E1)), .val (.int (Int32.ofNat P2)), .val (.int (Int32.ofNat E2)), .val (.int (Int32.ofNat P3)), .val (.int (Int32.ofNat E3)), .val (.int (Int32.ofNat P4)), .val (.int (Int32.ofNat E4)), .val (.long (Int64.ofNat W)), .second, .val (.ref ps), .val (.ref es), .val (.int (Int32.ofNat D.length)), .unset, .unset] [(.long ((Int32.ofNat E3).toInt64)), (.int (Int32.ofNat D.length)), (.ref es)]))
    rw [own_i2l (by omega)]
    show own_G _ _ _ _ (T3.setTop (mkF m 339 #[s0, s1, s2, s3, s4, s5, s6, s7, s8, s9, .val (.int (Int32.ofNat P1)), .val (.int (Int32.ofNat E1)), .val (.int (Int32.ofNat P2)), .val (.int (Int32.ofNat E2)), .val (.int (Int32.ofNat P3)), .val (.int (Int32.ofNat E3)), .val (.int (Int32.ofNat P4)), .val (.int (Int32.ofNat E4)), .val (.long (Int64.ofNat W)), .second, .val (.ref ps), .val (.ref es), .val (.int (Int32.ofNat D.length)), .unset, .unset] [(.long (Int64.ofNat E3)), (.int (Int32.ofNat D.length)), (.ref es)]))
    have q7 : Arv Z h3 es ke .long (Int32.ofNat 4) (own_valsL (own_ge D) D.length) (.long (0 : Int64)) := (Ve.other W3 (show @Ne Nat es ps by omega))
    have V8p : Arv Z h3 es ke .long (Int32.ofNat 4) ((own_valsL (own_ge D) D.length) ++ [(.long (0 : Int64))]) (.long (0 : Int64)) := q7.pad (pad_rep (own_valsL (own_ge D) D.length) (.long (0 : Int64)) 1)
    obtain ⟨cl9, Ar9, qk9, Sz9, Mz9, Hz9, Uz9⟩ := id V8p
    obtain ⟨T10, h10, X10, e10, W10, st10⟩ := stJ X3 hx hZ e3 Ar9 (j := (Int32.ofNat D.length)) (own_in (n := 4) Sz9 (by omega) (by omega)) (g := (mkF m 339 #[s0, s1, s2, s3, s4, s5, s6, s7, s8, s9, .val (.int (Int32.ofNat P1)), .val (.int (Int32.ofNat E1)), .val (.int (Int32.ofNat P2)), .val (.int (Int32.ofNat E2)), .val (.int (Int32.ofNat P3)), .val (.int (Int32.ofNat E3)), .val (.int (Int32.ofNat P4)), .val (.int (Int32.ofNat E4)), .val (.long (Int64.ofNat W)), .second, .val (.ref ps), .val (.ref es), .val (.int (Int32.ofNat D.length)), .unset, .unset] [(.long (Int64.ofNat E3)), (.int (Int32.ofNat D.length)), (.ref es)])) rfl rfl (hb hby at_339)
    refine own_st st10 ?_
    have V10 := Arv.set Ar9 qk9 Sz9 Mz9 Hz9 Uz9 rfl W10 (own_valsL (own_ge D) D.length).length (by rw [own_clamp (by omega), own_lenL]) (by simp)
    have z11 : h10.size = h3.size := W10.size
    have O12 := Old.wr O5 W10 (by omega)
    have K13 : Keep h0 h10 [ps, es] := K6.wr W10 (Or.inl (by simp))
    have N10 := Fr.snoc X10 N3 (by omega : Z.heap.size ≤ es)
    have V10' : Arv Z h10 es ke .long (Int32.ofNat 4) (own_valsL (own_ge (D ++ [(P3, E3)])) (D.length + 1)) (.long (0 : Int64)) := by have q := V10; rw [own_set] at q; rw [own_ge_app]; exact q
    show own_G _ _ _ _ (T10.setTop (mkF m 340 #[s0, s1, s2, s3, s4, s5, s6, s7, s8, s9, .val (.int (Int32.ofNat P1)), .val (.int (Int32.ofNat E1)), .val (.int (Int32.ofNat P2)), .val (.int (Int32.ofNat E2)), .val (.int (Int32.ofNat P3)), .val (.int (Int32.ofNat E3)), .val (.int (Int32.ofNat P4)), .val (.int (Int32.ofNat E4)), .val (.long (Int64.ofNat W)), .second, .val (.ref ps), .val (.ref es), .val (.int (Int32.ofNat D.length)), .unset, .unset] []))
    refine own_st (fun _ k => XS.iinc X10.here hx rfl (hb hby at_340) rfl (l' := #[s0, s1, s2, s3, s4, s5, s6, s7, s8, s9, .val (.int (Int32.ofNat P1)), .val (.int (Int32.ofNat E1)), .val (.int (Int32.ofNat P2)), .val (.int (Int32.ofNat E2)), .val (.int (Int32.ofNat P3)), .val (.int (Int32.ofNat E3)), .val (.int (Int32.ofNat P4)), .val (.int (Int32.ofNat E4)), .val (.long (Int64.ofNat W)), .second, .val (.ref ps), .val (.ref es), .val (.int ((Int32.ofNat D.length) + (1 : Int32))), .unset, .unset]) rfl k) ?_
    show own_G _ _ _ _ (T10.setTop (mkF m 343 #[s0, s1, s2, s3, s4, s5, s6, s7, s8, s9, .val (.int (Int32.ofNat P1)), .val (.int (Int32.ofNat E1)), .val (.int (Int32.ofNat P2)), .val (.int (Int32.ofNat E2)), .val (.int (Int32.ofNat P3)), .val (.int (Int32.ofNat E3)), .val (.int (Int32.ofNat P4)), .val (.int (Int32.ofNat E4)), .val (.long (Int64.ofNat W)), .second, .val (.ref ps), .val (.ref es), .val (.int ((Int32.ofNat D.length) + (1 : Int32))), .unset, .unset] []))
    have hl1 : (D ++ [(P3, E3)]).length = D.length + 1 := by simp
    have hD' : (D ++ [(P3, E3)]).length ≤ 3 := by omega
    have q14 : Arv Z h10 ps kp .int (Int32.ofNat 4) (own_vals (own_fp (D ++ [(P3, E3)])) (D.length + 1)) (.int (0 : Int32)) := (V3'.other W10 (show @Ne Nat ps es by omega))
    have Vp2 := q14
    have Ve2 := V10'
    rw [own_one]
    rw [← hl1] at Vp2 Ve2 ⊢
    exact own_lw4 ps es kp ke (D ++ [(P3, E3)]) W P1 E1 P2 E2 P3 E3 P4 E4 _ _ _ _ _ _ _ _ _ _ hx hZ hw hby hml hown X10 e10 N10 O12 hret hlk hcs hss gp ge net hD' hP1 hP2 hP3 hP4 hE1 hE2 hE3 hE4 hall' Vp2 Ve2
  · skip
    refine own_st (fun _ k => XS.ifYes X0.here hx rfl (pc0 := 322) (pc' := 343) rfl (hb hby at_322) rfl ((if0 _ _).trans (flt (own_nlt (a := 0) hE (by decide) (by omega))).2.2.2) (by decide) (by decide) k) ?_
    show own_G _ _ _ _ (T0.setTop (mkF m 343 #[s0, s1, s2, s3, s4, s5, s6, s7, s8, s9, .val (.int (Int32.ofNat P1)), .val (.int (Int32.ofNat E1)), .val (.int (Int32.ofNat P2)), .val (.int (Int32.ofNat E2)), .val (.int (Int32.ofNat P3)), .val (.int (Int32.ofNat E3)), .val (.int (Int32.ofNat P4)), .val (.int (Int32.ofNat E4)), .val (.long (Int64.ofNat W)), .second, .val (.ref ps), .val (.ref es), .val (.int (Int32.ofNat D.length)), .unset, .unset] []))
    have hall' : own_all (D ++ own_kept [(P4, E4)]) W := by have q := hall; unfold own_kept at q; rw [if_neg hE] at q; exact q
    have hD' : D.length ≤ 3 := by omega
    exact own_lw4 ps es kp ke D W P1 E1 P2 E2 P3 E3 P4 E4 _ _ _ _ _ _ _ _ _ _ hx hZ hw hby hml hown X0 e0 N0 O0 hret hlk hcs hss gp ge net hD' hP1 hP2 hP3 hP4 hE1 hE2 hE3 hE4 hall' Vp Ve
set_option maxRecDepth 65536 in
set_option maxHeartbeats 40000000 in
theorem own_lw2 {p : Program} {l : Launch} {e : Env} {s : State} {m : MethodId} {args : Array Value} {below : List Frame} {meth : Method} {c : Code} {Z : State} {a0 : Array Value} {locs : List Loc} {cells slots : Nat} {T0 : State} {h0 : Heap}  (ps es : Addr) (kp ke : ClassId) (D : List (Nat × Nat)) (W P1 E1 P2 E2 P3 E3 P4 E4 : Nat) (s0 s1 s2 s3 s4 s5 s6 s7 s8 s9 : Slot) (hx : p.tables.exec = Jvm.exec) (hZ : Z.Warmed39 s.vm) (hw : ∀ d ∈ tables_1, d.before a0 Z = true) (hby : c.code = code) (hml : c.maxLocals = 25) (hown : s.vm.findClass "com/example/libfacet/libfacet/exact/FactorizationOfPinLaw" = some m.cls) (X0 : Stand p l e room_1 s m args below meth c T0 locs cells slots) (e0 : T0.heap = h0) (N0 : Fr Z.heap.size locs) (O0 : Old Z Z.heap.size h0) (hret : meth.sig.returnType = some .boolean) (hlk : meth.locks = false) (hcs : cells + 5 ≤ 32) (hss : slots + 75 ≤ 320) (gp : Z.heap.size ≤ ps) (ge : Z.heap.size ≤ es) (net : @Ne Nat ps es) (hD : D.length ≤ 1) (hP1 : P1 < 2147483648) (hP2 : P2 < 2147483648) (hP3 : P3 < 2147483648) (hP4 : P4 < 2147483648) (hE1 : E1 < 2147483648) (hE2 : E2 < 2147483648) (hE3 : E3 < 2147483648) (hE4 : E4 < 2147483648) (hall : own_all (D ++ own_kept [(P2, E2), (P3, E3), (P4, E4)]) W) (Vp : Arv Z h0 ps kp .int (Int32.ofNat 4) (own_vals (own_fp D) D.length) (.int (0 : Int32))) (Ve : Arv Z h0 es ke .long (Int32.ofNat 4) (own_valsL (own_ge D) D.length) (.long (0 : Int64)))
     :
    own_G p.tables e below (own_F s below (fun v h L => v = some (.int 1) ∧ Fr Z.heap.size L) 32 320) (T0.setTop (mkF m 297 #[s0, s1, s2, s3, s4, s5, s6, s7, s8, s9, .val (.int (Int32.ofNat P1)), .val (.int (Int32.ofNat E1)), .val (.int (Int32.ofNat P2)), .val (.int (Int32.ofNat E2)), .val (.int (Int32.ofNat P3)), .val (.int (Int32.ofNat E3)), .val (.int (Int32.ofNat P4)), .val (.int (Int32.ofNat E4)), .val (.long (Int64.ofNat W)), .second, .val (.ref ps), .val (.ref es), .val (.int (Int32.ofNat D.length)), .unset, .unset] [])) := by
  have z0 : Z.heap.size ≤ h0.size := O0.2.1
  have Kr := Keep.refl h0 [ps, es]
  show own_G _ _ _ _ (T0.setTop (mkF m 297 #[s0, s1, s2, s3, s4, s5, s6, s7, s8, s9, .val (.int (Int32.ofNat P1)), .val (.int (Int32.ofNat E1)), .val (.int (Int32.ofNat P2)), .val (.int (Int32.ofNat E2)), .val (.int (Int32.ofNat P3)), .val (.int (Int32.ofNat E3)), .val (.int (Int32.ofNat P4)), .val (.int (Int32.ofNat E4)), .val (.long (Int64.ofNat W)), .second, .val (.ref ps), .val (.ref es), .val (.int (Int32.ofNat D.length)), .unset, .unset] []))
  have ltp := own_ltN Vp.lt
  have lte := own_ltN Ve.lt
  refine own_st (fun _ k => XS.iload X0.here hx rfl (hb hby at_297) rfl k) ?_
  show own_G _ _ _ _ (T0.setTop (mkF m 299 #[s0, s1, s2, s3, s4, s5, s6, s7, s8, s9, .val (.int (Int32.ofNat P1)), .val (.int (Int32.ofNat E1)), .val (.int (Int32.ofNat P2)), .val (.int (Int32.ofNat E2)), .val (.int (Int32.ofNat P3)), .val (.int (Int32.ofNat E3)), .val (.int (Int32.ofNat P4)), .val (.int (Int32.ofNat E4)), .val (.long (Int64.ofNat W)), .second, .val (.ref ps), .val (.ref es), .val (.int (Int32.ofNat D.length)), .unset, .unset] [(.int (Int32.ofNat E2))]))
  by_cases hE : 0 < E2
  · skip
    refine own_st (fun _ k => XS.ifNo X0.here hx rfl (hb hby at_299) rfl ((if0 _ _).trans (tlt (own_lt (i := 0) hE (by omega))).2.2.2) k) ?_
    show own_G _ _ _ _ (T0.setTop (mkF m 302 #[s0, s1, s2, s3, s4, s5, s6, s7, s8, s9, .val (.int (Int32.ofNat P1)), .val (.int (Int32.ofNat E1)), .val (.int (Int32.ofNat P2)), .val (.int (Int32.ofNat E2)), .val (.int (Int32.ofNat P3)), .val (.int (Int32.ofNat E3)), .val (.int (Int32.ofNat P4)), .val (.int (Int32.ofNat E4)), .val (.long (Int64.ofNat W)), .second, .val (.ref ps), .val (.ref es), .val (.int (Int32.ofNat D.length)), .unset, .unset] []))
    refine own_st (fun _ k => XS.aload X0.here hx rfl (hb hby at_302) rfl rfl k) ?_
    show own_G _ _ _ _ (T0.setTop (mkF m 304 #[s0, s1, s2, s3, s4, s5, s6, s7, s8, s9, .val (.int (Int32.ofNat P1)), .val (.int (Int32.ofNat E1)), .val (.int (Int32.ofNat P2)), .val (.int (Int32.ofNat E2)), .val (.int (Int32.ofNat P3)), .val (.int (Int32.ofNat E3)), .val (.int (Int32.ofNat P4)), .val (.int (Int32.ofNat E4)), .val (.long (Int64.ofNat W)), .second, .val (.ref ps), .val (.ref es), .val (.int (Int32.ofNat D.length)), .unset, .unset] [(.ref ps)]))
    refine own_st (fun _ k => XS.iload X0.here hx rfl (hb hby at_304) rfl k) ?_
    show own_G _ _ _ _ (T0.setTop (mkF m 306 #[s0, s1, s2, s3, s4, s5, s6, s7, s8, s9, .val (.int (Int32.ofNat P1)), .val (.int (Int32.ofNat E1)), .val (.int (Int32.ofNat P2)), .val (.int (Int32.ofNat E2)), .val (.int (Int32.ofNat P3)), .val (.int (Int32.ofNat E3)), .val (.int (Int32.ofNat P4)), .val (.int (Int32.ofNat E4)), .val (.long (Int64.ofNat W)), .second, .val (.ref ps), .val (.ref es), .val (.int (Int32.ofNat D.length)), .unset, .unset] [(.int (Int32.ofNat D.length)), (.ref ps)]))
    refine own_st (fun _ k => XS.iload X0.here hx rfl (hb hby at_306) rfl k) ?_
    show own_G _ _ _ _ (T0.setTop (mkF m 308 #[s0, s1, s2, s3, s4, s5, s6, s7, s8, s9, .val (.int (Int32.ofNat P1)), .val (.int (Int32.ofNat E1)), .val (.int (Int32.ofNat P2)), .val (.int (Int32.ofNat E2)), .val (.int (Int32.ofNat P3)), .val (.int (Int32.ofNat E3)), .val (.int (Int32.ofNat P4)), .val (.int (Int32.ofNat E4)), .val (.long (Int64.ofNat W)), .second, .val (.ref ps), .val (.ref es), .val (.int (Int32.ofNat D.length)), .unset, .unset] [(.int (Int32.ofNat P2)), (.int (Int32.ofNat D.length)), (.ref ps)]))
    have V1p : Arv Z h0 ps kp .int (Int32.ofNat 4) ((own_vals (own_fp D) D.length) ++ [(.int (0 : Int32))]) (.int (0 : Int32)) := Vp.pad (pad_rep (own_vals (own_fp D) D.length) (.int (0 : Int32)) 1)
    have hall' : own_all (D ++ [(P2, E2)] ++ own_kept [(P3, E3), (P4, E4)]) W := by have q := hall; unfold own_kept at q; rw [if_pos hE] at q; rw [List.append_assoc]; exact q
    obtain ⟨cl2, Ar2, qk2, Sz2, Mz2, Hz2, Uz2⟩ := id V1p
    obtain ⟨T3, h3, X3, e3, W3, st3⟩ := stI X0 hx hZ e0 Ar2 (j := (Int32.ofNat D.length)) (own_in (n := 4) Sz2 (by omega) (by omega)) (g := (mkF m 308 #[s0, s1, s2, s3, s4, s5, s6, s7, s8, s9, .val (.int (Int32.ofNat P1)), .val (.int (Int32.ofNat E1)), .val (.int (Int32.ofNat P2)), .val (.int (Int32.ofNat E2)), .val (.int (Int32.ofNat P3)), .val (.int (Int32.ofNat E3)), .val (.int (Int32.ofNat P4)), .val (.int (Int32.ofNat E4)), .val (.long (Int64.ofNat W)), .second, .val (.ref ps), .val (.ref es), .val (.int (Int32.ofNat D.length)), .unset, .unset] [(.int (Int32.ofNat P2)), (.int (Int32.ofNat D.length)), (.ref ps)])) rfl rfl (hb hby at_308)
    refine own_st st3 ?_
    have V3 := Arv.set Ar2 qk2 Sz2 Mz2 Hz2 Uz2 rfl W3 (own_vals (own_fp D) D.length).length (by rw [own_clamp (by omega), own_len]) (by simp)
    have z4 : h3.size = h0.size := W3.size
    have O5 := Old.wr O0 W3 (by omega)
    have K6 : Keep h0 h3 [ps, es] := Kr.wr W3 (Or.inl (by simp))
    have N3 := Fr.snoc X3 N0 (by omega : Z.heap.size ≤ ps)
    have V3' : Arv Z h3 ps kp .int (Int32.ofNat 4) (own_vals (own_fp (D ++ [(P2, E2)])) (D.length + 1)) (.int (0 : Int32)) := by have q := V3; rw [own_set] at q; rw [own_fp_app]; exact q
    show own_G _ _ _ _ (T3.setTop (mkF m 309 #[s0, s1, s2, s3, s4, s5, s6, s7, s8, s9, .val (.int (Int32.ofNat P1)), .val (.int (Int32.ofNat E1)), .val (.int (Int32.ofNat P2)), .val (.int (Int32.ofNat E2)), .val (.int (Int32.ofNat P3)), .val (.int (Int32.ofNat E3)), .val (.int (Int32.ofNat P4)), .val (.int (Int32.ofNat E4)), .val (.long (Int64.ofNat W)), .second, .val (.ref ps), .val (.ref es), .val (.int (Int32.ofNat D.length)), .unset, .unset] []))
    refine own_st (fun _ k => XS.aload X3.here hx rfl (hb hby at_309) rfl rfl k) ?_
    show own_G _ _ _ _ (T3.setTop (mkF m 311 #[s0, s1, s2, s3, s4, s5, s6, s7, s8, s9, .val (.int (Int32.ofNat P1)), .val (.int (Int32.ofNat E1)), .val (.int (Int32.ofNat P2)), .val (.int (Int32.ofNat E2)), .val (.int (Int32.ofNat P3)), .val (.int (Int32.ofNat E3)), .val (.int (Int32.ofNat P4)), .val (.int (Int32.ofNat E4)), .val (.long (Int64.ofNat W)), .second, .val (.ref ps), .val (.ref es), .val (.int (Int32.ofNat D.length)), .unset, .unset] [(.ref es)]))
    refine own_st (fun _ k => XS.iload X3.here hx rfl (hb hby at_311) rfl k) ?_
    show own_G _ _ _ _ (T3.setTop (mkF m 313 #[s0, s1, s2, s3, s4, s5, s6, s7, s8, s9, .val (.int (Int32.ofNat P1)), .val (.int (Int32.ofNat E1)), .val (.int (Int32.ofNat P2)), .val (.int (Int32.ofNat E2)), .val (.int (Int32.ofNat P3)), .val (.int (Int32.ofNat E3)), .val (.int (Int32.ofNat P4)), .val (.int (Int32.ofNat E4)), .val (.long (Int64.ofNat W)), .second, .val (.ref ps), .val (.ref es), .val (.int (Int32.ofNat D.length)), .unset, .unset] [(.int (Int32.ofNat D.length)), (.ref es)]))
    refine own_st (fun _ k => XS.iload X3.here hx rfl (hb hby at_313) rfl k) ?_
    show own_G _ _ _ _ (T3.setTop (mkF m 315 #[s0, s1, s2, s3, s4, s5, s6, s7, s8, s9, .val (.int (Int32.ofNat P1)), .val (.int (Int32.ofNat E1)), .val (.int (Int32.ofNat P2)), .val (.int (Int32.ofNat E2)), .val (.int (Int32.ofNat P3)), .val (.int (Int32.ofNat E3)), .val (.int (Int32.ofNat P4)), .val (.int (Int32.ofNat E4)), .val (.long (Int64.ofNat W)), .second, .val (.ref ps), .val (.ref es), .val (.int (Int32.ofNat D.length)), .unset, .unset] [(.int (Int32.ofNat E2)), (.int (Int32.ofNat D.length)), (.ref es)]))
    refine own_st (fun _ k => XS.i2l X3.here hx rfl (hb hby at_315) rfl k) ?_
    show own_G _ _ _ _ (T3.setTop (mkF m 316 #[s0, s1, s2, s3, s4, s5, s6, s7, s8, s9, .val (.int (Int32.ofNat P1)), .val (.int (Int32.ofNat E1)), .val (.int (Int32.ofNat P2)), .val (.int (Int32.ofNat E2)), .val (.int (Int32.ofNat P3)), .val (.int (Int32.ofNat E3)), .val (.int (Int32.ofNat P4)), .val (.int (Int32.ofNat E4)), .val (.long (Int64.ofNat W)), .second, .val (.ref ps), .val (.ref es), .val (.int (Int32.ofNat D.length)), .unset, .unset] [(.long ((Int32.ofNat E2).toInt64)), (.int (Int32.ofNat D.length)), (.ref es)]))
    rw [own_i2l (by omega)]
    show own_G _ _ _ _ (T3.setTop (mkF m 316 #[s0, s1, s2, s3, s4, s5, s6, s7, s8, s9, .val (.int (Int32.ofNat P1)), .val (.int (Int32.ofNat E1)), .val (.int (Int32.ofNat P2)), .val (.int (Int32.ofNat E2)), .val (.int (Int32.ofNat P3)), .val (.int (Int32.ofNat E3)), .val (.int (Int32.ofNat P4)), .val (.int (Int32.ofNat E4)), .val (.long (Int64.ofNat W)), .second, .val (.ref ps), .val (.ref es), .val (.int (Int32.ofNat D.length)), .unset, .unset] [(.long (Int64.ofNat E2)), (.int (Int32.ofNat D.length)), (.ref es)]))
    have q7 : Arv Z h3 es ke .long (Int32.ofNat 4) (own_valsL (own_ge D) D.length) (.long (0 : Int64)) := (Ve.other W3 (show @Ne Nat es ps by omega))
    have V8p : Arv Z h3 es ke .long (Int32.ofNat 4) ((own_valsL (own_ge D) D.length) ++ [(.long (0 : Int64))]) (.long (0 : Int64)) := q7.pad (pad_rep (own_valsL (own_ge D) D.length) (.long (0 : Int64)) 1)
    obtain ⟨cl9, Ar9, qk9, Sz9, Mz9, Hz9, Uz9⟩ := id V8p
    obtain ⟨T10, h10, X10, e10, W10, st10⟩ := stJ X3 hx hZ e3 Ar9 (j := (Int32.ofNat D.length)) (own_in (n := 4) Sz9 (by omega) (by omega)) (g := (mkF m 316 #[s0, s1, s2, s3, s4, s5, s6, s7, s8, s9, .val (.int (Int32.ofNat P1)), .val (.int (Int32.ofNat E1)), .val (.int (Int32.ofNat P2)), .val (.int (Int32.ofNat E2)), .val (.int (Int32.ofNat P3)), .val (.int (Int32.ofNat E3)), .val (.int (Int32.ofNat P4)), .val (.int (Int32.ofNat E4)), .val (.long (Int64.ofNat W)), .second, .val (.ref ps), .val (.ref es), .val (.int (Int32.ofNat D.length)), .unset, .unset] [(.long (Int64.ofNat E2)), (.int (Int32.ofNat D.length)), (.ref es)])) rfl rfl (hb hby at_316)
    refine own_st st10 ?_
    have V10 := Arv.set Ar9 qk9 Sz9 Mz9 Hz9 Uz9 rfl W10 (own_valsL (own_ge D) D.length).length (by rw [own_clamp (by omega), own_lenL]) (by simp)
    have z11 : h10.size = h3.size := W10.size
    have O12 := Old.wr O5 W10 (by omega)
    have K13 : Keep h0 h10 [ps, es] := K6.wr W10 (Or.inl (by simp))
    have N10 := Fr.snoc X10 N3 (by omega : Z.heap.size ≤ es)
    have V10' : Arv Z h10 es ke .long (Int32.ofNat 4) (own_valsL (own_ge (D ++ [(P2, E2)])) (D.length + 1)) (.long (0 : Int64)) := by have q := V10; rw [own_set] at q; rw [own_ge_app]; exact q
    show own_G _ _ _ _ (T10.setTop (mkF m 317 #[s0, s1, s2, s3, s4, s5, s6, s7, s8, s9, .val (.int (Int32.ofNat P1)), .val (.int (Int32.ofNat E1)), .val (.int (Int32.ofNat P2)), .val (.int (Int32.ofNat E2)), .val (.int (Int32.ofNat P3)), .val (.int (Int32.ofNat E3)), .val (.int (Int32.ofNat P4)), .val (.int (Int32.ofNat E4)), .val (.long (Int64.ofNat W)), .second, .val (.ref ps), .val (.ref es), .val (.int (Int32.ofNat D.length)), .unset, .unset] []))
    refine own_st (fun _ k => XS.iinc X10.here hx rfl (hb hby at_317) rfl (l' := #[s0, s1, s2, s3, s4, s5, s6, s7, s8, s9, .val (.int (Int32.ofNat P1)), .val (.int (Int32.ofNat E1)), .val (.int (Int32.ofNat P2)), .val (.int (Int32.ofNat E2)), .val (.int (Int32.ofNat P3)), .val (.int (Int32.ofNat E3)), .val (.int (Int32.ofNat P4)), .val (.int (Int32.ofNat E4)), .val (.long (Int64.ofNat W)), .second, .val (.ref ps), .val (.ref es), .val (.int ((Int32.ofNat D.length) + (1 : Int32))), .unset, .unset]) rfl k) ?_
    show own_G _ _ _ _ (T10.setTop (mkF m 320 #[s0, s1, s2, s3, s4, s5, s6, s7, s8, s9, .val (.int (Int32.ofNat P1)), .val (.int (Int32.ofNat E1)), .val (.int (Int32.ofNat P2)), .val (.int (Int32.ofNat E2)), .val (.int (Int32.ofNat P3)), .val (.int (Int32.ofNat E3)), .val (.int (Int32.ofNat P4)), .val (.int (Int32.ofNat E4)), .val (.long (Int64.ofNat W)), .second, .val (.ref ps), .val (.ref es), .val (.int ((Int32.ofNat D.length) + (1 : Int32))), .unset, .unset] []))
    have hl1 : (D ++ [(P2, E2)]).length = D.length + 1 := by simp
    have hD' : (D ++ [(P2, E2)]).length ≤ 2 := by omega
    have q14 : Arv Z h10 ps kp .int (Int32.ofNat 4) (own_vals (own_fp (D ++ [(P2, E2)])) (D.length + 1)) (.int (0 : Int32)) := (V3'.other W10 (show @Ne Nat ps es by omega))
    have Vp2 := q14
    have Ve2 := V10'
    rw [own_one]
    rw [← hl1] at Vp2 Ve2 ⊢
    exact own_lw3 ps es kp ke (D ++ [(P2, E2)]) W P1 E1 P2 E2 P3 E3 P4 E4 _ _ _ _ _ _ _ _ _ _ hx hZ hw hby hml hown X10 e10 N10 O12 hret hlk hcs hss gp ge net hD' hP1 hP2 hP3 hP4 hE1 hE2 hE3 hE4 hall' Vp2 Ve2
  · skip
    refine own_st (fun _ k => XS.ifYes X0.here hx rfl (pc0 := 299) (pc' := 320) rfl (hb hby at_299) rfl ((if0 _ _).trans (flt (own_nlt (a := 0) hE (by decide) (by omega))).2.2.2) (by decide) (by decide) k) ?_
    show own_G _ _ _ _ (T0.setTop (mkF m 320 #[s0, s1, s2, s3, s4, s5, s6, s7, s8, s9, .val (.int (Int32.ofNat P1)), .val (.int (Int32.ofNat E1)), .val (.int (Int32.ofNat P2)), .val (.int (Int32.ofNat E2)), .val (.int (Int32.ofNat P3)), .val (.int (Int32.ofNat E3)), .val (.int (Int32.ofNat P4)), .val (.int (Int32.ofNat E4)), .val (.long (Int64.ofNat W)), .second, .val (.ref ps), .val (.ref es), .val (.int (Int32.ofNat D.length)), .unset, .unset] []))
    have hall' : own_all (D ++ own_kept [(P3, E3), (P4, E4)]) W := by have q := hall; unfold own_kept at q; rw [if_neg hE] at q; exact q
    have hD' : D.length ≤ 2 := by omega
    exact own_lw3 ps es kp ke D W P1 E1 P2 E2 P3 E3 P4 E4 _ _ _ _ _ _ _ _ _ _ hx hZ hw hby hml hown X0 e0 N0 O0 hret hlk hcs hss gp ge net hD' hP1 hP2 hP3 hP4 hE1 hE2 hE3 hE4 hall' Vp Ve
set_option maxRecDepth 65536 in
set_option maxHeartbeats 40000000 in
theorem own_lw1 {p : Program} {l : Launch} {e : Env} {s : State} {m : MethodId} {args : Array Value} {below : List Frame} {meth : Method} {c : Code} {Z : State} {a0 : Array Value} {locs : List Loc} {cells slots : Nat} {T0 : State} {h0 : Heap}  (ps es : Addr) (kp ke : ClassId) (D : List (Nat × Nat)) (W P1 E1 P2 E2 P3 E3 P4 E4 : Nat) (s0 s1 s2 s3 s4 s5 s6 s7 s8 s9 : Slot) (hx : p.tables.exec = Jvm.exec) (hZ : Z.Warmed39 s.vm) (hw : ∀ d ∈ tables_1, d.before a0 Z = true) (hby : c.code = code) (hml : c.maxLocals = 25) (hown : s.vm.findClass "com/example/libfacet/libfacet/exact/FactorizationOfPinLaw" = some m.cls) (X0 : Stand p l e room_1 s m args below meth c T0 locs cells slots) (e0 : T0.heap = h0) (N0 : Fr Z.heap.size locs) (O0 : Old Z Z.heap.size h0) (hret : meth.sig.returnType = some .boolean) (hlk : meth.locks = false) (hcs : cells + 5 ≤ 32) (hss : slots + 75 ≤ 320) (gp : Z.heap.size ≤ ps) (ge : Z.heap.size ≤ es) (net : @Ne Nat ps es) (hD : D.length ≤ 0) (hP1 : P1 < 2147483648) (hP2 : P2 < 2147483648) (hP3 : P3 < 2147483648) (hP4 : P4 < 2147483648) (hE1 : E1 < 2147483648) (hE2 : E2 < 2147483648) (hE3 : E3 < 2147483648) (hE4 : E4 < 2147483648) (hall : own_all (D ++ own_kept [(P1, E1), (P2, E2), (P3, E3), (P4, E4)]) W) (Vp : Arv Z h0 ps kp .int (Int32.ofNat 4) (own_vals (own_fp D) D.length) (.int (0 : Int32))) (Ve : Arv Z h0 es ke .long (Int32.ofNat 4) (own_valsL (own_ge D) D.length) (.long (0 : Int64)))
     :
    own_G p.tables e below (own_F s below (fun v h L => v = some (.int 1) ∧ Fr Z.heap.size L) 32 320) (T0.setTop (mkF m 274 #[s0, s1, s2, s3, s4, s5, s6, s7, s8, s9, .val (.int (Int32.ofNat P1)), .val (.int (Int32.ofNat E1)), .val (.int (Int32.ofNat P2)), .val (.int (Int32.ofNat E2)), .val (.int (Int32.ofNat P3)), .val (.int (Int32.ofNat E3)), .val (.int (Int32.ofNat P4)), .val (.int (Int32.ofNat E4)), .val (.long (Int64.ofNat W)), .second, .val (.ref ps), .val (.ref es), .val (.int (Int32.ofNat D.length)), .unset, .unset] [])) := by
  have z0 : Z.heap.size ≤ h0.size := O0.2.1
  have Kr := Keep.refl h0 [ps, es]
  show own_G _ _ _ _ (T0.setTop (mkF m 274 #[s0, s1, s2, s3, s4, s5, s6, s7, s8, s9, .val (.int (Int32.ofNat P1)), .val (.int (Int32.ofNat E1)), .val (.int (Int32.ofNat P2)), .val (.int (Int32.ofNat E2)), .val (.int (Int32.ofNat P3)), .val (.int (Int32.ofNat E3)), .val (.int (Int32.ofNat P4)), .val (.int (Int32.ofNat E4)), .val (.long (Int64.ofNat W)), .second, .val (.ref ps), .val (.ref es), .val (.int (Int32.ofNat D.length)), .unset, .unset] []))
  have ltp := own_ltN Vp.lt
  have lte := own_ltN Ve.lt
  refine own_st (fun _ k => XS.iload X0.here hx rfl (hb hby at_274) rfl k) ?_
  show own_G _ _ _ _ (T0.setTop (mkF m 276 #[s0, s1, s2, s3, s4, s5, s6, s7, s8, s9, .val (.int (Int32.ofNat P1)), .val (.int (Int32.ofNat E1)), .val (.int (Int32.ofNat P2)), .val (.int (Int32.ofNat E2)), .val (.int (Int32.ofNat P3)), .val (.int (Int32.ofNat E3)), .val (.int (Int32.ofNat P4)), .val (.int (Int32.ofNat E4)), .val (.long (Int64.ofNat W)), .second, .val (.ref ps), .val (.ref es), .val (.int (Int32.ofNat D.length)), .unset, .unset] [(.int (Int32.ofNat E1))]))
  by_cases hE : 0 < E1
  · skip
    refine own_st (fun _ k => XS.ifNo X0.here hx rfl (hb hby at_276) rfl ((if0 _ _).trans (tlt (own_lt (i := 0) hE (by omega))).2.2.2) k) ?_
    show own_G _ _ _ _ (T0.setTop (mkF m 279 #[s0, s1, s2, s3, s4, s5, s6, s7, s8, s9, .val (.int (Int32.ofNat P1)), .val (.int (Int32.ofNat E1)), .val (.int (Int32.ofNat P2)), .val (.int (Int32.ofNat E2)), .val (.int (Int32.ofNat P3)), .val (.int (Int32.ofNat E3)), .val (.int (Int32.ofNat P4)), .val (.int (Int32.ofNat E4)), .val (.long (Int64.ofNat W)), .second, .val (.ref ps), .val (.ref es), .val (.int (Int32.ofNat D.length)), .unset, .unset] []))
    refine own_st (fun _ k => XS.aload X0.here hx rfl (hb hby at_279) rfl rfl k) ?_
    show own_G _ _ _ _ (T0.setTop (mkF m 281 #[s0, s1, s2, s3, s4, s5, s6, s7, s8, s9, .val (.int (Int32.ofNat P1)), .val (.int (Int32.ofNat E1)), .val (.int (Int32.ofNat P2)), .val (.int (Int32.ofNat E2)), .val (.int (Int32.ofNat P3)), .val (.int (Int32.ofNat E3)), .val (.int (Int32.ofNat P4)), .val (.int (Int32.ofNat E4)), .val (.long (Int64.ofNat W)), .second, .val (.ref ps), .val (.ref es), .val (.int (Int32.ofNat D.length)), .unset, .unset] [(.ref ps)]))
    refine own_st (fun _ k => XS.iload X0.here hx rfl (hb hby at_281) rfl k) ?_
    show own_G _ _ _ _ (T0.setTop (mkF m 283 #[s0, s1, s2, s3, s4, s5, s6, s7, s8, s9, .val (.int (Int32.ofNat P1)), .val (.int (Int32.ofNat E1)), .val (.int (Int32.ofNat P2)), .val (.int (Int32.ofNat E2)), .val (.int (Int32.ofNat P3)), .val (.int (Int32.ofNat E3)), .val (.int (Int32.ofNat P4)), .val (.int (Int32.ofNat E4)), .val (.long (Int64.ofNat W)), .second, .val (.ref ps), .val (.ref es), .val (.int (Int32.ofNat D.length)), .unset, .unset] [(.int (Int32.ofNat D.length)), (.ref ps)]))
    refine own_st (fun _ k => XS.iload X0.here hx rfl (hb hby at_283) rfl k) ?_
    show own_G _ _ _ _ (T0.setTop (mkF m 285 #[s0, s1, s2, s3, s4, s5, s6, s7, s8, s9, .val (.int (Int32.ofNat P1)), .val (.int (Int32.ofNat E1)), .val (.int (Int32.ofNat P2)), .val (.int (Int32.ofNat E2)), .val (.int (Int32.ofNat P3)), .val (.int (Int32.ofNat E3)), .val (.int (Int32.ofNat P4)), .val (.int (Int32.ofNat E4)), .val (.long (Int64.ofNat W)), .second, .val (.ref ps), .val (.ref es), .val (.int (Int32.ofNat D.length)), .unset, .unset] [(.int (Int32.ofNat P1)), (.int (Int32.ofNat D.length)), (.ref ps)]))
    have V1p : Arv Z h0 ps kp .int (Int32.ofNat 4) ((own_vals (own_fp D) D.length) ++ [(.int (0 : Int32))]) (.int (0 : Int32)) := Vp.pad (pad_rep (own_vals (own_fp D) D.length) (.int (0 : Int32)) 1)
    have hall' : own_all (D ++ [(P1, E1)] ++ own_kept [(P2, E2), (P3, E3), (P4, E4)]) W := by have q := hall; unfold own_kept at q; rw [if_pos hE] at q; rw [List.append_assoc]; exact q
    obtain ⟨cl2, Ar2, qk2, Sz2, Mz2, Hz2, Uz2⟩ := id V1p
    obtain ⟨T3, h3, X3, e3, W3, st3⟩ := stI X0 hx hZ e0 Ar2 (j := (Int32.ofNat D.length)) (own_in (n := 4) Sz2 (by omega) (by omega)) (g := (mkF m 285 #[s0, s1, s2, s3, s4, s5, s6, s7, s8, s9, .val (.int (Int32.ofNat P1)), .val (.int (Int32.ofNat E1)), .val (.int (Int32.ofNat P2)), .val (.int (Int32.ofNat E2)), .val (.int (Int32.ofNat P3)), .val (.int (Int32.ofNat E3)), .val (.int (Int32.ofNat P4)), .val (.int (Int32.ofNat E4)), .val (.long (Int64.ofNat W)), .second, .val (.ref ps), .val (.ref es), .val (.int (Int32.ofNat D.length)), .unset, .unset] [(.int (Int32.ofNat P1)), (.int (Int32.ofNat D.length)), (.ref ps)])) rfl rfl (hb hby at_285)
    refine own_st st3 ?_
    have V3 := Arv.set Ar2 qk2 Sz2 Mz2 Hz2 Uz2 rfl W3 (own_vals (own_fp D) D.length).length (by rw [own_clamp (by omega), own_len]) (by simp)
    have z4 : h3.size = h0.size := W3.size
    have O5 := Old.wr O0 W3 (by omega)
    have K6 : Keep h0 h3 [ps, es] := Kr.wr W3 (Or.inl (by simp))
    have N3 := Fr.snoc X3 N0 (by omega : Z.heap.size ≤ ps)
    have V3' : Arv Z h3 ps kp .int (Int32.ofNat 4) (own_vals (own_fp (D ++ [(P1, E1)])) (D.length + 1)) (.int (0 : Int32)) := by have q := V3; rw [own_set] at q; rw [own_fp_app]; exact q
    show own_G _ _ _ _ (T3.setTop (mkF m 286 #[s0, s1, s2, s3, s4, s5, s6, s7, s8, s9, .val (.int (Int32.ofNat P1)), .val (.int (Int32.ofNat E1)), .val (.int (Int32.ofNat P2)), .val (.int (Int32.ofNat E2)), .val (.int (Int32.ofNat P3)), .val (.int (Int32.ofNat E3)), .val (.int (Int32.ofNat P4)), .val (.int (Int32.ofNat E4)), .val (.long (Int64.ofNat W)), .second, .val (.ref ps), .val (.ref es), .val (.int (Int32.ofNat D.length)), .unset, .unset] []))
    refine own_st (fun _ k => XS.aload X3.here hx rfl (hb hby at_286) rfl rfl k) ?_
    show own_G _ _ _ _ (T3.setTop (mkF m 288 #[s0, s1, s2, s3, s4, s5, s6, s7, s8, s9, .val (.int (Int32.ofNat P1)), .val (.int (Int32.ofNat E1)), .val (.int (Int32.ofNat P2)), .val (.int (Int32.ofNat E2)), .val (.int (Int32.ofNat P3)), .val (.int (Int32.ofNat E3)), .val (.int (Int32.ofNat P4)), .val (.int (Int32.ofNat E4)), .val (.long (Int64.ofNat W)), .second, .val (.ref ps), .val (.ref es), .val (.int (Int32.ofNat D.length)), .unset, .unset] [(.ref es)]))
    refine own_st (fun _ k => XS.iload X3.here hx rfl (hb hby at_288) rfl k) ?_
    show own_G _ _ _ _ (T3.setTop (mkF m 290 #[s0, s1, s2, s3, s4, s5, s6, s7, s8, s9, .val (.int (Int32.ofNat P1)), .val (.int (Int32.ofNat E1)), .val (.int (Int32.ofNat P2)), .val (.int (Int32.ofNat E2)), .val (.int (Int32.ofNat P3)), .val (.int (Int32.ofNat E3)), .val (.int (Int32.ofNat P4)), .val (.int (Int32.ofNat E4)), .val (.long (Int64.ofNat W)), .second, .val (.ref ps), .val (.ref es), .val (.int (Int32.ofNat D.length)), .unset, .unset] [(.int (Int32.ofNat D.length)), (.ref es)]))
    refine own_st (fun _ k => XS.iload X3.here hx rfl (hb hby at_290) rfl k) ?_
    show own_G _ _ _ _ (T3.setTop (mkF m 292 #[s0, s1, s2, s3, s4, s5, s6, s7, s8, s9, .val (.int (Int32.ofNat P1)), .val (.int (Int32.ofNat E1)), .val (.int (Int32.ofNat P2)), .val (.int (Int32.ofNat E2)), .val (.int (Int32.ofNat P3)), .val (.int (Int32.ofNat E3)), .val (.int (Int32.ofNat P4)), .val (.int (Int32.ofNat E4)), .val (.long (Int64.ofNat W)), .second, .val (.ref ps), .val (.ref es), .val (.int (Int32.ofNat D.length)), .unset, .unset] [(.int (Int32.ofNat E1)), (.int (Int32.ofNat D.length)), (.ref es)]))
    refine own_st (fun _ k => XS.i2l X3.here hx rfl (hb hby at_292) rfl k) ?_
    show own_G _ _ _ _ (T3.setTop (mkF m 293 #[s0, s1, s2, s3, s4, s5, s6, s7, s8, s9, .val (.int (Int32.ofNat P1)), .val (.int (Int32.ofNat E1)), .val (.int (Int32.ofNat P2)), .val (.int (Int32.ofNat E2)), .val (.int (Int32.ofNat P3)), .val (.int (Int32.ofNat E3)), .val (.int (Int32.ofNat P4)), .val (.int (Int32.ofNat E4)), .val (.long (Int64.ofNat W)), .second, .val (.ref ps), .val (.ref es), .val (.int (Int32.ofNat D.length)), .unset, .unset] [(.long ((Int32.ofNat E1).toInt64)), (.int (Int32.ofNat D.length)), (.ref es)]))
    rw [own_i2l (by omega)]
    show own_G _ _ _ _ (T3.setTop (mkF m 293 #[s0, s1, s2, s3, s4, s5, s6, s7, s8, s9, .val (.int (Int32.ofNat P1)), .val (.int (Int32.ofNat E1)), .val (.int (Int32.ofNat P2)), .val (.int (Int32.ofNat E2)), .val (.int (Int32.ofNat P3)), .val (.int (Int32.ofNat E3)), .val (.int (Int32.ofNat P4)), .val (.int (Int32.ofNat E4)), .val (.long (Int64.ofNat W)), .second, .val (.ref ps), .val (.ref es), .val (.int (Int32.ofNat D.length)), .unset, .unset] [(.long (Int64.ofNat E1)), (.int (Int32.ofNat D.length)), (.ref es)]))
    have q7 : Arv Z h3 es ke .long (Int32.ofNat 4) (own_valsL (own_ge D) D.length) (.long (0 : Int64)) := (Ve.other W3 (show @Ne Nat es ps by omega))
    have V8p : Arv Z h3 es ke .long (Int32.ofNat 4) ((own_valsL (own_ge D) D.length) ++ [(.long (0 : Int64))]) (.long (0 : Int64)) := q7.pad (pad_rep (own_valsL (own_ge D) D.length) (.long (0 : Int64)) 1)
    obtain ⟨cl9, Ar9, qk9, Sz9, Mz9, Hz9, Uz9⟩ := id V8p
    obtain ⟨T10, h10, X10, e10, W10, st10⟩ := stJ X3 hx hZ e3 Ar9 (j := (Int32.ofNat D.length)) (own_in (n := 4) Sz9 (by omega) (by omega)) (g := (mkF m 293 #[s0, s1, s2, s3, s4, s5, s6, s7, s8, s9, .val (.int (Int32.ofNat P1)), .val (.int (Int32.ofNat E1)), .val (.int (Int32.ofNat P2)), .val (.int (Int32.ofNat E2)), .val (.int (Int32.ofNat P3)), .val (.int (Int32.ofNat E3)), .val (.int (Int32.ofNat P4)), .val (.int (Int32.ofNat E4)), .val (.long (Int64.ofNat W)), .second, .val (.ref ps), .val (.ref es), .val (.int (Int32.ofNat D.length)), .unset, .unset] [(.long (Int64.ofNat E1)), (.int (Int32.ofNat D.length)), (.ref es)])) rfl rfl (hb hby at_293)
    refine own_st st10 ?_
    have V10 := Arv.set Ar9 qk9 Sz9 Mz9 Hz9 Uz9 rfl W10 (own_valsL (own_ge D) D.length).length (by rw [own_clamp (by omega), own_lenL]) (by simp)
    have z11 : h10.size = h3.size := W10.size
    have O12 := Old.wr O5 W10 (by omega)
    have K13 : Keep h0 h10 [ps, es] := K6.wr W10 (Or.inl (by simp))
    have N10 := Fr.snoc X10 N3 (by omega : Z.heap.size ≤ es)
    have V10' : Arv Z h10 es ke .long (Int32.ofNat 4) (own_valsL (own_ge (D ++ [(P1, E1)])) (D.length + 1)) (.long (0 : Int64)) := by have q := V10; rw [own_set] at q; rw [own_ge_app]; exact q
    show own_G _ _ _ _ (T10.setTop (mkF m 294 #[s0, s1, s2, s3, s4, s5, s6, s7, s8, s9, .val (.int (Int32.ofNat P1)), .val (.int (Int32.ofNat E1)), .val (.int (Int32.ofNat P2)), .val (.int (Int32.ofNat E2)), .val (.int (Int32.ofNat P3)), .val (.int (Int32.ofNat E3)), .val (.int (Int32.ofNat P4)), .val (.int (Int32.ofNat E4)), .val (.long (Int64.ofNat W)), .second, .val (.ref ps), .val (.ref es), .val (.int (Int32.ofNat D.length)), .unset, .unset] []))
    refine own_st (fun _ k => XS.iinc X10.here hx rfl (hb hby at_294) rfl (l' := #[s0, s1, s2, s3, s4, s5, s6, s7, s8, s9, .val (.int (Int32.ofNat P1)), .val (.int (Int32.ofNat E1)), .val (.int (Int32.ofNat P2)), .val (.int (Int32.ofNat E2)), .val (.int (Int32.ofNat P3)), .val (.int (Int32.ofNat E3)), .val (.int (Int32.ofNat P4)), .val (.int (Int32.ofNat E4)), .val (.long (Int64.ofNat W)), .second, .val (.ref ps), .val (.ref es), .val (.int ((Int32.ofNat D.length) + (1 : Int32))), .unset, .unset]) rfl k) ?_
    show own_G _ _ _ _ (T10.setTop (mkF m 297 #[s0, s1, s2, s3, s4, s5, s6, s7, s8, s9, .val (.int (Int32.ofNat P1)), .val (.int (Int32.ofNat E1)), .val (.int (Int32.ofNat P2)), .val (.int (Int32.ofNat E2)), .val (.int (Int32.ofNat P3)), .val (.int (Int32.ofNat E3)), .val (.int (Int32.ofNat P4)), .val (.int (Int32.ofNat E4)), .val (.long (Int64.ofNat W)), .second, .val (.ref ps), .val (.ref es), .val (.int ((Int32.ofNat D.length) + (1 : Int32))), .unset, .unset] []))
    have hl1 : (D ++ [(P1, E1)]).length = D.length + 1 := by simp
    have hD' : (D ++ [(P1, E1)]).length ≤ 1 := by omega
    have q14 : Arv Z h10 ps kp .int (Int32.ofNat 4) (own_vals (own_fp (D ++ [(P1, E1)])) (D.length + 1)) (.int (0 : Int32)) := (V3'.other W10 (show @Ne Nat ps es by omega))
    have Vp2 := q14
    have Ve2 := V10'
    rw [own_one]
    rw [← hl1] at Vp2 Ve2 ⊢
    exact own_lw2 ps es kp ke (D ++ [(P1, E1)]) W P1 E1 P2 E2 P3 E3 P4 E4 _ _ _ _ _ _ _ _ _ _ hx hZ hw hby hml hown X10 e10 N10 O12 hret hlk hcs hss gp ge net hD' hP1 hP2 hP3 hP4 hE1 hE2 hE3 hE4 hall' Vp2 Ve2
  · skip
    refine own_st (fun _ k => XS.ifYes X0.here hx rfl (pc0 := 276) (pc' := 297) rfl (hb hby at_276) rfl ((if0 _ _).trans (flt (own_nlt (a := 0) hE (by decide) (by omega))).2.2.2) (by decide) (by decide) k) ?_
    show own_G _ _ _ _ (T0.setTop (mkF m 297 #[s0, s1, s2, s3, s4, s5, s6, s7, s8, s9, .val (.int (Int32.ofNat P1)), .val (.int (Int32.ofNat E1)), .val (.int (Int32.ofNat P2)), .val (.int (Int32.ofNat E2)), .val (.int (Int32.ofNat P3)), .val (.int (Int32.ofNat E3)), .val (.int (Int32.ofNat P4)), .val (.int (Int32.ofNat E4)), .val (.long (Int64.ofNat W)), .second, .val (.ref ps), .val (.ref es), .val (.int (Int32.ofNat D.length)), .unset, .unset] []))
    have hall' : own_all (D ++ own_kept [(P2, E2), (P3, E3), (P4, E4)]) W := by have q := hall; unfold own_kept at q; rw [if_neg hE] at q; exact q
    have hD' : D.length ≤ 1 := by omega
    exact own_lw2 ps es kp ke D W P1 E1 P2 E2 P3 E3 P4 E4 _ _ _ _ _ _ _ _ _ _ hx hZ hw hby hml hown X0 e0 N0 O0 hret hlk hcs hss gp ge net hD' hP1 hP2 hP3 hP4 hE1 hE2 hE3 hE4 hall' Vp Ve
theorem own_pos {p e : Nat} (h : 2 ≤ p) : 0 < p ^ e := Nat.pow_pos (by omega)
theorem own_kept_prod : ∀ L : List (Nat × Nat), own_prod (own_kept L) = own_prod L
  | [] => rfl
  | q :: r => by
    unfold own_kept
    split
    · show q.1 ^ q.2 * own_prod (own_kept r) = q.1 ^ q.2 * own_prod r
      rw [own_kept_prod r]
    · rename_i h
      show _ = q.1 ^ q.2 * own_prod r
      rw [own_kept_prod r, show q.2 = 0 by omega, Nat.pow_zero, Nat.one_mul]
/-- primes, ascending from b on; the exponents are any -/
def own_asc0 : Nat → List (Nat × Nat) → Prop
  | _, [] => True
  | b, q :: r => b < q.1 ∧ own_pr q.1 ∧ own_asc0 q.1 r
theorem own_asc0_mono {a b : Nat} (h : a ≤ b) : ∀ L, own_asc0 b L → own_asc0 a L
  | [], _ => trivial
  | _ :: _, q => ⟨Nat.lt_of_le_of_lt h q.1, q.2⟩
theorem own_kept_asc : ∀ (L : List (Nat × Nat)) (b : Nat), own_asc0 b L → own_asc b (own_kept L)
  | [], _, _ => trivial
  | q :: r, b, h => by
    unfold own_kept
    split
    · rename_i hq
      exact ⟨h.1, h.2.1, hq, own_kept_asc r q.1 h.2.2⟩
    · exact own_kept_asc r b (own_asc0_mono (Nat.le_of_lt h.1) r h.2.2)
theorem own_mono {p e n : Nat} (hp : 1 ≤ p) (h : e ≤ n) {B : Nat} (hB : p ^ n ≤ B) : p ^ e ≤ B := Nat.le_trans (Nat.pow_le_pow_right hp h) hB
theorem own_base {p q e B : Nat} (h : p ≤ q) (hB : q ^ e ≤ B) : p ^ e ≤ B := Nat.le_trans (Nat.pow_le_pow_left h e) hB
theorem own_pd489 : parseMethodDescriptor "(JI)J" = some ⟨[.long, .int], some .long⟩ := by decide +kernel
theorem own_pd497 : parseMethodDescriptor "(JJ)J" = some ⟨[.long, .long], some .long⟩ := by decide +kernel
set_option maxRecDepth 65536 in
set_option maxHeartbeats 40000000 in
theorem own_lw0 {p : Program} {l : Launch} {e : Env} {s : State} {m : MethodId} {args : Array Value} {below : List Frame} {meth : Method} {c : Code} {Z : State} {a0 : Array Value} {locs : List Loc} {cells slots : Nat} {T0 : State} {h0 : Heap}  (P1 E1 P2 E2 P3 E3 P4 E4 : Nat) (s0 s1 s2 s3 s4 s5 s6 s7 s8 s9 : Slot) (hx : p.tables.exec = Jvm.exec) (hZ : Z.Warmed39 s.vm) (hw : ∀ d ∈ tables_1, d.before a0 Z = true) (hby : c.code = code) (hml : c.maxLocals = 25) (hown : s.vm.findClass "com/example/libfacet/libfacet/exact/FactorizationOfPinLaw" = some m.cls) (X0 : Stand p l e room_1 s m args below meth c T0 locs cells slots) (e0 : T0.heap = h0) (N0 : Fr Z.heap.size locs) (O0 : Old Z Z.heap.size h0) (hret : meth.sig.returnType = some .boolean) (hlk : meth.locks = false) (hcs : cells + 1 + 1 + 5 ≤ 32) (hss : slots + 4 + 4 + 75 ≤ 320) (hb1 : 2 ≤ P1 ∧ P1 ≤ 7) (hb2 : 11 ≤ P2 ∧ P2 ≤ 97) (hb3 : 101 ≤ P3 ∧ P3 ≤ 46337) (hb4 : 46349 ≤ P4 ∧ P4 ≤ 2147483647) (pp1 : own_pr P1) (pp2 : own_pr P2) (pp3 : own_pr P3) (pp4 : own_pr P4) (q1_ : P1 ^ E1 ≤ 2147483647) (q2_ : P2 ^ E2 ≤ 2147483647) (q3_ : P3 ^ E3 ≤ 2147483647) (q4_ : P4 ^ E4 ≤ 2147483647) (hE1 : E1 < 32) (hE2 : E2 < 4) (hE3 : E3 < 3) (hE4 : E4 < 2)
     :
    own_G p.tables e below (own_F s below (fun v h L => v = some (.int 1) ∧ Fr Z.heap.size L) 32 320) (T0.setTop (mkF m 195 #[s0, s1, s2, s3, s4, s5, s6, s7, s8, s9, .val (.int (Int32.ofNat P1)), .val (.int (Int32.ofNat E1)), .val (.int (Int32.ofNat P2)), .val (.int (Int32.ofNat E2)), .val (.int (Int32.ofNat P3)), .val (.int (Int32.ofNat E3)), .val (.int (Int32.ofNat P4)), .val (.int (Int32.ofNat E4)), .unset, .unset, .unset, .unset, .unset, .unset, .unset] [])) := by
  have z0 : Z.heap.size ≤ h0.size := O0.2.1
  have Kr := Keep.refl h0 []
  show own_G _ _ _ _ (T0.setTop (mkF m 195 #[s0, s1, s2, s3, s4, s5, s6, s7, s8, s9, .val (.int (Int32.ofNat P1)), .val (.int (Int32.ofNat E1)), .val (.int (Int32.ofNat P2)), .val (.int (Int32.ofNat E2)), .val (.int (Int32.ofNat P3)), .val (.int (Int32.ofNat E3)), .val (.int (Int32.ofNat P4)), .val (.int (Int32.ofNat E4)), .unset, .unset, .unset, .unset, .unset, .unset, .unset] []))
  have hcc : cells + 0 ≤ room_1.cells := show cells + 0 ≤ 32 by omega
  have hsc : slots + 0 ≤ room_1.slots := show slots + 0 ≤ 320 by omega
  refine own_st (fun _ k => XS.iload X0.here hx rfl (hb hby at_195) rfl k) ?_
  show own_G _ _ _ _ (T0.setTop (mkF m 197 #[s0, s1, s2, s3, s4, s5, s6, s7, s8, s9, .val (.int (Int32.ofNat P1)), .val (.int (Int32.ofNat E1)), .val (.int (Int32.ofNat P2)), .val (.int (Int32.ofNat E2)), .val (.int (Int32.ofNat P3)), .val (.int (Int32.ofNat E3)), .val (.int (Int32.ofNat P4)), .val (.int (Int32.ofNat E4)), .unset, .unset, .unset, .unset, .unset, .unset, .unset] [(.int (Int32.ofNat P1))]))
  refine own_st (fun _ k => XS.i2l X0.here hx rfl (hb hby at_197) rfl k) ?_
  show own_G _ _ _ _ (T0.setTop (mkF m 198 #[s0, s1, s2, s3, s4, s5, s6, s7, s8, s9, .val (.int (Int32.ofNat P1)), .val (.int (Int32.ofNat E1)), .val (.int (Int32.ofNat P2)), .val (.int (Int32.ofNat E2)), .val (.int (Int32.ofNat P3)), .val (.int (Int32.ofNat E3)), .val (.int (Int32.ofNat P4)), .val (.int (Int32.ofNat E4)), .unset, .unset, .unset, .unset, .unset, .unset, .unset] [(.long ((Int32.ofNat P1).toInt64))]))
  rw [own_i2l (by omega)]
  show own_G _ _ _ _ (T0.setTop (mkF m 198 #[s0, s1, s2, s3, s4, s5, s6, s7, s8, s9, .val (.int (Int32.ofNat P1)), .val (.int (Int32.ofNat E1)), .val (.int (Int32.ofNat P2)), .val (.int (Int32.ofNat E2)), .val (.int (Int32.ofNat P3)), .val (.int (Int32.ofNat E3)), .val (.int (Int32.ofNat P4)), .val (.int (Int32.ofNat E4)), .unset, .unset, .unset, .unset, .unset, .unset, .unset] [(.long (Int64.ofNat P1))]))
  refine own_st (fun _ k => XS.iload X0.here hx rfl (hb hby at_198) rfl k) ?_
  show own_G _ _ _ _ (T0.setTop (mkF m 200 #[s0, s1, s2, s3, s4, s5, s6, s7, s8, s9, .val (.int (Int32.ofNat P1)), .val (.int (Int32.ofNat E1)), .val (.int (Int32.ofNat P2)), .val (.int (Int32.ofNat E2)), .val (.int (Int32.ofNat P3)), .val (.int (Int32.ofNat E3)), .val (.int (Int32.ofNat P4)), .val (.int (Int32.ofNat E4)), .unset, .unset, .unset, .unset, .unset, .unset, .unset] [(.int (Int32.ofNat E1)), (.long (Int64.ofNat P1))]))
  obtain ⟨_, _, ⟨T1, L1, k1, n1⟩, -, X1, ⟨Lc1, hQ1, l1, y1, z1⟩, st1⟩ := Jvm.LawKit.callS X0 hx (y := (⟨"com/example/libfacet/libfacet/exact/FactorizationOfPinLaw", "pow", "(JI)J"⟩ : MethodName)) hown (mvT hZ (hw _ (List.mem_of_getElem? (i := 6) rfl))) (mvT hZ (hw _ (List.mem_of_getElem? (i := 7) rfl))) (mvT hZ (hw _ (List.mem_of_getElem? (i := 8) rfl))) (mvT hZ (hw _ (List.mem_of_getElem? (i := 9) rfl))) (by decide) (own_back (rm := ({ frames := 0, cells := 0, slots := 0, locals := 0 } : Room)) (W := 0) (own_pow l Z a0 hw [] (P1) E1 h0 O0 (by omega)) hZ (hw _ (List.mem_of_getElem? (i := 9) rfl)) (hw _ (List.mem_of_getElem? (i := 8) rfl)) (by decide) (by decide)) (g := (mkF m 200 #[s0, s1, s2, s3, s4, s5, s6, s7, s8, s9, .val (.int (Int32.ofNat P1)), .val (.int (Int32.ofNat E1)), .val (.int (Int32.ofNat P2)), .val (.int (Int32.ofNat E2)), .val (.int (Int32.ofNat P3)), .val (.int (Int32.ofNat E3)), .val (.int (Int32.ofNat P4)), .val (.int (Int32.ofNat E4)), .unset, .unset, .unset, .unset, .unset, .unset, .unset] [(.int (Int32.ofNat E1)), (.long (Int64.ofNat P1))])) rfl (by rw [hml]; rfl) (argsL := [(.long (Int64.ofNat P1)), (.int (Int32.ofNat E1))]) (rest := []) (lenOf own_pd489 rfl) rfl (by show 2 * 0 + _ ≤ _; exact Nat.le_of_eq rfl) (hb hby at_200) (fun _ _ => ⟨rfl, e0, hcc, hsc⟩)
  dsimp only [Pt.U, Pt.locs, Pt.cells, Pt.slots] at X1 l1 y1 z1 st1 hQ1
  subst l1 y1 z1
  obtain ⟨rfl, N1q, eh1⟩ := hQ1
  have N1 := Fr.app N0 N1q
  refine own_st st1 ?_
  show own_G _ _ _ _ (T1.setTop (mkF m 203 #[s0, s1, s2, s3, s4, s5, s6, s7, s8, s9, .val (.int (Int32.ofNat P1)), .val (.int (Int32.ofNat E1)), .val (.int (Int32.ofNat P2)), .val (.int (Int32.ofNat E2)), .val (.int (Int32.ofNat P3)), .val (.int (Int32.ofNat E3)), .val (.int (Int32.ofNat P4)), .val (.int (Int32.ofNat E4)), .unset, .unset, .unset, .unset, .unset, .unset, .unset] [(.long (Int64.ofNat (P1 ^ E1)))]))
  refine own_st (fun _ k => XS.lstore X1.here hx rfl (hb hby at_203) rfl (l' := #[s0, s1, s2, s3, s4, s5, s6, s7, s8, s9, .val (.int (Int32.ofNat P1)), .val (.int (Int32.ofNat E1)), .val (.int (Int32.ofNat P2)), .val (.int (Int32.ofNat E2)), .val (.int (Int32.ofNat P3)), .val (.int (Int32.ofNat E3)), .val (.int (Int32.ofNat P4)), .val (.int (Int32.ofNat E4)), .val (.long (Int64.ofNat (P1 ^ E1))), .second, .unset, .unset, .unset, .unset, .unset]) rfl k) ?_
  show own_G _ _ _ _ (T1.setTop (mkF m 205 #[s0, s1, s2, s3, s4, s5, s6, s7, s8, s9, .val (.int (Int32.ofNat P1)), .val (.int (Int32.ofNat E1)), .val (.int (Int32.ofNat P2)), .val (.int (Int32.ofNat E2)), .val (.int (Int32.ofNat P3)), .val (.int (Int32.ofNat E3)), .val (.int (Int32.ofNat P4)), .val (.int (Int32.ofNat E4)), .val (.long (Int64.ofNat (P1 ^ E1))), .second, .unset, .unset, .unset, .unset, .unset] []))
  refine own_st (fun _ k => XS.lload X1.here hx rfl (hb hby at_205) rfl k) ?_
  show own_G _ _ _ _ (T1.setTop (mkF m 207 #[s0, s1, s2, s3, s4, s5, s6, s7, s8, s9, .val (.int (Int32.ofNat P1)), .val (.int (Int32.ofNat E1)), .val (.int (Int32.ofNat P2)), .val (.int (Int32.ofNat E2)), .val (.int (Int32.ofNat P3)), .val (.int (Int32.ofNat E3)), .val (.int (Int32.ofNat P4)), .val (.int (Int32.ofNat E4)), .val (.long (Int64.ofNat (P1 ^ E1))), .second, .unset, .unset, .unset, .unset, .unset] [(.long (Int64.ofNat (P1 ^ E1)))]))
  refine own_st (fun _ k => XS.iload X1.here hx rfl (hb hby at_207) rfl k) ?_
  show own_G _ _ _ _ (T1.setTop (mkF m 209 #[s0, s1, s2, s3, s4, s5, s6, s7, s8, s9, .val (.int (Int32.ofNat P1)), .val (.int (Int32.ofNat E1)), .val (.int (Int32.ofNat P2)), .val (.int (Int32.ofNat E2)), .val (.int (Int32.ofNat P3)), .val (.int (Int32.ofNat E3)), .val (.int (Int32.ofNat P4)), .val (.int (Int32.ofNat E4)), .val (.long (Int64.ofNat (P1 ^ E1))), .second, .unset, .unset, .unset, .unset, .unset] [(.int (Int32.ofNat P2)), (.long (Int64.ofNat (P1 ^ E1)))]))
  refine own_st (fun _ k => XS.i2l X1.here hx rfl (hb hby at_209) rfl k) ?_
  show own_G _ _ _ _ (T1.setTop (mkF m 210 #[s0, s1, s2, s3, s4, s5, s6, s7, s8, s9, .val (.int (Int32.ofNat P1)), .val (.int (Int32.ofNat E1)), .val (.int (Int32.ofNat P2)), .val (.int (Int32.ofNat E2)), .val (.int (Int32.ofNat P3)), .val (.int (Int32.ofNat E3)), .val (.int (Int32.ofNat P4)), .val (.int (Int32.ofNat E4)), .val (.long (Int64.ofNat (P1 ^ E1))), .second, .unset, .unset, .unset, .unset, .unset] [(.long ((Int32.ofNat P2).toInt64)), (.long (Int64.ofNat (P1 ^ E1)))]))
  rw [own_i2l (by omega)]
  show own_G _ _ _ _ (T1.setTop (mkF m 210 #[s0, s1, s2, s3, s4, s5, s6, s7, s8, s9, .val (.int (Int32.ofNat P1)), .val (.int (Int32.ofNat E1)), .val (.int (Int32.ofNat P2)), .val (.int (Int32.ofNat E2)), .val (.int (Int32.ofNat P3)), .val (.int (Int32.ofNat E3)), .val (.int (Int32.ofNat P4)), .val (.int (Int32.ofNat E4)), .val (.long (Int64.ofNat (P1 ^ E1))), .second, .unset, .unset, .unset, .unset, .unset] [(.long (Int64.ofNat P2)), (.long (Int64.ofNat (P1 ^ E1)))]))
  refine own_st (fun _ k => XS.iload X1.here hx rfl (hb hby at_210) rfl k) ?_
  show own_G _ _ _ _ (T1.setTop (mkF m 212 #[s0, s1, s2, s3, s4, s5, s6, s7, s8, s9, .val (.int (Int32.ofNat P1)), .val (.int (Int32.ofNat E1)), .val (.int (Int32.ofNat P2)), .val (.int (Int32.ofNat E2)), .val (.int (Int32.ofNat P3)), .val (.int (Int32.ofNat E3)), .val (.int (Int32.ofNat P4)), .val (.int (Int32.ofNat E4)), .val (.long (Int64.ofNat (P1 ^ E1))), .second, .unset, .unset, .unset, .unset, .unset] [(.int (Int32.ofNat E2)), (.long (Int64.ofNat P2)), (.long (Int64.ofNat (P1 ^ E1)))]))
  obtain ⟨_, _, ⟨T2, L2, k2, n2⟩, -, X2, ⟨Lc2, hQ2, l2, y2, z2⟩, st2⟩ := Jvm.LawKit.callS X1 hx (y := (⟨"com/example/libfacet/libfacet/exact/FactorizationOfPinLaw", "pow", "(JI)J"⟩ : MethodName)) hown (mvT hZ (hw _ (List.mem_of_getElem? (i := 6) rfl))) (mvT hZ (hw _ (List.mem_of_getElem? (i := 7) rfl))) (mvT hZ (hw _ (List.mem_of_getElem? (i := 8) rfl))) (mvT hZ (hw _ (List.mem_of_getElem? (i := 9) rfl))) (by decide) (own_back (rm := ({ frames := 0, cells := 0, slots := 0, locals := 0 } : Room)) (W := 2) (own_pow l Z a0 hw [] (P2) E2 h0 O0 (by omega)) hZ (hw _ (List.mem_of_getElem? (i := 9) rfl)) (hw _ (List.mem_of_getElem? (i := 8) rfl)) (by decide) (by decide)) (g := (mkF m 212 #[s0, s1, s2, s3, s4, s5, s6, s7, s8, s9, .val (.int (Int32.ofNat P1)), .val (.int (Int32.ofNat E1)), .val (.int (Int32.ofNat P2)), .val (.int (Int32.ofNat E2)), .val (.int (Int32.ofNat P3)), .val (.int (Int32.ofNat E3)), .val (.int (Int32.ofNat P4)), .val (.int (Int32.ofNat E4)), .val (.long (Int64.ofNat (P1 ^ E1))), .second, .unset, .unset, .unset, .unset, .unset] [(.int (Int32.ofNat E2)), (.long (Int64.ofNat P2)), (.long (Int64.ofNat (P1 ^ E1)))])) rfl (by rw [hml]; rfl) (argsL := [(.long (Int64.ofNat P2)), (.int (Int32.ofNat E2))]) (rest := [(.long (Int64.ofNat (P1 ^ E1)))]) (lenOf own_pd489 rfl) rfl (by show 2 * 0 + _ ≤ _; exact Nat.le_of_eq rfl) (hb hby at_212) (fun _ _ => ⟨rfl, eh1, hcc, hsc⟩)
  dsimp only [Pt.U, Pt.locs, Pt.cells, Pt.slots] at X2 l2 y2 z2 st2 hQ2
  subst l2 y2 z2
  obtain ⟨rfl, N2q, eh2⟩ := hQ2
  have N2 := Fr.app N1 N2q
  refine own_st st2 ?_
  show own_G _ _ _ _ (T2.setTop (mkF m 215 #[s0, s1, s2, s3, s4, s5, s6, s7, s8, s9, .val (.int (Int32.ofNat P1)), .val (.int (Int32.ofNat E1)), .val (.int (Int32.ofNat P2)), .val (.int (Int32.ofNat E2)), .val (.int (Int32.ofNat P3)), .val (.int (Int32.ofNat E3)), .val (.int (Int32.ofNat P4)), .val (.int (Int32.ofNat E4)), .val (.long (Int64.ofNat (P1 ^ E1))), .second, .unset, .unset, .unset, .unset, .unset] [(.long (Int64.ofNat (P2 ^ E2))), (.long (Int64.ofNat (P1 ^ E1)))]))
  obtain ⟨_, _, ⟨T3, L3, k3, n3⟩, -, X3, ⟨Lc3, hQ3, l3, y3, z3⟩, st3⟩ := Jvm.LawKit.callS X2 hx (y := (⟨"com/example/libfacet/libfacet/exact/FactorizationOfPinLaw", "mul", "(JJ)J"⟩ : MethodName)) hown (mvT hZ (hw _ (List.mem_of_getElem? (i := 10) rfl))) (mvT hZ (hw _ (List.mem_of_getElem? (i := 11) rfl))) (mvT hZ (hw _ (List.mem_of_getElem? (i := 8) rfl))) (mvT hZ (hw _ (List.mem_of_getElem? (i := 12) rfl))) (by decide) (own_back (rm := ({ frames := 0, cells := 0, slots := 0, locals := 0 } : Room)) (W := 0) (own_mul l Z a0 hw [] (P1 ^ E1) (P2 ^ E2) h0 O0 (Nat.le_trans q1_ (by decide)) (Nat.le_trans q2_ (by decide))) hZ (hw _ (List.mem_of_getElem? (i := 12) rfl)) (hw _ (List.mem_of_getElem? (i := 8) rfl)) (by decide) (by decide)) (g := (mkF m 215 #[s0, s1, s2, s3, s4, s5, s6, s7, s8, s9, .val (.int (Int32.ofNat P1)), .val (.int (Int32.ofNat E1)), .val (.int (Int32.ofNat P2)), .val (.int (Int32.ofNat E2)), .val (.int (Int32.ofNat P3)), .val (.int (Int32.ofNat E3)), .val (.int (Int32.ofNat P4)), .val (.int (Int32.ofNat E4)), .val (.long (Int64.ofNat (P1 ^ E1))), .second, .unset, .unset, .unset, .unset, .unset] [(.long (Int64.ofNat (P2 ^ E2))), (.long (Int64.ofNat (P1 ^ E1)))])) rfl (by rw [hml]; rfl) (argsL := [(.long (Int64.ofNat (P1 ^ E1))), (.long (Int64.ofNat (P2 ^ E2)))]) (rest := []) (lenOf own_pd497 rfl) rfl (by show 2 * 0 + _ ≤ _; exact Nat.le_of_eq rfl) (hb hby at_215) (fun _ _ => ⟨rfl, eh2, hcc, hsc⟩)
  dsimp only [Pt.U, Pt.locs, Pt.cells, Pt.slots] at X3 l3 y3 z3 st3 hQ3
  subst l3 y3 z3
  obtain ⟨rfl, N3q, eh3⟩ := hQ3
  have N3 := Fr.app N2 N3q
  refine own_st st3 ?_
  show own_G _ _ _ _ (T3.setTop (mkF m 218 #[s0, s1, s2, s3, s4, s5, s6, s7, s8, s9, .val (.int (Int32.ofNat P1)), .val (.int (Int32.ofNat E1)), .val (.int (Int32.ofNat P2)), .val (.int (Int32.ofNat E2)), .val (.int (Int32.ofNat P3)), .val (.int (Int32.ofNat E3)), .val (.int (Int32.ofNat P4)), .val (.int (Int32.ofNat E4)), .val (.long (Int64.ofNat (P1 ^ E1))), .second, .unset, .unset, .unset, .unset, .unset] [(.long (Int64.ofNat (own_sat ((P1 ^ E1) * P2 ^ E2))))]))
  refine own_st (fun _ k => XS.lstore X3.here hx rfl (hb hby at_218) rfl (l' := #[s0, s1, s2, s3, s4, s5, s6, s7, s8, s9, .val (.int (Int32.ofNat P1)), .val (.int (Int32.ofNat E1)), .val (.int (Int32.ofNat P2)), .val (.int (Int32.ofNat E2)), .val (.int (Int32.ofNat P3)), .val (.int (Int32.ofNat E3)), .val (.int (Int32.ofNat P4)), .val (.int (Int32.ofNat E4)), .val (.long (Int64.ofNat (own_sat ((P1 ^ E1) * P2 ^ E2)))), .second, .unset, .unset, .unset, .unset, .unset]) rfl k) ?_
  show own_G _ _ _ _ (T3.setTop (mkF m 220 #[s0, s1, s2, s3, s4, s5, s6, s7, s8, s9, .val (.int (Int32.ofNat P1)), .val (.int (Int32.ofNat E1)), .val (.int (Int32.ofNat P2)), .val (.int (Int32.ofNat E2)), .val (.int (Int32.ofNat P3)), .val (.int (Int32.ofNat E3)), .val (.int (Int32.ofNat P4)), .val (.int (Int32.ofNat E4)), .val (.long (Int64.ofNat (own_sat ((P1 ^ E1) * P2 ^ E2)))), .second, .unset, .unset, .unset, .unset, .unset] []))
  refine own_st (fun _ k => XS.lload X3.here hx rfl (hb hby at_220) rfl k) ?_
  show own_G _ _ _ _ (T3.setTop (mkF m 222 #[s0, s1, s2, s3, s4, s5, s6, s7, s8, s9, .val (.int (Int32.ofNat P1)), .val (.int (Int32.ofNat E1)), .val (.int (Int32.ofNat P2)), .val (.int (Int32.ofNat E2)), .val (.int (Int32.ofNat P3)), .val (.int (Int32.ofNat E3)), .val (.int (Int32.ofNat P4)), .val (.int (Int32.ofNat E4)), .val (.long (Int64.ofNat (own_sat ((P1 ^ E1) * P2 ^ E2)))), .second, .unset, .unset, .unset, .unset, .unset] [(.long (Int64.ofNat (own_sat ((P1 ^ E1) * P2 ^ E2))))]))
  refine own_st (fun _ k => XS.iload X3.here hx rfl (hb hby at_222) rfl k) ?_
  show own_G _ _ _ _ (T3.setTop (mkF m 224 #[s0, s1, s2, s3, s4, s5, s6, s7, s8, s9, .val (.int (Int32.ofNat P1)), .val (.int (Int32.ofNat E1)), .val (.int (Int32.ofNat P2)), .val (.int (Int32.ofNat E2)), .val (.int (Int32.ofNat P3)), .val (.int (Int32.ofNat E3)), .val (.int (Int32.ofNat P4)), .val (.int (Int32.ofNat E4)), .val (.long (Int64.ofNat (own_sat ((P1 ^ E1) * P2 ^ E2)))), .second, .unset, .unset, .unset, .unset, .unset] [(.int (Int32.ofNat P3)), (.long (Int64.ofNat (own_sat ((P1 ^ E1) * P2 ^ E2))))]))
  refine own_st (fun _ k => XS.i2l X3.here hx rfl (hb hby at_224) rfl k) ?_
  show own_G _ _ _ _ (T3.setTop (mkF m 225 #[s0, s1, s2, s3, s4, s5, s6, s7, s8, s9, .val (.int (Int32.ofNat P1)), .val (.int (Int32.ofNat E1)), .val (.int (Int32.ofNat P2)), .val (.int (Int32.ofNat E2)), .val (.int (Int32.ofNat P3)), .val (.int (Int32.ofNat E3)), .val (.int (Int32.ofNat P4)), .val (.int (Int32.ofNat E4)), .val (.long (Int64.ofNat (own_sat ((P1 ^ E1) * P2 ^ E2)))), .second, .unset, .unset, .unset, .unset, .unset] [(.long ((Int32.ofNat P3).toInt64)), (.long (Int64.ofNat (own_sat ((P1 ^ E1) * P2 ^ E2))))]))
  rw [own_i2l (by omega)]
  show own_G _ _ _ _ (T3.setTop (mkF m 225 #[s0, s1, s2, s3, s4, s5, s6, s7, s8, s9, .val (.int (Int32.ofNat P1)), .val (.int (Int32.ofNat E1)), .val (.int (Int32.ofNat P2)), .val (.int (Int32.ofNat E2)), .val (.int (Int32.ofNat P3)), .val (.int (Int32.ofNat E3)), .val (.int (Int32.ofNat P4)), .val (.int (Int32.ofNat E4)), .val (.long (Int64.ofNat (own_sat ((P1 ^ E1) * P2 ^ E2)))), .second, .unset, .unset, .unset, .unset, .unset] [(.long (Int64.ofNat P3)), (.long (Int64.ofNat (own_sat ((P1 ^ E1) * P2 ^ E2))))]))
  refine own_st (fun _ k => XS.iload X3.here hx rfl (hb hby at_225) rfl k) ?_
  show own_G _ _ _ _ (T3.setTop (mkF m 227 #[s0, s1, s2, s3, s4, s5, s6, s7, s8, s9, .val (.int (Int32.ofNat P1)), .val (.int (Int32.ofNat E1)), .val (.int (Int32.ofNat P2)), .val (.int (Int32.ofNat E2)), .val (.int (Int32.ofNat P3)), .val (.int (Int32.ofNat E3)), .val (.int (Int32.ofNat P4)), .val (.int (Int32.ofNat E4)), .val (.long (Int64.ofNat (own_sat ((P1 ^ E1) * P2 ^ E2)))), .second, .unset, .unset, .unset, .unset, .unset] [(.int (Int32.ofNat E3)), (.long (Int64.ofNat P3)), (.long (Int64.ofNat (own_sat ((P1 ^ E1) * P2 ^ E2))))]))
  obtain ⟨_, _, ⟨T4, L4, k4, n4⟩, -, X4, ⟨Lc4, hQ4, l4, y4, z4⟩, st4⟩ := Jvm.LawKit.callS X3 hx (y := (⟨"com/example/libfacet/libfacet/exact/FactorizationOfPinLaw", "pow", "(JI)J"⟩ : MethodName)) hown (mvT hZ (hw _ (List.mem_of_getElem? (i := 6) rfl))) (mvT hZ (hw _ (List.mem_of_getElem? (i := 7) rfl))) (mvT hZ (hw _ (List.mem_of_getElem? (i := 8) rfl))) (mvT hZ (hw _ (List.mem_of_getElem? (i := 9) rfl))) (by decide) (own_back (rm := ({ frames := 0, cells := 0, slots := 0, locals := 0 } : Room)) (W := 2) (own_pow l Z a0 hw [] (P3) E3 h0 O0 (by omega)) hZ (hw _ (List.mem_of_getElem? (i := 9) rfl)) (hw _ (List.mem_of_getElem? (i := 8) rfl)) (by decide) (by decide)) (g := (mkF m 227 #[s0, s1, s2, s3, s4, s5, s6, s7, s8, s9, .val (.int (Int32.ofNat P1)), .val (.int (Int32.ofNat E1)), .val (.int (Int32.ofNat P2)), .val (.int (Int32.ofNat E2)), .val (.int (Int32.ofNat P3)), .val (.int (Int32.ofNat E3)), .val (.int (Int32.ofNat P4)), .val (.int (Int32.ofNat E4)), .val (.long (Int64.ofNat (own_sat ((P1 ^ E1) * P2 ^ E2)))), .second, .unset, .unset, .unset, .unset, .unset] [(.int (Int32.ofNat E3)), (.long (Int64.ofNat P3)), (.long (Int64.ofNat (own_sat ((P1 ^ E1) * P2 ^ E2))))])) rfl (by rw [hml]; rfl) (argsL := [(.long (Int64.ofNat P3)), (.int (Int32.ofNat E3))]) (rest := [(.long (Int64.ofNat (own_sat ((P1 ^ E1) * P2 ^ E2))))]) (lenOf own_pd489 rfl) rfl (by show 2 * 0 + _ ≤ _; exact Nat.le_of_eq rfl) (hb hby at_227) (fun _ _ => ⟨rfl, eh3, hcc, hsc⟩)
  dsimp only [Pt.U, Pt.locs, Pt.cells, Pt.slots] at X4 l4 y4 z4 st4 hQ4
  subst l4 y4 z4
  obtain ⟨rfl, N4q, eh4⟩ := hQ4
  have N4 := Fr.app N3 N4q
  refine own_st st4 ?_
  show own_G _ _ _ _ (T4.setTop (mkF m 230 #[s0, s1, s2, s3, s4, s5, s6, s7, s8, s9, .val (.int (Int32.ofNat P1)), .val (.int (Int32.ofNat E1)), .val (.int (Int32.ofNat P2)), .val (.int (Int32.ofNat E2)), .val (.int (Int32.ofNat P3)), .val (.int (Int32.ofNat E3)), .val (.int (Int32.ofNat P4)), .val (.int (Int32.ofNat E4)), .val (.long (Int64.ofNat (own_sat ((P1 ^ E1) * P2 ^ E2)))), .second, .unset, .unset, .unset, .unset, .unset] [(.long (Int64.ofNat (P3 ^ E3))), (.long (Int64.ofNat (own_sat ((P1 ^ E1) * P2 ^ E2))))]))
  obtain ⟨_, _, ⟨T5, L5, k5, n5⟩, -, X5, ⟨Lc5, hQ5, l5, y5, z5⟩, st5⟩ := Jvm.LawKit.callS X4 hx (y := (⟨"com/example/libfacet/libfacet/exact/FactorizationOfPinLaw", "mul", "(JJ)J"⟩ : MethodName)) hown (mvT hZ (hw _ (List.mem_of_getElem? (i := 10) rfl))) (mvT hZ (hw _ (List.mem_of_getElem? (i := 11) rfl))) (mvT hZ (hw _ (List.mem_of_getElem? (i := 8) rfl))) (mvT hZ (hw _ (List.mem_of_getElem? (i := 12) rfl))) (by decide) (own_back (rm := ({ frames := 0, cells := 0, slots := 0, locals := 0 } : Room)) (W := 0) (own_mul l Z a0 hw [] (own_sat ((P1 ^ E1) * P2 ^ E2)) (P3 ^ E3) h0 O0 (own_sat_le _) (Nat.le_trans q3_ (by decide))) hZ (hw _ (List.mem_of_getElem? (i := 12) rfl)) (hw _ (List.mem_of_getElem? (i := 8) rfl)) (by decide) (by decide)) (g := (mkF m 230 #[s0, s1, s2, s3, s4, s5, s6, s7, s8, s9, .val (.int (Int32.ofNat P1)), .val (.int (Int32.ofNat E1)), .val (.int (Int32.ofNat P2)), .val (.int (Int32.ofNat E2)), .val (.int (Int32.ofNat P3)), .val (.int (Int32.ofNat E3)), .val (.int (Int32.ofNat P4)), .val (.int (Int32.ofNat E4)), .val (.long (Int64.ofNat (own_sat ((P1 ^ E1) * P2 ^ E2)))), .second, .unset, .unset, .unset, .unset, .unset] [(.long (Int64.ofNat (P3 ^ E3))), (.long (Int64.ofNat (own_sat ((P1 ^ E1) * P2 ^ E2))))])) rfl (by rw [hml]; rfl) (argsL := [(.long (Int64.ofNat (own_sat ((P1 ^ E1) * P2 ^ E2)))), (.long (Int64.ofNat (P3 ^ E3)))]) (rest := []) (lenOf own_pd497 rfl) rfl (by show 2 * 0 + _ ≤ _; exact Nat.le_of_eq rfl) (hb hby at_230) (fun _ _ => ⟨rfl, eh4, hcc, hsc⟩)
  dsimp only [Pt.U, Pt.locs, Pt.cells, Pt.slots] at X5 l5 y5 z5 st5 hQ5
  subst l5 y5 z5
  obtain ⟨rfl, N5q, eh5⟩ := hQ5
  have N5 := Fr.app N4 N5q
  refine own_st st5 ?_
  show own_G _ _ _ _ (T5.setTop (mkF m 233 #[s0, s1, s2, s3, s4, s5, s6, s7, s8, s9, .val (.int (Int32.ofNat P1)), .val (.int (Int32.ofNat E1)), .val (.int (Int32.ofNat P2)), .val (.int (Int32.ofNat E2)), .val (.int (Int32.ofNat P3)), .val (.int (Int32.ofNat E3)), .val (.int (Int32.ofNat P4)), .val (.int (Int32.ofNat E4)), .val (.long (Int64.ofNat (own_sat ((P1 ^ E1) * P2 ^ E2)))), .second, .unset, .unset, .unset, .unset, .unset] [(.long (Int64.ofNat (own_sat (own_sat ((P1 ^ E1) * P2 ^ E2) * P3 ^ E3))))]))
  refine own_st (fun _ k => XS.lstore X5.here hx rfl (hb hby at_233) rfl (l' := #[s0, s1, s2, s3, s4, s5, s6, s7, s8, s9, .val (.int (Int32.ofNat P1)), .val (.int (Int32.ofNat E1)), .val (.int (Int32.ofNat P2)), .val (.int (Int32.ofNat E2)), .val (.int (Int32.ofNat P3)), .val (.int (Int32.ofNat E3)), .val (.int (Int32.ofNat P4)), .val (.int (Int32.ofNat E4)), .val (.long (Int64.ofNat (own_sat (own_sat ((P1 ^ E1) * P2 ^ E2) * P3 ^ E3)))), .second, .unset, .unset, .unset, .unset, .unset]) rfl k) ?_
  show own_G _ _ _ _ (T5.setTop (mkF m 235 #[s0, s1, s2, s3, s4, s5, s6, s7, s8, s9, .val (.int (Int32.ofNat P1)), .val (.int (Int32.ofNat E1)), .val (.int (Int32.ofNat P2)), .val (.int (Int32.ofNat E2)), .val (.int (Int32.ofNat P3)), .val (.int (Int32.ofNat E3)), .val (.int (Int32.ofNat P4)), .val (.int (Int32.ofNat E4)), .val (.long (Int64.ofNat (own_sat (own_sat ((P1 ^ E1) * P2 ^ E2) * P3 ^ E3)))), .second, .unset, .unset, .unset, .unset, .unset] []))
  refine own_st (fun _ k => XS.lload X5.here hx rfl (hb hby at_235) rfl k) ?_
  show own_G _ _ _ _ (T5.setTop (mkF m 237 #[s0, s1, s2, s3, s4, s5, s6, s7, s8, s9, .val (.int (Int32.ofNat P1)), .val (.int (Int32.ofNat E1)), .val (.int (Int32.ofNat P2)), .val (.int (Int32.ofNat E2)), .val (.int (Int32.ofNat P3)), .val (.int (Int32.ofNat E3)), .val (.int (Int32.ofNat P4)), .val (.int (Int32.ofNat E4)), .val (.long (Int64.ofNat (own_sat (own_sat ((P1 ^ E1) * P2 ^ E2) * P3 ^ E3)))), .second, .unset, .unset, .unset, .unset, .unset] [(.long (Int64.ofNat (own_sat (own_sat ((P1 ^ E1) * P2 ^ E2) * P3 ^ E3))))]))
  refine own_st (fun _ k => XS.iload X5.here hx rfl (hb hby at_237) rfl k) ?_
  show own_G _ _ _ _ (T5.setTop (mkF m 239 #[s0, s1, s2, s3, s4, s5, s6, s7, s8, s9, .val (.int (Int32.ofNat P1)), .val (.int (Int32.ofNat E1)), .val (.int (Int32.ofNat P2)), .val (.int (Int32.ofNat E2)), .val (.int (Int32.ofNat P3)), .val (.int (Int32.ofNat E3)), .val (.int (Int32.ofNat P4)), .val (.int (Int32.ofNat E4)), .val (.long (Int64.ofNat (own_sat (own_sat ((P1 ^ E1) * P2 ^ E2) * P3 ^ E3)))), .second, .unset, .unset, .unset, .unset, .unset] [(.int (Int32.ofNat P4)), (.long (Int64.ofNat (own_sat (own_sat ((P1 ^ E1) * P2 ^ E2) * P3 ^ E3))))]))
  refine own_st (fun _ k => XS.i2l X5.here hx rfl (hb hby at_239) rfl k) ?_
  show own_G _ _ _ _ (T5.setTop (mkF m 240 #[s0, s1, s2, s3, s4, s5, s6, s7, s8, s9, .val (.int (Int32.ofNat P1)), .val (.int (Int32.ofNat E1)), .val (.int (Int32.ofNat P2)), .val (.int (Int32.ofNat E2)), .val (.int (Int32.ofNat P3)), .val (.int (Int32.ofNat E3)), .val (.int (Int32.ofNat P4)), .val (.int (Int32.ofNat E4)), .val (.long (Int64.ofNat (own_sat (own_sat ((P1 ^ E1) * P2 ^ E2) * P3 ^ E3)))), .second, .unset, .unset, .unset, .unset, .unset] [(.long ((Int32.ofNat P4).toInt64)), (.long (Int64.ofNat (own_sat (own_sat ((P1 ^ E1) * P2 ^ E2) * P3 ^ E3))))]))
  rw [own_i2l (by omega)]
  show own_G _ _ _ _ (T5.setTop (mkF m 240 #[s0, s1, s2, s3, s4, s5, s6, s7, s8, s9, .val (.int (Int32.ofNat P1)), .val (.int (Int32.ofNat E1)), .val (.int (Int32.ofNat P2)), .val (.int (Int32.ofNat E2)), .val (.int (Int32.ofNat P3)), .val (.int (Int32.ofNat E3)), .val (.int (Int32.ofNat P4)), .val (.int (Int32.ofNat E4)), .val (.long (Int64.ofNat (own_sat (own_sat ((P1 ^ E1) * P2 ^ E2) * P3 ^ E3)))), .second, .unset, .unset, .unset, .unset, .unset] [(.long (Int64.ofNat P4)), (.long (Int64.ofNat (own_sat (own_sat ((P1 ^ E1) * P2 ^ E2) * P3 ^ E3))))]))
  refine own_st (fun _ k => XS.iload X5.here hx rfl (hb hby at_240) rfl k) ?_
  show own_G _ _ _ _ (T5.setTop (mkF m 242 #[s0, s1, s2, s3, s4, s5, s6, s7, s8, s9, .val (.int (Int32.ofNat P1)), .val (.int (Int32.ofNat E1)), .val (.int (Int32.ofNat P2)), .val (.int (Int32.ofNat E2)), .val (.int (Int32.ofNat P3)), .val (.int (Int32.ofNat E3)), .val (.int (Int32.ofNat P4)), .val (.int (Int32.ofNat E4)), .val (.long (Int64.ofNat (own_sat (own_sat ((P1 ^ E1) * P2 ^ E2) * P3 ^ E3)))), .second, .unset, .unset, .unset, .unset, .unset] [(.int (Int32.ofNat E4)), (.long (Int64.ofNat P4)), (.long (Int64.ofNat (own_sat (own_sat ((P1 ^ E1) * P2 ^ E2) * P3 ^ E3))))]))
  obtain ⟨_, _, ⟨T6, L6, k6, n6⟩, -, X6, ⟨Lc6, hQ6, l6, y6, z6⟩, st6⟩ := Jvm.LawKit.callS X5 hx (y := (⟨"com/example/libfacet/libfacet/exact/FactorizationOfPinLaw", "pow", "(JI)J"⟩ : MethodName)) hown (mvT hZ (hw _ (List.mem_of_getElem? (i := 6) rfl))) (mvT hZ (hw _ (List.mem_of_getElem? (i := 7) rfl))) (mvT hZ (hw _ (List.mem_of_getElem? (i := 8) rfl))) (mvT hZ (hw _ (List.mem_of_getElem? (i := 9) rfl))) (by decide) (own_back (rm := ({ frames := 0, cells := 0, slots := 0, locals := 0 } : Room)) (W := 2) (own_pow l Z a0 hw [] (P4) E4 h0 O0 (by omega)) hZ (hw _ (List.mem_of_getElem? (i := 9) rfl)) (hw _ (List.mem_of_getElem? (i := 8) rfl)) (by decide) (by decide)) (g := (mkF m 242 #[s0, s1, s2, s3, s4, s5, s6, s7, s8, s9, .val (.int (Int32.ofNat P1)), .val (.int (Int32.ofNat E1)), .val (.int (Int32.ofNat P2)), .val (.int (Int32.ofNat E2)), .val (.int (Int32.ofNat P3)), .val (.int (Int32.ofNat E3)), .val (.int (Int32.ofNat P4)), .val (.int (Int32.ofNat E4)), .val (.long (Int64.ofNat (own_sat (own_sat ((P1 ^ E1) * P2 ^ E2) * P3 ^ E3)))), .second, .unset, .unset, .unset, .unset, .unset] [(.int (Int32.ofNat E4)), (.long (Int64.ofNat P4)), (.long (Int64.ofNat (own_sat (own_sat ((P1 ^ E1) * P2 ^ E2) * P3 ^ E3))))])) rfl (by rw [hml]; rfl) (argsL := [(.long (Int64.ofNat P4)), (.int (Int32.ofNat E4))]) (rest := [(.long (Int64.ofNat (own_sat (own_sat ((P1 ^ E1) * P2 ^ E2) * P3 ^ E3))))]) (lenOf own_pd489 rfl) rfl (by show 2 * 0 + _ ≤ _; exact Nat.le_of_eq rfl) (hb hby at_242) (fun _ _ => ⟨rfl, eh5, hcc, hsc⟩)
  dsimp only [Pt.U, Pt.locs, Pt.cells, Pt.slots] at X6 l6 y6 z6 st6 hQ6
  subst l6 y6 z6
  obtain ⟨rfl, N6q, eh6⟩ := hQ6
  have N6 := Fr.app N5 N6q
  refine own_st st6 ?_
  show own_G _ _ _ _ (T6.setTop (mkF m 245 #[s0, s1, s2, s3, s4, s5, s6, s7, s8, s9, .val (.int (Int32.ofNat P1)), .val (.int (Int32.ofNat E1)), .val (.int (Int32.ofNat P2)), .val (.int (Int32.ofNat E2)), .val (.int (Int32.ofNat P3)), .val (.int (Int32.ofNat E3)), .val (.int (Int32.ofNat P4)), .val (.int (Int32.ofNat E4)), .val (.long (Int64.ofNat (own_sat (own_sat ((P1 ^ E1) * P2 ^ E2) * P3 ^ E3)))), .second, .unset, .unset, .unset, .unset, .unset] [(.long (Int64.ofNat (P4 ^ E4))), (.long (Int64.ofNat (own_sat (own_sat ((P1 ^ E1) * P2 ^ E2) * P3 ^ E3))))]))
  obtain ⟨_, _, ⟨T7, L7, k7, n7⟩, -, X7, ⟨Lc7, hQ7, l7, y7, z7⟩, st7⟩ := Jvm.LawKit.callS X6 hx (y := (⟨"com/example/libfacet/libfacet/exact/FactorizationOfPinLaw", "mul", "(JJ)J"⟩ : MethodName)) hown (mvT hZ (hw _ (List.mem_of_getElem? (i := 10) rfl))) (mvT hZ (hw _ (List.mem_of_getElem? (i := 11) rfl))) (mvT hZ (hw _ (List.mem_of_getElem? (i := 8) rfl))) (mvT hZ (hw _ (List.mem_of_getElem? (i := 12) rfl))) (by decide) (own_back (rm := ({ frames := 0, cells := 0, slots := 0, locals := 0 } : Room)) (W := 0) (own_mul l Z a0 hw [] (own_sat (own_sat ((P1 ^ E1) * P2 ^ E2) * P3 ^ E3)) (P4 ^ E4) h0 O0 (own_sat_le _) (Nat.le_trans q4_ (by decide))) hZ (hw _ (List.mem_of_getElem? (i := 12) rfl)) (hw _ (List.mem_of_getElem? (i := 8) rfl)) (by decide) (by decide)) (g := (mkF m 245 #[s0, s1, s2, s3, s4, s5, s6, s7, s8, s9, .val (.int (Int32.ofNat P1)), .val (.int (Int32.ofNat E1)), .val (.int (Int32.ofNat P2)), .val (.int (Int32.ofNat E2)), .val (.int (Int32.ofNat P3)), .val (.int (Int32.ofNat E3)), .val (.int (Int32.ofNat P4)), .val (.int (Int32.ofNat E4)), .val (.long (Int64.ofNat (own_sat (own_sat ((P1 ^ E1) * P2 ^ E2) * P3 ^ E3)))), .second, .unset, .unset, .unset, .unset, .unset] [(.long (Int64.ofNat (P4 ^ E4))), (.long (Int64.ofNat (own_sat (own_sat ((P1 ^ E1) * P2 ^ E2) * P3 ^ E3))))])) rfl (by rw [hml]; rfl) (argsL := [(.long (Int64.ofNat (own_sat (own_sat ((P1 ^ E1) * P2 ^ E2) * P3 ^ E3)))), (.long (Int64.ofNat (P4 ^ E4)))]) (rest := []) (lenOf own_pd497 rfl) rfl (by show 2 * 0 + _ ≤ _; exact Nat.le_of_eq rfl) (hb hby at_245) (fun _ _ => ⟨rfl, eh6, hcc, hsc⟩)
  dsimp only [Pt.U, Pt.locs, Pt.cells, Pt.slots] at X7 l7 y7 z7 st7 hQ7
  subst l7 y7 z7
  obtain ⟨rfl, N7q, eh7⟩ := hQ7
  have N7 := Fr.app N6 N7q
  refine own_st st7 ?_
  show own_G _ _ _ _ (T7.setTop (mkF m 248 #[s0, s1, s2, s3, s4, s5, s6, s7, s8, s9, .val (.int (Int32.ofNat P1)), .val (.int (Int32.ofNat E1)), .val (.int (Int32.ofNat P2)), .val (.int (Int32.ofNat E2)), .val (.int (Int32.ofNat P3)), .val (.int (Int32.ofNat E3)), .val (.int (Int32.ofNat P4)), .val (.int (Int32.ofNat E4)), .val (.long (Int64.ofNat (own_sat (own_sat ((P1 ^ E1) * P2 ^ E2) * P3 ^ E3)))), .second, .unset, .unset, .unset, .unset, .unset] [(.long (Int64.ofNat (own_sat (own_sat (own_sat ((P1 ^ E1) * P2 ^ E2) * P3 ^ E3) * P4 ^ E4))))]))
  refine own_st (fun _ k => XS.lstore X7.here hx rfl (hb hby at_248) rfl (l' := #[s0, s1, s2, s3, s4, s5, s6, s7, s8, s9, .val (.int (Int32.ofNat P1)), .val (.int (Int32.ofNat E1)), .val (.int (Int32.ofNat P2)), .val (.int (Int32.ofNat E2)), .val (.int (Int32.ofNat P3)), .val (.int (Int32.ofNat E3)), .val (.int (Int32.ofNat P4)), .val (.int (Int32.ofNat E4)), .val (.long (Int64.ofNat (own_sat (own_sat (own_sat ((P1 ^ E1) * P2 ^ E2) * P3 ^ E3) * P4 ^ E4)))), .second, .unset, .unset, .unset, .unset, .unset]) rfl k) ?_
  show own_G _ _ _ _ (T7.setTop (mkF m 250 #[s0, s1, s2, s3, s4, s5, s6, s7, s8, s9, .val (.int (Int32.ofNat P1)), .val (.int (Int32.ofNat E1)), .val (.int (Int32.ofNat P2)), .val (.int (Int32.ofNat E2)), .val (.int (Int32.ofNat P3)), .val (.int (Int32.ofNat E3)), .val (.int (Int32.ofNat P4)), .val (.int (Int32.ofNat E4)), .val (.long (Int64.ofNat (own_sat (own_sat (own_sat ((P1 ^ E1) * P2 ^ E2) * P3 ^ E3) * P4 ^ E4)))), .second, .unset, .unset, .unset, .unset, .unset] []))
  refine own_st (fun _ k => XS.lload X7.here hx rfl (hb hby at_250) rfl k) ?_
  show own_G _ _ _ _ (T7.setTop (mkF m 252 #[s0, s1, s2, s3, s4, s5, s6, s7, s8, s9, .val (.int (Int32.ofNat P1)), .val (.int (Int32.ofNat E1)), .val (.int (Int32.ofNat P2)), .val (.int (Int32.ofNat E2)), .val (.int (Int32.ofNat P3)), .val (.int (Int32.ofNat E3)), .val (.int (Int32.ofNat P4)), .val (.int (Int32.ofNat E4)), .val (.long (Int64.ofNat (own_sat (own_sat (own_sat ((P1 ^ E1) * P2 ^ E2) * P3 ^ E3) * P4 ^ E4)))), .second, .unset, .unset, .unset, .unset, .unset] [(.long (Int64.ofNat (own_sat (own_sat (own_sat ((P1 ^ E1) * P2 ^ E2) * P3 ^ E3) * P4 ^ E4))))]))
  refine own_st (X7.ldc2Long hx hown (mvT hZ (hw _ (List.mem_of_getElem? (i := 13) rfl))) (g := (mkF m 252 #[s0, s1, s2, s3, s4, s5, s6, s7, s8, s9, .val (.int (Int32.ofNat P1)), .val (.int (Int32.ofNat E1)), .val (.int (Int32.ofNat P2)), .val (.int (Int32.ofNat E2)), .val (.int (Int32.ofNat P3)), .val (.int (Int32.ofNat E3)), .val (.int (Int32.ofNat P4)), .val (.int (Int32.ofNat E4)), .val (.long (Int64.ofNat (own_sat (own_sat (own_sat ((P1 ^ E1) * P2 ^ E2) * P3 ^ E3) * P4 ^ E4)))), .second, .unset, .unset, .unset, .unset, .unset] [(.long (Int64.ofNat (own_sat (own_sat (own_sat ((P1 ^ E1) * P2 ^ E2) * P3 ^ E3) * P4 ^ E4))))])) rfl (hb hby at_252)) ?_
  show own_G _ _ _ _ (T7.setTop (mkF m 255 #[s0, s1, s2, s3, s4, s5, s6, s7, s8, s9, .val (.int (Int32.ofNat P1)), .val (.int (Int32.ofNat E1)), .val (.int (Int32.ofNat P2)), .val (.int (Int32.ofNat E2)), .val (.int (Int32.ofNat P3)), .val (.int (Int32.ofNat E3)), .val (.int (Int32.ofNat P4)), .val (.int (Int32.ofNat E4)), .val (.long (Int64.ofNat (own_sat (own_sat (own_sat ((P1 ^ E1) * P2 ^ E2) * P3 ^ E3) * P4 ^ E4)))), .second, .unset, .unset, .unset, .unset, .unset] [(.long (2147483647 : Int64)), (.long (Int64.ofNat (own_sat (own_sat (own_sat ((P1 ^ E1) * P2 ^ E2) * P3 ^ E3) * P4 ^ E4))))]))
  refine own_st (fun _ k => XS.lcmp X7.here hx rfl (hb hby at_255) rfl k) ?_
  show own_G _ _ _ _ (T7.setTop (mkF m 256 #[s0, s1, s2, s3, s4, s5, s6, s7, s8, s9, .val (.int (Int32.ofNat P1)), .val (.int (Int32.ofNat E1)), .val (.int (Int32.ofNat P2)), .val (.int (Int32.ofNat E2)), .val (.int (Int32.ofNat P3)), .val (.int (Int32.ofNat E3)), .val (.int (Int32.ofNat P4)), .val (.int (Int32.ofNat E4)), .val (.long (Int64.ofNat (own_sat (own_sat (own_sat ((P1 ^ E1) * P2 ^ E2) * P3 ^ E3) * P4 ^ E4)))), .second, .unset, .unset, .unset, .unset, .unset] [(.int (lcmpW (Int64.ofNat (own_sat (own_sat (own_sat ((P1 ^ E1) * P2 ^ E2) * P3 ^ E3) * P4 ^ E4))) (2147483647 : Int64)))]))
  have hsl := own_sat_le (own_sat (own_sat ((P1 ^ E1) * P2 ^ E2) * P3 ^ E3) * P4 ^ E4)
  by_cases hbig : 2147483647 < own_sat (own_sat (own_sat ((P1 ^ E1) * P2 ^ E2) * P3 ^ E3) * P4 ^ E4)
  · skip
    refine own_st (fun _ k => XS.ifNo X7.here hx rfl (hb hby at_256) rfl ((if0 _ _).trans (tlt ((own_cmpL (m := 2147483647) (by omega) (by decide)).mpr hbig)).2.2.2) k) ?_
    show own_G _ _ _ _ (T7.setTop (mkF m 259 #[s0, s1, s2, s3, s4, s5, s6, s7, s8, s9, .val (.int (Int32.ofNat P1)), .val (.int (Int32.ofNat E1)), .val (.int (Int32.ofNat P2)), .val (.int (Int32.ofNat E2)), .val (.int (Int32.ofNat P3)), .val (.int (Int32.ofNat E3)), .val (.int (Int32.ofNat P4)), .val (.int (Int32.ofNat E4)), .val (.long (Int64.ofNat (own_sat (own_sat (own_sat ((P1 ^ E1) * P2 ^ E2) * P3 ^ E3) * P4 ^ E4)))), .second, .unset, .unset, .unset, .unset, .unset] []))
    refine own_st (fun _ k => XS.iconst X7.here hx rfl (hb hby at_259) k) ?_
    show own_G _ _ _ _ (T7.setTop (mkF m 260 #[s0, s1, s2, s3, s4, s5, s6, s7, s8, s9, .val (.int (Int32.ofNat P1)), .val (.int (Int32.ofNat E1)), .val (.int (Int32.ofNat P2)), .val (.int (Int32.ofNat E2)), .val (.int (Int32.ofNat P3)), .val (.int (Int32.ofNat E3)), .val (.int (Int32.ofNat P4)), .val (.int (Int32.ofNat E4)), .val (.long (Int64.ofNat (own_sat (own_sat (own_sat ((P1 ^ E1) * P2 ^ E2) * P3 ^ E3) * P4 ^ E4)))), .second, .unset, .unset, .unset, .unset, .unset] [(.int (1 : Int32))]))
    exact own_retN X7 hx hret hlk (by simp) (hb hby at_260) ⟨rfl, N7⟩ (by omega) (by omega)
  · skip
    refine own_st (fun _ k => XS.ifYes X7.here hx rfl (pc0 := 256) (pc' := 261) rfl (hb hby at_256) rfl ((if0 _ _).trans (flt (mt (own_cmpL (m := 2147483647) (by omega) (by decide)).mp hbig)).2.2.2) (by decide) (by decide) k) ?_
    show own_G _ _ _ _ (T7.setTop (mkF m 261 #[s0, s1, s2, s3, s4, s5, s6, s7, s8, s9, .val (.int (Int32.ofNat P1)), .val (.int (Int32.ofNat E1)), .val (.int (Int32.ofNat P2)), .val (.int (Int32.ofNat E2)), .val (.int (Int32.ofNat P3)), .val (.int (Int32.ofNat E3)), .val (.int (Int32.ofNat P4)), .val (.int (Int32.ofNat E4)), .val (.long (Int64.ofNat (own_sat (own_sat (own_sat ((P1 ^ E1) * P2 ^ E2) * P3 ^ E3) * P4 ^ E4)))), .second, .unset, .unset, .unset, .unset, .unset] []))
    have y4 := own_sat_eq (own_pos (e := E4) (show 2 ≤ P4 by omega)) (Nat.le_of_not_lt hbig)
    have y3 := own_sat_eq (own_pos (e := E3) (show 2 ≤ P3 by omega)) y4.2
    have y2 := own_sat_eq (own_pos (e := E2) (show 2 ≤ P2 by omega)) y3.2
    have hall : own_all ([] ++ own_kept [(P1, E1), (P2, E2), (P3, E3), (P4, E4)]) (own_sat (own_sat (own_sat ((P1 ^ E1) * P2 ^ E2) * P3 ^ E3) * P4 ^ E4)) := by
      have hpr : own_prod [(P1, E1), (P2, E2), (P3, E3), (P4, E4)] = own_sat (own_sat (own_sat ((P1 ^ E1) * P2 ^ E2) * P3 ^ E3) * P4 ^ E4) := by
        show P1 ^ E1 * (P2 ^ E2 * (P3 ^ E3 * (P4 ^ E4 * 1))) = _
        rw [y4.1, y3.1, y2.1, Nat.mul_one, Nat.mul_assoc, Nat.mul_assoc]
      refine ⟨own_kept_asc _ 1 ⟨(by show 1 < P1; omega), pp1, (by show P1 < P2; omega), pp2, (by show P2 < P3; omega), pp3, (by show P3 < P4; omega), pp4, trivial⟩, ?_, ?_⟩
      · show own_prod (own_kept _) < _; rw [own_kept_prod, hpr]; omega
      · show own_prod (own_kept _) = _; rw [own_kept_prod, hpr]
    refine own_st (fun _ k => XS.iconst X7.here hx rfl (hb hby at_261) k) ?_
    show own_G _ _ _ _ (T7.setTop (mkF m 262 #[s0, s1, s2, s3, s4, s5, s6, s7, s8, s9, .val (.int (Int32.ofNat P1)), .val (.int (Int32.ofNat E1)), .val (.int (Int32.ofNat P2)), .val (.int (Int32.ofNat E2)), .val (.int (Int32.ofNat P3)), .val (.int (Int32.ofNat E3)), .val (.int (Int32.ofNat P4)), .val (.int (Int32.ofNat E4)), .val (.long (Int64.ofNat (own_sat (own_sat (own_sat ((P1 ^ E1) * P2 ^ E2) * P3 ^ E3) * P4 ^ E4)))), .second, .unset, .unset, .unset, .unset, .unset] [(.int (4 : Int32))]))
    obtain ⟨T8, h8, k8, X8, e8, E8, A8, st8⟩ := newP X7 hx hZ (hw _ (List.mem_of_getElem? (i := 0) rfl)) eh7 (g := (mkF m 262 #[s0, s1, s2, s3, s4, s5, s6, s7, s8, s9, .val (.int (Int32.ofNat P1)), .val (.int (Int32.ofNat E1)), .val (.int (Int32.ofNat P2)), .val (.int (Int32.ofNat E2)), .val (.int (Int32.ofNat P3)), .val (.int (Int32.ofNat E3)), .val (.int (Int32.ofNat P4)), .val (.int (Int32.ofNat E4)), .val (.long (Int64.ofNat (own_sat (own_sat (own_sat ((P1 ^ E1) * P2 ^ E2) * P3 ^ E3) * P4 ^ E4)))), .second, .unset, .unset, .unset, .unset, .unset] [(.int (4 : Int32))])) rfl (hb hby at_262) rfl (by decide) (cap := 4) (by decide) (by decide) (show _ ≤ 32 by omega) (show _ ≤ 320 by omega)
    obtain ⟨b8, g8⟩ : ∃ z, z = h0.size := ⟨_, rfl⟩
    rw [← g8] at A8 st8
    refine own_st st8 ?_
    have z9 : h0.size ≤ h8.size := E8.1
    have O10 := Old.ext O0 E8
    have K11 : Keep h0 h8 [] := Kr.ext E8
    have V8 : Arv Z h8 b8 k8 .int (4 : Int32) [] (.int (0 : Int32)) := Arv.new A8 (by decide)
    have lt8 := own_ltN A8.lt
    show own_G _ _ _ _ (T8.setTop (mkF m 264 #[s0, s1, s2, s3, s4, s5, s6, s7, s8, s9, .val (.int (Int32.ofNat P1)), .val (.int (Int32.ofNat E1)), .val (.int (Int32.ofNat P2)), .val (.int (Int32.ofNat E2)), .val (.int (Int32.ofNat P3)), .val (.int (Int32.ofNat E3)), .val (.int (Int32.ofNat P4)), .val (.int (Int32.ofNat E4)), .val (.long (Int64.ofNat (own_sat (own_sat (own_sat ((P1 ^ E1) * P2 ^ E2) * P3 ^ E3) * P4 ^ E4)))), .second, .unset, .unset, .unset, .unset, .unset] [(.ref b8)]))
    refine own_st (fun _ k => XS.astore X8.here hx rfl (hb hby at_264) rfl rfl (l' := #[s0, s1, s2, s3, s4, s5, s6, s7, s8, s9, .val (.int (Int32.ofNat P1)), .val (.int (Int32.ofNat E1)), .val (.int (Int32.ofNat P2)), .val (.int (Int32.ofNat E2)), .val (.int (Int32.ofNat P3)), .val (.int (Int32.ofNat E3)), .val (.int (Int32.ofNat P4)), .val (.int (Int32.ofNat E4)), .val (.long (Int64.ofNat (own_sat (own_sat (own_sat ((P1 ^ E1) * P2 ^ E2) * P3 ^ E3) * P4 ^ E4)))), .second, .val (.ref b8), .unset, .unset, .unset, .unset]) rfl k) ?_
    show own_G _ _ _ _ (T8.setTop (mkF m 266 #[s0, s1, s2, s3, s4, s5, s6, s7, s8, s9, .val (.int (Int32.ofNat P1)), .val (.int (Int32.ofNat E1)), .val (.int (Int32.ofNat P2)), .val (.int (Int32.ofNat E2)), .val (.int (Int32.ofNat P3)), .val (.int (Int32.ofNat E3)), .val (.int (Int32.ofNat P4)), .val (.int (Int32.ofNat E4)), .val (.long (Int64.ofNat (own_sat (own_sat (own_sat ((P1 ^ E1) * P2 ^ E2) * P3 ^ E3) * P4 ^ E4)))), .second, .val (.ref b8), .unset, .unset, .unset, .unset] []))
    refine own_st (fun _ k => XS.iconst X8.here hx rfl (hb hby at_266) k) ?_
    show own_G _ _ _ _ (T8.setTop (mkF m 267 #[s0, s1, s2, s3, s4, s5, s6, s7, s8, s9, .val (.int (Int32.ofNat P1)), .val (.int (Int32.ofNat E1)), .val (.int (Int32.ofNat P2)), .val (.int (Int32.ofNat E2)), .val (.int (Int32.ofNat P3)), .val (.int (Int32.ofNat E3)), .val (.int (Int32.ofNat P4)), .val (.int (Int32.ofNat E4)), .val (.long (Int64.ofNat (own_sat (own_sat (own_sat ((P1 ^ E1) * P2 ^ E2) * P3 ^ E3) * P4 ^ E4)))), .second, .val (.ref b8), .unset, .unset, .unset, .unset] [(.int (4 : Int32))]))
    obtain ⟨T12, h12, k12, X12, e12, E12, A12, st12⟩ := newP X8 hx hZ (hw _ (List.mem_of_getElem? (i := 14) rfl)) e8 (g := (mkF m 267 #[s0, s1, s2, s3, s4, s5, s6, s7, s8, s9, .val (.int (Int32.ofNat P1)), .val (.int (Int32.ofNat E1)), .val (.int (Int32.ofNat P2)), .val (.int (Int32.ofNat E2)), .val (.int (Int32.ofNat P3)), .val (.int (Int32.ofNat E3)), .val (.int (Int32.ofNat P4)), .val (.int (Int32.ofNat E4)), .val (.long (Int64.ofNat (own_sat (own_sat (own_sat ((P1 ^ E1) * P2 ^ E2) * P3 ^ E3) * P4 ^ E4)))), .second, .val (.ref b8), .unset, .unset, .unset, .unset] [(.int (4 : Int32))])) rfl (hb hby at_267) rfl (by decide) (cap := 4) (by decide) (by decide) (show _ ≤ 32 by omega) (show _ ≤ 320 by omega)
    obtain ⟨b12, g12⟩ : ∃ z, z = h8.size := ⟨_, rfl⟩
    rw [← g12] at A12 st12
    refine own_st st12 ?_
    have z13 : h8.size ≤ h12.size := E12.1
    have O14 := Old.ext O10 E12
    have K15 : Keep h0 h12 [] := K11.ext E12
    have V12 : Arv Z h12 b12 k12 .long (4 : Int32) [] (.long (0 : Int64)) := Arv.new A12 (by decide)
    have lt12 := own_ltN A12.lt
    show own_G _ _ _ _ (T12.setTop (mkF m 269 #[s0, s1, s2, s3, s4, s5, s6, s7, s8, s9, .val (.int (Int32.ofNat P1)), .val (.int (Int32.ofNat E1)), .val (.int (Int32.ofNat P2)), .val (.int (Int32.ofNat E2)), .val (.int (Int32.ofNat P3)), .val (.int (Int32.ofNat E3)), .val (.int (Int32.ofNat P4)), .val (.int (Int32.ofNat E4)), .val (.long (Int64.ofNat (own_sat (own_sat (own_sat ((P1 ^ E1) * P2 ^ E2) * P3 ^ E3) * P4 ^ E4)))), .second, .val (.ref b8), .unset, .unset, .unset, .unset] [(.ref b12)]))
    refine own_st (fun _ k => XS.astore X12.here hx rfl (hb hby at_269) rfl rfl (l' := #[s0, s1, s2, s3, s4, s5, s6, s7, s8, s9, .val (.int (Int32.ofNat P1)), .val (.int (Int32.ofNat E1)), .val (.int (Int32.ofNat P2)), .val (.int (Int32.ofNat E2)), .val (.int (Int32.ofNat P3)), .val (.int (Int32.ofNat E3)), .val (.int (Int32.ofNat P4)), .val (.int (Int32.ofNat E4)), .val (.long (Int64.ofNat (own_sat (own_sat (own_sat ((P1 ^ E1) * P2 ^ E2) * P3 ^ E3) * P4 ^ E4)))), .second, .val (.ref b8), .val (.ref b12), .unset, .unset, .unset]) rfl k) ?_
    show own_G _ _ _ _ (T12.setTop (mkF m 271 #[s0, s1, s2, s3, s4, s5, s6, s7, s8, s9, .val (.int (Int32.ofNat P1)), .val (.int (Int32.ofNat E1)), .val (.int (Int32.ofNat P2)), .val (.int (Int32.ofNat E2)), .val (.int (Int32.ofNat P3)), .val (.int (Int32.ofNat E3)), .val (.int (Int32.ofNat P4)), .val (.int (Int32.ofNat E4)), .val (.long (Int64.ofNat (own_sat (own_sat (own_sat ((P1 ^ E1) * P2 ^ E2) * P3 ^ E3) * P4 ^ E4)))), .second, .val (.ref b8), .val (.ref b12), .unset, .unset, .unset] []))
    refine own_st (fun _ k => XS.iconst X12.here hx rfl (hb hby at_271) k) ?_
    show own_G _ _ _ _ (T12.setTop (mkF m 272 #[s0, s1, s2, s3, s4, s5, s6, s7, s8, s9, .val (.int (Int32.ofNat P1)), .val (.int (Int32.ofNat E1)), .val (.int (Int32.ofNat P2)), .val (.int (Int32.ofNat E2)), .val (.int (Int32.ofNat P3)), .val (.int (Int32.ofNat E3)), .val (.int (Int32.ofNat P4)), .val (.int (Int32.ofNat E4)), .val (.long (Int64.ofNat (own_sat (own_sat (own_sat ((P1 ^ E1) * P2 ^ E2) * P3 ^ E3) * P4 ^ E4)))), .second, .val (.ref b8), .val (.ref b12), .unset, .unset, .unset] [(.int (0 : Int32))]))
    refine own_st (fun _ k => XS.istore X12.here hx rfl (hb hby at_272) rfl (l' := #[s0, s1, s2, s3, s4, s5, s6, s7, s8, s9, .val (.int (Int32.ofNat P1)), .val (.int (Int32.ofNat E1)), .val (.int (Int32.ofNat P2)), .val (.int (Int32.ofNat E2)), .val (.int (Int32.ofNat P3)), .val (.int (Int32.ofNat E3)), .val (.int (Int32.ofNat P4)), .val (.int (Int32.ofNat E4)), .val (.long (Int64.ofNat (own_sat (own_sat (own_sat ((P1 ^ E1) * P2 ^ E2) * P3 ^ E3) * P4 ^ E4)))), .second, .val (.ref b8), .val (.ref b12), .val (.int (0 : Int32)), .unset, .unset]) rfl k) ?_
    show own_G _ _ _ _ (T12.setTop (mkF m 274 #[s0, s1, s2, s3, s4, s5, s6, s7, s8, s9, .val (.int (Int32.ofNat P1)), .val (.int (Int32.ofNat E1)), .val (.int (Int32.ofNat P2)), .val (.int (Int32.ofNat E2)), .val (.int (Int32.ofNat P3)), .val (.int (Int32.ofNat E3)), .val (.int (Int32.ofNat P4)), .val (.int (Int32.ofNat E4)), .val (.long (Int64.ofNat (own_sat (own_sat (own_sat ((P1 ^ E1) * P2 ^ E2) * P3 ^ E3) * P4 ^ E4)))), .second, .val (.ref b8), .val (.ref b12), .val (.int (0 : Int32)), .unset, .unset] []))
    have q16 : Arv Z h12 b8 k8 .int (4 : Int32) [] (.int (0 : Int32)) := (V8.ext E12)
    exact own_lw1 b8 b12 k8 k12 [] _ P1 E1 P2 E2 P3 E3 P4 E4 _ _ _ _ _ _ _ _ _ _ hx hZ hw hby hml hown X12 e12 N7 O14 hret hlk (by omega) (by omega) (by omega) (by omega) (show @Ne Nat b8 b12 by omega) (by decide) (show P1 < 2147483648 by omega) (show P2 < 2147483648 by omega) (show P3 < 2147483648 by omega) (show P4 < 2147483648 by omega) (by omega) (by omega) (by omega) (by omega) hall q16 V12
set_option maxRecDepth 65536 in
set_option maxHeartbeats 40000000 in
theorem own_law (l : Launch) (Z : State) (a0 : Array Value) (hw : ∀ d ∈ tables_1, d.before a0 Z = true) (ws : List Jvm.Cond) (p0 : Int32) (p1 : Int32) (p2 : Int32) (p3 : Int32)  (h0 : Heap) (O0 : Old Z Z.heap.size h0)  :
    own_Met l Z x code maxLocals ret ws room_1 #[(.int p0), (.int p1), (.int p2), (.int p3)] h0 (fun v h L => v = some (.int 1) ∧ Fr Z.heap.size L) 32 320 := by
  refine own_body (ef := fun m => mkF m 0 #[.val (.int p0), .val (.int p1), .val (.int p2), .val (.int p3), .unset, .unset, .unset, .unset, .unset, .unset, .unset, .unset, .unset, .unset, .unset, .unset, .unset, .unset, .unset, .unset, .unset, .unset, .unset, .unset, .unset] []) (plainFor_of_name own_pn62) (fun m => by first | (simp [entryFrame, mkF, argsToLocals, Value.category, maxLocals]; done) | rfl) ?_
  intro p e s m below meth c T0 hx hZ hby hml hown hnm hret hlk X0 e0
  have N0 := Fr.nil Z.heap.size
  have z0 : Z.heap.size ≤ h0.size := O0.2.1
  have Kr := Keep.refl h0 []
  show own_G _ _ _ _ (T0.setTop (mkF m 0 #[.val (.int p0), .val (.int p1), .val (.int p2), .val (.int p3), .unset, .unset, .unset, .unset, .unset, .unset, .unset, .unset, .unset, .unset, .unset, .unset, .unset, .unset, .unset, .unset, .unset, .unset, .unset, .unset, .unset] []))
  refine own_st (fun _ k => XS.iconst X0.here hx rfl (hb hby at_0) k) ?_
  show own_G _ _ _ _ (T0.setTop (mkF m 1 #[.val (.int p0), .val (.int p1), .val (.int p2), .val (.int p3), .unset, .unset, .unset, .unset, .unset, .unset, .unset, .unset, .unset, .unset, .unset, .unset, .unset, .unset, .unset, .unset, .unset, .unset, .unset, .unset, .unset] [(.int (4 : Int32))]))
  obtain ⟨T1, h1, k1, X1, e1, E1, A1, st1⟩ := newP X0 hx hZ (hw _ (List.mem_of_getElem? (i := 0) rfl)) e0 (g := (mkF m 1 #[.val (.int p0), .val (.int p1), .val (.int p2), .val (.int p3), .unset, .unset, .unset, .unset, .unset, .unset, .unset, .unset, .unset, .unset, .unset, .unset, .unset, .unset, .unset, .unset, .unset, .unset, .unset, .unset, .unset] [(.int (4 : Int32))])) rfl (hb hby at_1) rfl (by decide) (cap := 4) (by decide) (by decide) (by decide) (by decide)
  obtain ⟨b1, g1⟩ : ∃ z, z = h0.size := ⟨_, rfl⟩
  rw [← g1] at A1 st1
  refine own_st st1 ?_
  have z2 : h0.size ≤ h1.size := E1.1
  have O3 := Old.ext O0 E1
  have K4 : Keep h0 h1 [] := Kr.ext E1
  have V1 : Arv Z h1 b1 k1 .int (4 : Int32) [(.int (0 : Int32)), (.int (0 : Int32)), (.int (0 : Int32)), (.int (0 : Int32))] (.int (0 : Int32)) := (Arv.new A1 (by decide)).pad (pad_rep [] (.int (0 : Int32)) 4)
  have lt1 := own_ltN A1.lt
  show own_G _ _ _ _ (T1.setTop (mkF m 3 #[.val (.int p0), .val (.int p1), .val (.int p2), .val (.int p3), .unset, .unset, .unset, .unset, .unset, .unset, .unset, .unset, .unset, .unset, .unset, .unset, .unset, .unset, .unset, .unset, .unset, .unset, .unset, .unset, .unset] [(.ref b1)]))
  refine own_st (fun _ k => XS.dup X1.here hx rfl (hb hby at_3) rfl rfl k) ?_
  show own_G _ _ _ _ (T1.setTop (mkF m 4 #[.val (.int p0), .val (.int p1), .val (.int p2), .val (.int p3), .unset, .unset, .unset, .unset, .unset, .unset, .unset, .unset, .unset, .unset, .unset, .unset, .unset, .unset, .unset, .unset, .unset, .unset, .unset, .unset, .unset] [(.ref b1), (.ref b1)]))
  refine own_st (fun _ k => XS.iconst X1.here hx rfl (hb hby at_4) k) ?_
  show own_G _ _ _ _ (T1.setTop (mkF m 5 #[.val (.int p0), .val (.int p1), .val (.int p2), .val (.int p3), .unset, .unset, .unset, .unset, .unset, .unset, .unset, .unset, .unset, .unset, .unset, .unset, .unset, .unset, .unset, .unset, .unset, .unset, .unset, .unset, .unset] [(.int (0 : Int32)), (.ref b1), (.ref b1)]))
  refine own_st (fun _ k => XS.iconst X1.here hx rfl (hb hby at_5) k) ?_
  show own_G _ _ _ _ (T1.setTop (mkF m 6 #[.val (.int p0), .val (.int p1), .val (.int p2), .val (.int p3), .unset, .unset, .unset, .unset, .unset, .unset, .unset, .unset, .unset, .unset, .unset, .unset, .unset, .unset, .unset, .unset, .unset, .unset, .unset, .unset, .unset] [(.int (2 : Int32)), (.int (0 : Int32)), (.ref b1), (.ref b1)]))
  obtain ⟨cl5, Ar5, qk5, Sz5, Mz5, Hz5, Uz5⟩ := id V1
  obtain ⟨T6, h6, X6, e6, W6, st6⟩ := stI X1 hx hZ e1 Ar5 (j := (0 : Int32)) (inb_of Sz5 ⟨by decide, by decide⟩) (g := (mkF m 6 #[.val (.int p0), .val (.int p1), .val (.int p2), .val (.int p3), .unset, .unset, .unset, .unset, .unset, .unset, .unset, .unset, .unset, .unset, .unset, .unset, .unset, .unset, .unset, .unset, .unset, .unset, .unset, .unset, .unset] [(.int (2 : Int32)), (.int (0 : Int32)), (.ref b1), (.ref b1)])) rfl rfl (hb hby at_6)
  refine own_st st6 ?_
  have V6 := Arv.set Ar5 qk5 Sz5 Mz5 Hz5 Uz5 rfl W6 0 rfl (Nat.le_of_ble_eq_true rfl)
  have z7 : h6.size = h1.size := W6.size
  have O8 := Old.wr O3 W6 (by omega)
  have K9 : Keep h0 h6 [] := K4.wr W6 (Or.inr (by omega))
  have N6 := Fr.snoc X6 N0 (by omega : Z.heap.size ≤ b1)
  have V6' : Arv Z h6 b1 k1 .int (4 : Int32) [(.int (2 : Int32)), (.int (0 : Int32)), (.int (0 : Int32)), (.int (0 : Int32))] (.int (0 : Int32)) := V6
  show own_G _ _ _ _ (T6.setTop (mkF m 7 #[.val (.int p0), .val (.int p1), .val (.int p2), .val (.int p3), .unset, .unset, .unset, .unset, .unset, .unset, .unset, .unset, .unset, .unset, .unset, .unset, .unset, .unset, .unset, .unset, .unset, .unset, .unset, .unset, .unset] [(.ref b1)]))
  refine own_st (fun _ k => XS.dup X6.here hx rfl (hb hby at_7) rfl rfl k) ?_
  show own_G _ _ _ _ (T6.setTop (mkF m 8 #[.val (.int p0), .val (.int p1), .val (.int p2), .val (.int p3), .unset, .unset, .unset, .unset, .unset, .unset, .unset, .unset, .unset, .unset, .unset, .unset, .unset, .unset, .unset, .unset, .unset, .unset, .unset, .unset, .unset] [(.ref b1), (.ref b1)]))
  refine own_st (fun _ k => XS.iconst X6.here hx rfl (hb hby at_8) k) ?_
  show own_G _ _ _ _ (T6.setTop (mkF m 9 #[.val (.int p0), .val (.int p1), .val (.int p2), .val (.int p3), .unset, .unset, .unset, .unset, .unset, .unset, .unset, .unset, .unset, .unset, .unset, .unset, .unset, .unset, .unset, .unset, .unset, .unset, .unset, .unset, .unset] [(.int (1 : Int32)), (.ref b1), (.ref b1)]))
  refine own_st (fun _ k => XS.iconst X6.here hx rfl (hb hby at_9) k) ?_
  show own_G _ _ _ _ (T6.setTop (mkF m 10 #[.val (.int p0), .val (.int p1), .val (.int p2), .val (.int p3), .unset, .unset, .unset, .unset, .unset, .unset, .unset, .unset, .unset, .unset, .unset, .unset, .unset, .unset, .unset, .unset, .unset, .unset, .unset, .unset, .unset] [(.int (3 : Int32)), (.int (1 : Int32)), (.ref b1), (.ref b1)]))
  obtain ⟨cl10, Ar10, qk10, Sz10, Mz10, Hz10, Uz10⟩ := id V6'
  obtain ⟨T11, h11, X11, e11, W11, st11⟩ := stI X6 hx hZ e6 Ar10 (j := (1 : Int32)) (inb_of Sz10 ⟨by decide, by decide⟩) (g := (mkF m 10 #[.val (.int p0), .val (.int p1), .val (.int p2), .val (.int p3), .unset, .unset, .unset, .unset, .unset, .unset, .unset, .unset, .unset, .unset, .unset, .unset, .unset, .unset, .unset, .unset, .unset, .unset, .unset, .unset, .unset] [(.int (3 : Int32)), (.int (1 : Int32)), (.ref b1), (.ref b1)])) rfl rfl (hb hby at_10)
  refine own_st st11 ?_
  have V11 := Arv.set Ar10 qk10 Sz10 Mz10 Hz10 Uz10 rfl W11 1 rfl (Nat.le_of_ble_eq_true rfl)
  have z12 : h11.size = h6.size := W11.size
  have O13 := Old.wr O8 W11 (by omega)
  have K14 : Keep h0 h11 [] := K9.wr W11 (Or.inr (by omega))
  have N11 := Fr.snoc X11 N6 (by omega : Z.heap.size ≤ b1)
  have V11' : Arv Z h11 b1 k1 .int (4 : Int32) [(.int (2 : Int32)), (.int (3 : Int32)), (.int (0 : Int32)), (.int (0 : Int32))] (.int (0 : Int32)) := V11
  show own_G _ _ _ _ (T11.setTop (mkF m 11 #[.val (.int p0), .val (.int p1), .val (.int p2), .val (.int p3), .unset, .unset, .unset, .unset, .unset, .unset, .unset, .unset, .unset, .unset, .unset, .unset, .unset, .unset, .unset, .unset, .unset, .unset, .unset, .unset, .unset] [(.ref b1)]))
  refine own_st (fun _ k => XS.dup X11.here hx rfl (hb hby at_11) rfl rfl k) ?_
  show own_G _ _ _ _ (T11.setTop (mkF m 12 #[.val (.int p0), .val (.int p1), .val (.int p2), .val (.int p3), .unset, .unset, .unset, .unset, .unset, .unset, .unset, .unset, .unset, .unset, .unset, .unset, .unset, .unset, .unset, .unset, .unset, .unset, .unset, .unset, .unset] [(.ref b1), (.ref b1)]))
  refine own_st (fun _ k => XS.iconst X11.here hx rfl (hb hby at_12) k) ?_
  show own_G _ _ _ _ (T11.setTop (mkF m 13 #[.val (.int p0), .val (.int p1), .val (.int p2), .val (.int p3), .unset, .unset, .unset, .unset, .unset, .unset, .unset, .unset, .unset, .unset, .unset, .unset, .unset, .unset, .unset, .unset, .unset, .unset, .unset, .unset, .unset] [(.int (2 : Int32)), (.ref b1), (.ref b1)]))
  refine own_st (fun _ k => XS.iconst X11.here hx rfl (hb hby at_13) k) ?_
  show own_G _ _ _ _ (T11.setTop (mkF m 14 #[.val (.int p0), .val (.int p1), .val (.int p2), .val (.int p3), .unset, .unset, .unset, .unset, .unset, .unset, .unset, .unset, .unset, .unset, .unset, .unset, .unset, .unset, .unset, .unset, .unset, .unset, .unset, .unset, .unset] [(.int (5 : Int32)), (.int (2 : Int32)), (.ref b1), (.ref b1)]))
  obtain ⟨cl15, Ar15, qk15, Sz15, Mz15, Hz15, Uz15⟩ := id V11'
  obtain ⟨T16, h16, X16, e16, W16, st16⟩ := stI X11 hx hZ e11 Ar15 (j := (2 : Int32)) (inb_of Sz15 ⟨by decide, by decide⟩) (g := (mkF m 14 #[.val (.int p0), .val (.int p1), .val (.int p2), .val (.int p3), .unset, .unset, .unset, .unset, .unset, .unset, .unset, .unset, .unset, .unset, .unset, .unset, .unset, .unset, .unset, .unset, .unset, .unset, .unset, .unset, .unset] [(.int (5 : Int32)), (.int (2 : Int32)), (.ref b1), (.ref b1)])) rfl rfl (hb hby at_14)
  refine own_st st16 ?_
  have V16 := Arv.set Ar15 qk15 Sz15 Mz15 Hz15 Uz15 rfl W16 2 rfl (Nat.le_of_ble_eq_true rfl)
  have z17 : h16.size = h11.size := W16.size
  have O18 := Old.wr O13 W16 (by omega)
  have K19 : Keep h0 h16 [] := K14.wr W16 (Or.inr (by omega))
  have N16 := Fr.snoc X16 N11 (by omega : Z.heap.size ≤ b1)
  have V16' : Arv Z h16 b1 k1 .int (4 : Int32) [(.int (2 : Int32)), (.int (3 : Int32)), (.int (5 : Int32)), (.int (0 : Int32))] (.int (0 : Int32)) := V16
  show own_G _ _ _ _ (T16.setTop (mkF m 15 #[.val (.int p0), .val (.int p1), .val (.int p2), .val (.int p3), .unset, .unset, .unset, .unset, .unset, .unset, .unset, .unset, .unset, .unset, .unset, .unset, .unset, .unset, .unset, .unset, .unset, .unset, .unset, .unset, .unset] [(.ref b1)]))
  refine own_st (fun _ k => XS.dup X16.here hx rfl (hb hby at_15) rfl rfl k) ?_
  show own_G _ _ _ _ (T16.setTop (mkF m 16 #[.val (.int p0), .val (.int p1), .val (.int p2), .val (.int p3), .unset, .unset, .unset, .unset, .unset, .unset, .unset, .unset, .unset, .unset, .unset, .unset, .unset, .unset, .unset, .unset, .unset, .unset, .unset, .unset, .unset] [(.ref b1), (.ref b1)]))
  refine own_st (fun _ k => XS.iconst X16.here hx rfl (hb hby at_16) k) ?_
  show own_G _ _ _ _ (T16.setTop (mkF m 17 #[.val (.int p0), .val (.int p1), .val (.int p2), .val (.int p3), .unset, .unset, .unset, .unset, .unset, .unset, .unset, .unset, .unset, .unset, .unset, .unset, .unset, .unset, .unset, .unset, .unset, .unset, .unset, .unset, .unset] [(.int (3 : Int32)), (.ref b1), (.ref b1)]))
  refine own_st (fun _ k => XS.bipush X16.here hx rfl (hb hby at_17) k) ?_
  show own_G _ _ _ _ (T16.setTop (mkF m 19 #[.val (.int p0), .val (.int p1), .val (.int p2), .val (.int p3), .unset, .unset, .unset, .unset, .unset, .unset, .unset, .unset, .unset, .unset, .unset, .unset, .unset, .unset, .unset, .unset, .unset, .unset, .unset, .unset, .unset] [(.int (7 : Int32)), (.int (3 : Int32)), (.ref b1), (.ref b1)]))
  obtain ⟨cl20, Ar20, qk20, Sz20, Mz20, Hz20, Uz20⟩ := id V16'
  obtain ⟨T21, h21, X21, e21, W21, st21⟩ := stI X16 hx hZ e16 Ar20 (j := (3 : Int32)) (inb_of Sz20 ⟨by decide, by decide⟩) (g := (mkF m 19 #[.val (.int p0), .val (.int p1), .val (.int p2), .val (.int p3), .unset, .unset, .unset, .unset, .unset, .unset, .unset, .unset, .unset, .unset, .unset, .unset, .unset, .unset, .unset, .unset, .unset, .unset, .unset, .unset, .unset] [(.int (7 : Int32)), (.int (3 : Int32)), (.ref b1), (.ref b1)])) rfl rfl (hb hby at_19)
  refine own_st st21 ?_
  have V21 := Arv.set Ar20 qk20 Sz20 Mz20 Hz20 Uz20 rfl W21 3 rfl (Nat.le_of_ble_eq_true rfl)
  have z22 : h21.size = h16.size := W21.size
  have O23 := Old.wr O18 W21 (by omega)
  have K24 : Keep h0 h21 [] := K19.wr W21 (Or.inr (by omega))
  have N21 := Fr.snoc X21 N16 (by omega : Z.heap.size ≤ b1)
  have V21' : Arv Z h21 b1 k1 .int (4 : Int32) [(.int (2 : Int32)), (.int (3 : Int32)), (.int (5 : Int32)), (.int (7 : Int32))] (.int (0 : Int32)) := V21
  show own_G _ _ _ _ (T21.setTop (mkF m 20 #[.val (.int p0), .val (.int p1), .val (.int p2), .val (.int p3), .unset, .unset, .unset, .unset, .unset, .unset, .unset, .unset, .unset, .unset, .unset, .unset, .unset, .unset, .unset, .unset, .unset, .unset, .unset, .unset, .unset] [(.ref b1)]))
  refine own_st (fun _ k => XS.astore X21.here hx rfl (hb hby at_20) rfl rfl (l' := #[.val (.int p0), .val (.int p1), .val (.int p2), .val (.int p3), .val (.ref b1), .unset, .unset, .unset, .unset, .unset, .unset, .unset, .unset, .unset, .unset, .unset, .unset, .unset, .unset, .unset, .unset, .unset, .unset, .unset, .unset]) rfl k) ?_
  show own_G _ _ _ _ (T21.setTop (mkF m 22 #[.val (.int p0), .val (.int p1), .val (.int p2), .val (.int p3), .val (.ref b1), .unset, .unset, .unset, .unset, .unset, .unset, .unset, .unset, .unset, .unset, .unset, .unset, .unset, .unset, .unset, .unset, .unset, .unset, .unset, .unset] []))
  refine own_st (fun _ k => XS.iconst X21.here hx rfl (hb hby at_22) k) ?_
  show own_G _ _ _ _ (T21.setTop (mkF m 23 #[.val (.int p0), .val (.int p1), .val (.int p2), .val (.int p3), .val (.ref b1), .unset, .unset, .unset, .unset, .unset, .unset, .unset, .unset, .unset, .unset, .unset, .unset, .unset, .unset, .unset, .unset, .unset, .unset, .unset, .unset] [(.int (4 : Int32))]))
  obtain ⟨T25, h25, k25, X25, e25, E25, A25, st25⟩ := newP X21 hx hZ (hw _ (List.mem_of_getElem? (i := 0) rfl)) e21 (g := (mkF m 23 #[.val (.int p0), .val (.int p1), .val (.int p2), .val (.int p3), .val (.ref b1), .unset, .unset, .unset, .unset, .unset, .unset, .unset, .unset, .unset, .unset, .unset, .unset, .unset, .unset, .unset, .unset, .unset, .unset, .unset, .unset] [(.int (4 : Int32))])) rfl (hb hby at_23) rfl (by decide) (cap := 4) (by decide) (by decide) (by decide) (by decide)
  obtain ⟨b25, g25⟩ : ∃ z, z = h21.size := ⟨_, rfl⟩
  rw [← g25] at A25 st25
  refine own_st st25 ?_
  have z26 : h21.size ≤ h25.size := E25.1
  have O27 := Old.ext O23 E25
  have K28 : Keep h0 h25 [] := K24.ext E25
  have V25 : Arv Z h25 b25 k25 .int (4 : Int32) [(.int (0 : Int32)), (.int (0 : Int32)), (.int (0 : Int32)), (.int (0 : Int32))] (.int (0 : Int32)) := (Arv.new A25 (by decide)).pad (pad_rep [] (.int (0 : Int32)) 4)
  have lt25 := own_ltN A25.lt
  show own_G _ _ _ _ (T25.setTop (mkF m 25 #[.val (.int p0), .val (.int p1), .val (.int p2), .val (.int p3), .val (.ref b1), .unset, .unset, .unset, .unset, .unset, .unset, .unset, .unset, .unset, .unset, .unset, .unset, .unset, .unset, .unset, .unset, .unset, .unset, .unset, .unset] [(.ref b25)]))
  refine own_st (fun _ k => XS.dup X25.here hx rfl (hb hby at_25) rfl rfl k) ?_
  show own_G _ _ _ _ (T25.setTop (mkF m 26 #[.val (.int p0), .val (.int p1), .val (.int p2), .val (.int p3), .val (.ref b1), .unset, .unset, .unset, .unset, .unset, .unset, .unset, .unset, .unset, .unset, .unset, .unset, .unset, .unset, .unset, .unset, .unset, .unset, .unset, .unset] [(.ref b25), (.ref b25)]))
  refine own_st (fun _ k => XS.iconst X25.here hx rfl (hb hby at_26) k) ?_
  show own_G _ _ _ _ (T25.setTop (mkF m 27 #[.val (.int p0), .val (.int p1), .val (.int p2), .val (.int p3), .val (.ref b1), .unset, .unset, .unset, .unset, .unset, .unset, .unset, .unset, .unset, .unset, .unset, .unset, .unset, .unset, .unset, .unset, .unset, .unset, .unset, .unset] [(.int (0 : Int32)), (.ref b25), (.ref b25)]))
  refine own_st (fun _ k => XS.bipush X25.here hx rfl (hb hby at_27) k) ?_
  show own_G _ _ _ _ (T25.setTop (mkF m 29 #[.val (.int p0), .val (.int p1), .val (.int p2), .val (.int p3), .val (.ref b1), .unset, .unset, .unset, .unset, .unset, .unset, .unset, .unset, .unset, .unset, .unset, .unset, .unset, .unset, .unset, .unset, .unset, .unset, .unset, .unset] [(.int (31 : Int32)), (.int (0 : Int32)), (.ref b25), (.ref b25)]))
  obtain ⟨cl29, Ar29, qk29, Sz29, Mz29, Hz29, Uz29⟩ := id V25
  obtain ⟨T30, h30, X30, e30, W30, st30⟩ := stI X25 hx hZ e25 Ar29 (j := (0 : Int32)) (inb_of Sz29 ⟨by decide, by decide⟩) (g := (mkF m 29 #[.val (.int p0), .val (.int p1), .val (.int p2), .val (.int p3), .val (.ref b1), .unset, .unset, .unset, .unset, .unset, .unset, .unset, .unset, .unset, .unset, .unset, .unset, .unset, .unset, .unset, .unset, .unset, .unset, .unset, .unset] [(.int (31 : Int32)), (.int (0 : Int32)), (.ref b25), (.ref b25)])) rfl rfl (hb hby at_29)
  refine own_st st30 ?_
  have V30 := Arv.set Ar29 qk29 Sz29 Mz29 Hz29 Uz29 rfl W30 0 rfl (Nat.le_of_ble_eq_true rfl)
  have z31 : h30.size = h25.size := W30.size
  have O32 := Old.wr O27 W30 (by omega)
  have K33 : Keep h0 h30 [] := K28.wr W30 (Or.inr (by omega))
  have N30 := Fr.snoc X30 N21 (by omega : Z.heap.size ≤ b25)
  have V30' : Arv Z h30 b25 k25 .int (4 : Int32) [(.int (31 : Int32)), (.int (0 : Int32)), (.int (0 : Int32)), (.int (0 : Int32))] (.int (0 : Int32)) := V30
  show own_G _ _ _ _ (T30.setTop (mkF m 30 #[.val (.int p0), .val (.int p1), .val (.int p2), .val (.int p3), .val (.ref b1), .unset, .unset, .unset, .unset, .unset, .unset, .unset, .unset, .unset, .unset, .unset, .unset, .unset, .unset, .unset, .unset, .unset, .unset, .unset, .unset] [(.ref b25)]))
  refine own_st (fun _ k => XS.dup X30.here hx rfl (hb hby at_30) rfl rfl k) ?_
  show own_G _ _ _ _ (T30.setTop (mkF m 31 #[.val (.int p0), .val (.int p1), .val (.int p2), .val (.int p3), .val (.ref b1), .unset, .unset, .unset, .unset, .unset, .unset, .unset, .unset, .unset, .unset, .unset, .unset, .unset, .unset, .unset, .unset, .unset, .unset, .unset, .unset] [(.ref b25), (.ref b25)]))
  refine own_st (fun _ k => XS.iconst X30.here hx rfl (hb hby at_31) k) ?_
  show own_G _ _ _ _ (T30.setTop (mkF m 32 #[.val (.int p0), .val (.int p1), .val (.int p2), .val (.int p3), .val (.ref b1), .unset, .unset, .unset, .unset, .unset, .unset, .unset, .unset, .unset, .unset, .unset, .unset, .unset, .unset, .unset, .unset, .unset, .unset, .unset, .unset] [(.int (1 : Int32)), (.ref b25), (.ref b25)]))
  refine own_st (fun _ k => XS.bipush X30.here hx rfl (hb hby at_32) k) ?_
  show own_G _ _ _ _ (T30.setTop (mkF m 34 #[.val (.int p0), .val (.int p1), .val (.int p2), .val (.int p3), .val (.ref b1), .unset, .unset, .unset, .unset, .unset, .unset, .unset, .unset, .unset, .unset, .unset, .unset, .unset, .unset, .unset, .unset, .unset, .unset, .unset, .unset] [(.int (20 : Int32)), (.int (1 : Int32)), (.ref b25), (.ref b25)]))
  obtain ⟨cl34, Ar34, qk34, Sz34, Mz34, Hz34, Uz34⟩ := id V30'
  obtain ⟨T35, h35, X35, e35, W35, st35⟩ := stI X30 hx hZ e30 Ar34 (j := (1 : Int32)) (inb_of Sz34 ⟨by decide, by decide⟩) (g := (mkF m 34 #[.val (.int p0), .val (.int p1), .val (.int p2), .val (.int p3), .val (.ref b1), .unset, .unset, .unset, .unset, .unset, .unset, .unset, .unset, .unset, .unset, .unset, .unset, .unset, .unset, .unset, .unset, .unset, .unset, .unset, .unset] [(.int (20 : Int32)), (.int (1 : Int32)), (.ref b25), (.ref b25)])) rfl rfl (hb hby at_34)
  refine own_st st35 ?_
  have V35 := Arv.set Ar34 qk34 Sz34 Mz34 Hz34 Uz34 rfl W35 1 rfl (Nat.le_of_ble_eq_true rfl)
  have z36 : h35.size = h30.size := W35.size
  have O37 := Old.wr O32 W35 (by omega)
  have K38 : Keep h0 h35 [] := K33.wr W35 (Or.inr (by omega))
  have N35 := Fr.snoc X35 N30 (by omega : Z.heap.size ≤ b25)
  have V35' : Arv Z h35 b25 k25 .int (4 : Int32) [(.int (31 : Int32)), (.int (20 : Int32)), (.int (0 : Int32)), (.int (0 : Int32))] (.int (0 : Int32)) := V35
  show own_G _ _ _ _ (T35.setTop (mkF m 35 #[.val (.int p0), .val (.int p1), .val (.int p2), .val (.int p3), .val (.ref b1), .unset, .unset, .unset, .unset, .unset, .unset, .unset, .unset, .unset, .unset, .unset, .unset, .unset, .unset, .unset, .unset, .unset, .unset, .unset, .unset] [(.ref b25)]))
  refine own_st (fun _ k => XS.dup X35.here hx rfl (hb hby at_35) rfl rfl k) ?_
  show own_G _ _ _ _ (T35.setTop (mkF m 36 #[.val (.int p0), .val (.int p1), .val (.int p2), .val (.int p3), .val (.ref b1), .unset, .unset, .unset, .unset, .unset, .unset, .unset, .unset, .unset, .unset, .unset, .unset, .unset, .unset, .unset, .unset, .unset, .unset, .unset, .unset] [(.ref b25), (.ref b25)]))
  refine own_st (fun _ k => XS.iconst X35.here hx rfl (hb hby at_36) k) ?_
  show own_G _ _ _ _ (T35.setTop (mkF m 37 #[.val (.int p0), .val (.int p1), .val (.int p2), .val (.int p3), .val (.ref b1), .unset, .unset, .unset, .unset, .unset, .unset, .unset, .unset, .unset, .unset, .unset, .unset, .unset, .unset, .unset, .unset, .unset, .unset, .unset, .unset] [(.int (2 : Int32)), (.ref b25), (.ref b25)]))
  refine own_st (fun _ k => XS.bipush X35.here hx rfl (hb hby at_37) k) ?_
  show own_G _ _ _ _ (T35.setTop (mkF m 39 #[.val (.int p0), .val (.int p1), .val (.int p2), .val (.int p3), .val (.ref b1), .unset, .unset, .unset, .unset, .unset, .unset, .unset, .unset, .unset, .unset, .unset, .unset, .unset, .unset, .unset, .unset, .unset, .unset, .unset, .unset] [(.int (14 : Int32)), (.int (2 : Int32)), (.ref b25), (.ref b25)]))
  obtain ⟨cl39, Ar39, qk39, Sz39, Mz39, Hz39, Uz39⟩ := id V35'
  obtain ⟨T40, h40, X40, e40, W40, st40⟩ := stI X35 hx hZ e35 Ar39 (j := (2 : Int32)) (inb_of Sz39 ⟨by decide, by decide⟩) (g := (mkF m 39 #[.val (.int p0), .val (.int p1), .val (.int p2), .val (.int p3), .val (.ref b1), .unset, .unset, .unset, .unset, .unset, .unset, .unset, .unset, .unset, .unset, .unset, .unset, .unset, .unset, .unset, .unset, .unset, .unset, .unset, .unset] [(.int (14 : Int32)), (.int (2 : Int32)), (.ref b25), (.ref b25)])) rfl rfl (hb hby at_39)
  refine own_st st40 ?_
  have V40 := Arv.set Ar39 qk39 Sz39 Mz39 Hz39 Uz39 rfl W40 2 rfl (Nat.le_of_ble_eq_true rfl)
  have z41 : h40.size = h35.size := W40.size
  have O42 := Old.wr O37 W40 (by omega)
  have K43 : Keep h0 h40 [] := K38.wr W40 (Or.inr (by omega))
  have N40 := Fr.snoc X40 N35 (by omega : Z.heap.size ≤ b25)
  have V40' : Arv Z h40 b25 k25 .int (4 : Int32) [(.int (31 : Int32)), (.int (20 : Int32)), (.int (14 : Int32)), (.int (0 : Int32))] (.int (0 : Int32)) := V40
  show own_G _ _ _ _ (T40.setTop (mkF m 40 #[.val (.int p0), .val (.int p1), .val (.int p2), .val (.int p3), .val (.ref b1), .unset, .unset, .unset, .unset, .unset, .unset, .unset, .unset, .unset, .unset, .unset, .unset, .unset, .unset, .unset, .unset, .unset, .unset, .unset, .unset] [(.ref b25)]))
  refine own_st (fun _ k => XS.dup X40.here hx rfl (hb hby at_40) rfl rfl k) ?_
  show own_G _ _ _ _ (T40.setTop (mkF m 41 #[.val (.int p0), .val (.int p1), .val (.int p2), .val (.int p3), .val (.ref b1), .unset, .unset, .unset, .unset, .unset, .unset, .unset, .unset, .unset, .unset, .unset, .unset, .unset, .unset, .unset, .unset, .unset, .unset, .unset, .unset] [(.ref b25), (.ref b25)]))
  refine own_st (fun _ k => XS.iconst X40.here hx rfl (hb hby at_41) k) ?_
  show own_G _ _ _ _ (T40.setTop (mkF m 42 #[.val (.int p0), .val (.int p1), .val (.int p2), .val (.int p3), .val (.ref b1), .unset, .unset, .unset, .unset, .unset, .unset, .unset, .unset, .unset, .unset, .unset, .unset, .unset, .unset, .unset, .unset, .unset, .unset, .unset, .unset] [(.int (3 : Int32)), (.ref b25), (.ref b25)]))
  refine own_st (fun _ k => XS.bipush X40.here hx rfl (hb hby at_42) k) ?_
  show own_G _ _ _ _ (T40.setTop (mkF m 44 #[.val (.int p0), .val (.int p1), .val (.int p2), .val (.int p3), .val (.ref b1), .unset, .unset, .unset, .unset, .unset, .unset, .unset, .unset, .unset, .unset, .unset, .unset, .unset, .unset, .unset, .unset, .unset, .unset, .unset, .unset] [(.int (12 : Int32)), (.int (3 : Int32)), (.ref b25), (.ref b25)]))
  obtain ⟨cl44, Ar44, qk44, Sz44, Mz44, Hz44, Uz44⟩ := id V40'
  obtain ⟨T45, h45, X45, e45, W45, st45⟩ := stI X40 hx hZ e40 Ar44 (j := (3 : Int32)) (inb_of Sz44 ⟨by decide, by decide⟩) (g := (mkF m 44 #[.val (.int p0), .val (.int p1), .val (.int p2), .val (.int p3), .val (.ref b1), .unset, .unset, .unset, .unset, .unset, .unset, .unset, .unset, .unset, .unset, .unset, .unset, .unset, .unset, .unset, .unset, .unset, .unset, .unset, .unset] [(.int (12 : Int32)), (.int (3 : Int32)), (.ref b25), (.ref b25)])) rfl rfl (hb hby at_44)
  refine own_st st45 ?_
  have V45 := Arv.set Ar44 qk44 Sz44 Mz44 Hz44 Uz44 rfl W45 3 rfl (Nat.le_of_ble_eq_true rfl)
  have z46 : h45.size = h40.size := W45.size
  have O47 := Old.wr O42 W45 (by omega)
  have K48 : Keep h0 h45 [] := K43.wr W45 (Or.inr (by omega))
  have N45 := Fr.snoc X45 N40 (by omega : Z.heap.size ≤ b25)
  have V45' : Arv Z h45 b25 k25 .int (4 : Int32) [(.int (31 : Int32)), (.int (20 : Int32)), (.int (14 : Int32)), (.int (12 : Int32))] (.int (0 : Int32)) := V45
  show own_G _ _ _ _ (T45.setTop (mkF m 45 #[.val (.int p0), .val (.int p1), .val (.int p2), .val (.int p3), .val (.ref b1), .unset, .unset, .unset, .unset, .unset, .unset, .unset, .unset, .unset, .unset, .unset, .unset, .unset, .unset, .unset, .unset, .unset, .unset, .unset, .unset] [(.ref b25)]))
  refine own_st (fun _ k => XS.astore X45.here hx rfl (hb hby at_45) rfl rfl (l' := #[.val (.int p0), .val (.int p1), .val (.int p2), .val (.int p3), .val (.ref b1), .val (.ref b25), .unset, .unset, .unset, .unset, .unset, .unset, .unset, .unset, .unset, .unset, .unset, .unset, .unset, .unset, .unset, .unset, .unset, .unset, .unset]) rfl k) ?_
  show own_G _ _ _ _ (T45.setTop (mkF m 47 #[.val (.int p0), .val (.int p1), .val (.int p2), .val (.int p3), .val (.ref b1), .val (.ref b25), .unset, .unset, .unset, .unset, .unset, .unset, .unset, .unset, .unset, .unset, .unset, .unset, .unset, .unset, .unset, .unset, .unset, .unset, .unset] []))
  refine own_st (fun _ k => XS.iconst X45.here hx rfl (hb hby at_47) k) ?_
  show own_G _ _ _ _ (T45.setTop (mkF m 48 #[.val (.int p0), .val (.int p1), .val (.int p2), .val (.int p3), .val (.ref b1), .val (.ref b25), .unset, .unset, .unset, .unset, .unset, .unset, .unset, .unset, .unset, .unset, .unset, .unset, .unset, .unset, .unset, .unset, .unset, .unset, .unset] [(.int (4 : Int32))]))
  obtain ⟨T49, h49, k49, X49, e49, E49, A49, st49⟩ := newP X45 hx hZ (hw _ (List.mem_of_getElem? (i := 0) rfl)) e45 (g := (mkF m 48 #[.val (.int p0), .val (.int p1), .val (.int p2), .val (.int p3), .val (.ref b1), .val (.ref b25), .unset, .unset, .unset, .unset, .unset, .unset, .unset, .unset, .unset, .unset, .unset, .unset, .unset, .unset, .unset, .unset, .unset, .unset, .unset] [(.int (4 : Int32))])) rfl (hb hby at_48) rfl (by decide) (cap := 4) (by decide) (by decide) (by decide) (by decide)
  obtain ⟨b49, g49⟩ : ∃ z, z = h45.size := ⟨_, rfl⟩
  rw [← g49] at A49 st49
  refine own_st st49 ?_
  have z50 : h45.size ≤ h49.size := E49.1
  have O51 := Old.ext O47 E49
  have K52 : Keep h0 h49 [] := K48.ext E49
  have V49 : Arv Z h49 b49 k49 .int (4 : Int32) [(.int (0 : Int32)), (.int (0 : Int32)), (.int (0 : Int32)), (.int (0 : Int32))] (.int (0 : Int32)) := (Arv.new A49 (by decide)).pad (pad_rep [] (.int (0 : Int32)) 4)
  have lt49 := own_ltN A49.lt
  show own_G _ _ _ _ (T49.setTop (mkF m 50 #[.val (.int p0), .val (.int p1), .val (.int p2), .val (.int p3), .val (.ref b1), .val (.ref b25), .unset, .unset, .unset, .unset, .unset, .unset, .unset, .unset, .unset, .unset, .unset, .unset, .unset, .unset, .unset, .unset, .unset, .unset, .unset] [(.ref b49)]))
  refine own_st (fun _ k => XS.dup X49.here hx rfl (hb hby at_50) rfl rfl k) ?_
  show own_G _ _ _ _ (T49.setTop (mkF m 51 #[.val (.int p0), .val (.int p1), .val (.int p2), .val (.int p3), .val (.ref b1), .val (.ref b25), .unset, .unset, .unset, .unset, .unset, .unset, .unset, .unset, .unset, .unset, .unset, .unset, .unset, .unset, .unset, .unset, .unset, .unset, .unset] [(.ref b49), (.ref b49)]))
  refine own_st (fun _ k => XS.iconst X49.here hx rfl (hb hby at_51) k) ?_
  show own_G _ _ _ _ (T49.setTop (mkF m 52 #[.val (.int p0), .val (.int p1), .val (.int p2), .val (.int p3), .val (.ref b1), .val (.ref b25), .unset, .unset, .unset, .unset, .unset, .unset, .unset, .unset, .unset, .unset, .unset, .unset, .unset, .unset, .unset, .unset, .unset, .unset, .unset] [(.int (0 : Int32)), (.ref b49), (.ref b49)]))
  refine own_st (fun _ k => XS.bipush X49.here hx rfl (hb hby at_52) k) ?_
  show own_G _ _ _ _ (T49.setTop (mkF m 54 #[.val (.int p0), .val (.int p1), .val (.int p2), .val (.int p3), .val (.ref b1), .val (.ref b25), .unset, .unset, .unset, .unset, .unset, .unset, .unset, .unset, .unset, .unset, .unset, .unset, .unset, .unset, .unset, .unset, .unset, .unset, .unset] [(.int (11 : Int32)), (.int (0 : Int32)), (.ref b49), (.ref b49)]))
  obtain ⟨cl53, Ar53, qk53, Sz53, Mz53, Hz53, Uz53⟩ := id V49
  obtain ⟨T54, h54, X54, e54, W54, st54⟩ := stI X49 hx hZ e49 Ar53 (j := (0 : Int32)) (inb_of Sz53 ⟨by decide, by decide⟩) (g := (mkF m 54 #[.val (.int p0), .val (.int p1), .val (.int p2), .val (.int p3), .val (.ref b1), .val (.ref b25), .unset, .unset, .unset, .unset, .unset, .unset, .unset, .unset, .unset, .unset, .unset, .unset, .unset, .unset, .unset, .unset, .unset, .unset, .unset] [(.int (11 : Int32)), (.int (0 : Int32)), (.ref b49), (.ref b49)])) rfl rfl (hb hby at_54)
  refine own_st st54 ?_
  have V54 := Arv.set Ar53 qk53 Sz53 Mz53 Hz53 Uz53 rfl W54 0 rfl (Nat.le_of_ble_eq_true rfl)
  have z55 : h54.size = h49.size := W54.size
  have O56 := Old.wr O51 W54 (by omega)
  have K57 : Keep h0 h54 [] := K52.wr W54 (Or.inr (by omega))
  have N54 := Fr.snoc X54 N45 (by omega : Z.heap.size ≤ b49)
  have V54' : Arv Z h54 b49 k49 .int (4 : Int32) [(.int (11 : Int32)), (.int (0 : Int32)), (.int (0 : Int32)), (.int (0 : Int32))] (.int (0 : Int32)) := V54
  show own_G _ _ _ _ (T54.setTop (mkF m 55 #[.val (.int p0), .val (.int p1), .val (.int p2), .val (.int p3), .val (.ref b1), .val (.ref b25), .unset, .unset, .unset, .unset, .unset, .unset, .unset, .unset, .unset, .unset, .unset, .unset, .unset, .unset, .unset, .unset, .unset, .unset, .unset] [(.ref b49)]))
  refine own_st (fun _ k => XS.dup X54.here hx rfl (hb hby at_55) rfl rfl k) ?_
  show own_G _ _ _ _ (T54.setTop (mkF m 56 #[.val (.int p0), .val (.int p1), .val (.int p2), .val (.int p3), .val (.ref b1), .val (.ref b25), .unset, .unset, .unset, .unset, .unset, .unset, .unset, .unset, .unset, .unset, .unset, .unset, .unset, .unset, .unset, .unset, .unset, .unset, .unset] [(.ref b49), (.ref b49)]))
  refine own_st (fun _ k => XS.iconst X54.here hx rfl (hb hby at_56) k) ?_
  show own_G _ _ _ _ (T54.setTop (mkF m 57 #[.val (.int p0), .val (.int p1), .val (.int p2), .val (.int p3), .val (.ref b1), .val (.ref b25), .unset, .unset, .unset, .unset, .unset, .unset, .unset, .unset, .unset, .unset, .unset, .unset, .unset, .unset, .unset, .unset, .unset, .unset, .unset] [(.int (1 : Int32)), (.ref b49), (.ref b49)]))
  refine own_st (fun _ k => XS.bipush X54.here hx rfl (hb hby at_57) k) ?_
  show own_G _ _ _ _ (T54.setTop (mkF m 59 #[.val (.int p0), .val (.int p1), .val (.int p2), .val (.int p3), .val (.ref b1), .val (.ref b25), .unset, .unset, .unset, .unset, .unset, .unset, .unset, .unset, .unset, .unset, .unset, .unset, .unset, .unset, .unset, .unset, .unset, .unset, .unset] [(.int (13 : Int32)), (.int (1 : Int32)), (.ref b49), (.ref b49)]))
  obtain ⟨cl58, Ar58, qk58, Sz58, Mz58, Hz58, Uz58⟩ := id V54'
  obtain ⟨T59, h59, X59, e59, W59, st59⟩ := stI X54 hx hZ e54 Ar58 (j := (1 : Int32)) (inb_of Sz58 ⟨by decide, by decide⟩) (g := (mkF m 59 #[.val (.int p0), .val (.int p1), .val (.int p2), .val (.int p3), .val (.ref b1), .val (.ref b25), .unset, .unset, .unset, .unset, .unset, .unset, .unset, .unset, .unset, .unset, .unset, .unset, .unset, .unset, .unset, .unset, .unset, .unset, .unset] [(.int (13 : Int32)), (.int (1 : Int32)), (.ref b49), (.ref b49)])) rfl rfl (hb hby at_59)
  refine own_st st59 ?_
  have V59 := Arv.set Ar58 qk58 Sz58 Mz58 Hz58 Uz58 rfl W59 1 rfl (Nat.le_of_ble_eq_true rfl)
  have z60 : h59.size = h54.size := W59.size
  have O61 := Old.wr O56 W59 (by omega)
  have K62 : Keep h0 h59 [] := K57.wr W59 (Or.inr (by omega))
  have N59 := Fr.snoc X59 N54 (by omega : Z.heap.size ≤ b49)
  have V59' : Arv Z h59 b49 k49 .int (4 : Int32) [(.int (11 : Int32)), (.int (13 : Int32)), (.int (0 : Int32)), (.int (0 : Int32))] (.int (0 : Int32)) := V59
  show own_G _ _ _ _ (T59.setTop (mkF m 60 #[.val (.int p0), .val (.int p1), .val (.int p2), .val (.int p3), .val (.ref b1), .val (.ref b25), .unset, .unset, .unset, .unset, .unset, .unset, .unset, .unset, .unset, .unset, .unset, .unset, .unset, .unset, .unset, .unset, .unset, .unset, .unset] [(.ref b49)]))
  refine own_st (fun _ k => XS.dup X59.here hx rfl (hb hby at_60) rfl rfl k) ?_
  show own_G _ _ _ _ (T59.setTop (mkF m 61 #[.val (.int p0), .val (.int p1), .val (.int p2), .val (.int p3), .val (.ref b1), .val (.ref b25), .unset, .unset, .unset, .unset, .unset, .unset, .unset, .unset, .unset, .unset, .unset, .unset, .unset, .unset, .unset, .unset, .unset, .unset, .unset] [(.ref b49), (.ref b49)]))
  refine own_st (fun _ k => XS.iconst X59.here hx rfl (hb hby at_61) k) ?_
  show own_G _ _ _ _ (T59.setTop (mkF m 62 #[.val (.int p0), .val (.int p1), .val (.int p2), .val (.int p3), .val (.ref b1), .val (.ref b25), .unset, .unset, .unset, .unset, .unset, .unset, .unset, .unset, .unset, .unset, .unset, .unset, .unset, .unset, .unset, .unset, .unset, .unset, .unset] [(.int (2 : Int32)), (.ref b49), (.ref b49)]))
  refine own_st (fun _ k => XS.bipush X59.here hx rfl (hb hby at_62) k) ?_
  show own_G _ _ _ _ (T59.setTop (mkF m 64 #[.val (.int p0), .val (.int p1), .val (.int p2), .val (.int p3), .val (.ref b1), .val (.ref b25), .unset, .unset, .unset, .unset, .unset, .unset, .unset, .unset, .unset, .unset, .unset, .unset, .unset, .unset, .unset, .unset, .unset, .unset, .unset] [(.int (31 : Int32)), (.int (2 : Int32)), (.ref b49), (.ref b49)]))
  obtain ⟨cl63, Ar63, qk63, Sz63, Mz63, Hz63, Uz63⟩ := id V59'
  obtain ⟨T64, h64, X64, e64, W64, st64⟩ := stI X59 hx hZ e59 Ar63 (j := (2 : Int32)) (inb_of Sz63 ⟨by decide, by decide⟩) (g := (mkF m 64 #[.val (.int p0), .val (.int p1), .val (.int p2), .val (.int p3), .val (.ref b1), .val (.ref b25), .unset, .unset, .unset, .unset, .unset, .unset, .unset, .unset, .unset, .unset, .unset, .unset, .unset, .unset, .unset, .unset, .unset, .unset, .unset] [(.int (31 : Int32)), (.int (2 : Int32)), (.ref b49), (.ref b49)])) rfl rfl (hb hby at_64)
  refine own_st st64 ?_
  have V64 := Arv.set Ar63 qk63 Sz63 Mz63 Hz63 Uz63 rfl W64 2 rfl (Nat.le_of_ble_eq_true rfl)
  have z65 : h64.size = h59.size := W64.size
  have O66 := Old.wr O61 W64 (by omega)
  have K67 : Keep h0 h64 [] := K62.wr W64 (Or.inr (by omega))
  have N64 := Fr.snoc X64 N59 (by omega : Z.heap.size ≤ b49)
  have V64' : Arv Z h64 b49 k49 .int (4 : Int32) [(.int (11 : Int32)), (.int (13 : Int32)), (.int (31 : Int32)), (.int (0 : Int32))] (.int (0 : Int32)) := V64
  show own_G _ _ _ _ (T64.setTop (mkF m 65 #[.val (.int p0), .val (.int p1), .val (.int p2), .val (.int p3), .val (.ref b1), .val (.ref b25), .unset, .unset, .unset, .unset, .unset, .unset, .unset, .unset, .unset, .unset, .unset, .unset, .unset, .unset, .unset, .unset, .unset, .unset, .unset] [(.ref b49)]))
  refine own_st (fun _ k => XS.dup X64.here hx rfl (hb hby at_65) rfl rfl k) ?_
  show own_G _ _ _ _ (T64.setTop (mkF m 66 #[.val (.int p0), .val (.int p1), .val (.int p2), .val (.int p3), .val (.ref b1), .val (.ref b25), .unset, .unset, .unset, .unset, .unset, .unset, .unset, .unset, .unset, .unset, .unset, .unset, .unset, .unset, .unset, .unset, .unset, .unset, .unset] [(.ref b49), (.ref b49)]))
  refine own_st (fun _ k => XS.iconst X64.here hx rfl (hb hby at_66) k) ?_
  show own_G _ _ _ _ (T64.setTop (mkF m 67 #[.val (.int p0), .val (.int p1), .val (.int p2), .val (.int p3), .val (.ref b1), .val (.ref b25), .unset, .unset, .unset, .unset, .unset, .unset, .unset, .unset, .unset, .unset, .unset, .unset, .unset, .unset, .unset, .unset, .unset, .unset, .unset] [(.int (3 : Int32)), (.ref b49), (.ref b49)]))
  refine own_st (fun _ k => XS.bipush X64.here hx rfl (hb hby at_67) k) ?_
  show own_G _ _ _ _ (T64.setTop (mkF m 69 #[.val (.int p0), .val (.int p1), .val (.int p2), .val (.int p3), .val (.ref b1), .val (.ref b25), .unset, .unset, .unset, .unset, .unset, .unset, .unset, .unset, .unset, .unset, .unset, .unset, .unset, .unset, .unset, .unset, .unset, .unset, .unset] [(.int (97 : Int32)), (.int (3 : Int32)), (.ref b49), (.ref b49)]))
  obtain ⟨cl68, Ar68, qk68, Sz68, Mz68, Hz68, Uz68⟩ := id V64'
  obtain ⟨T69, h69, X69, e69, W69, st69⟩ := stI X64 hx hZ e64 Ar68 (j := (3 : Int32)) (inb_of Sz68 ⟨by decide, by decide⟩) (g := (mkF m 69 #[.val (.int p0), .val (.int p1), .val (.int p2), .val (.int p3), .val (.ref b1), .val (.ref b25), .unset, .unset, .unset, .unset, .unset, .unset, .unset, .unset, .unset, .unset, .unset, .unset, .unset, .unset, .unset, .unset, .unset, .unset, .unset] [(.int (97 : Int32)), (.int (3 : Int32)), (.ref b49), (.ref b49)])) rfl rfl (hb hby at_69)
  refine own_st st69 ?_
  have V69 := Arv.set Ar68 qk68 Sz68 Mz68 Hz68 Uz68 rfl W69 3 rfl (Nat.le_of_ble_eq_true rfl)
  have z70 : h69.size = h64.size := W69.size
  have O71 := Old.wr O66 W69 (by omega)
  have K72 : Keep h0 h69 [] := K67.wr W69 (Or.inr (by omega))
  have N69 := Fr.snoc X69 N64 (by omega : Z.heap.size ≤ b49)
  have V69' : Arv Z h69 b49 k49 .int (4 : Int32) [(.int (11 : Int32)), (.int (13 : Int32)), (.int (31 : Int32)), (.int (97 : Int32))] (.int (0 : Int32)) := V69
  show own_G _ _ _ _ (T69.setTop (mkF m 70 #[.val (.int p0), .val (.int p1), .val (.int p2), .val (.int p3), .val (.ref b1), .val (.ref b25), .unset, .unset, .unset, .unset, .unset, .unset, .unset, .unset, .unset, .unset, .unset, .unset, .unset, .unset, .unset, .unset, .unset, .unset, .unset] [(.ref b49)]))
  refine own_st (fun _ k => XS.astore X69.here hx rfl (hb hby at_70) rfl rfl (l' := #[.val (.int p0), .val (.int p1), .val (.int p2), .val (.int p3), .val (.ref b1), .val (.ref b25), .val (.ref b49), .unset, .unset, .unset, .unset, .unset, .unset, .unset, .unset, .unset, .unset, .unset, .unset, .unset, .unset, .unset, .unset, .unset, .unset]) rfl k) ?_
  show own_G _ _ _ _ (T69.setTop (mkF m 72 #[.val (.int p0), .val (.int p1), .val (.int p2), .val (.int p3), .val (.ref b1), .val (.ref b25), .val (.ref b49), .unset, .unset, .unset, .unset, .unset, .unset, .unset, .unset, .unset, .unset, .unset, .unset, .unset, .unset, .unset, .unset, .unset, .unset] []))
  refine own_st (fun _ k => XS.iconst X69.here hx rfl (hb hby at_72) k) ?_
  show own_G _ _ _ _ (T69.setTop (mkF m 73 #[.val (.int p0), .val (.int p1), .val (.int p2), .val (.int p3), .val (.ref b1), .val (.ref b25), .val (.ref b49), .unset, .unset, .unset, .unset, .unset, .unset, .unset, .unset, .unset, .unset, .unset, .unset, .unset, .unset, .unset, .unset, .unset, .unset] [(.int (4 : Int32))]))
  obtain ⟨T73, h73, k73, X73, e73, E73, A73, st73⟩ := newP X69 hx hZ (hw _ (List.mem_of_getElem? (i := 0) rfl)) e69 (g := (mkF m 73 #[.val (.int p0), .val (.int p1), .val (.int p2), .val (.int p3), .val (.ref b1), .val (.ref b25), .val (.ref b49), .unset, .unset, .unset, .unset, .unset, .unset, .unset, .unset, .unset, .unset, .unset, .unset, .unset, .unset, .unset, .unset, .unset, .unset] [(.int (4 : Int32))])) rfl (hb hby at_73) rfl (by decide) (cap := 4) (by decide) (by decide) (by decide) (by decide)
  obtain ⟨b73, g73⟩ : ∃ z, z = h69.size := ⟨_, rfl⟩
  rw [← g73] at A73 st73
  refine own_st st73 ?_
  have z74 : h69.size ≤ h73.size := E73.1
  have O75 := Old.ext O71 E73
  have K76 : Keep h0 h73 [] := K72.ext E73
  have V73 : Arv Z h73 b73 k73 .int (4 : Int32) [(.int (0 : Int32)), (.int (0 : Int32)), (.int (0 : Int32)), (.int (0 : Int32))] (.int (0 : Int32)) := (Arv.new A73 (by decide)).pad (pad_rep [] (.int (0 : Int32)) 4)
  have lt73 := own_ltN A73.lt
  show own_G _ _ _ _ (T73.setTop (mkF m 75 #[.val (.int p0), .val (.int p1), .val (.int p2), .val (.int p3), .val (.ref b1), .val (.ref b25), .val (.ref b49), .unset, .unset, .unset, .unset, .unset, .unset, .unset, .unset, .unset, .unset, .unset, .unset, .unset, .unset, .unset, .unset, .unset, .unset] [(.ref b73)]))
  refine own_st (fun _ k => XS.dup X73.here hx rfl (hb hby at_75) rfl rfl k) ?_
  show own_G _ _ _ _ (T73.setTop (mkF m 76 #[.val (.int p0), .val (.int p1), .val (.int p2), .val (.int p3), .val (.ref b1), .val (.ref b25), .val (.ref b49), .unset, .unset, .unset, .unset, .unset, .unset, .unset, .unset, .unset, .unset, .unset, .unset, .unset, .unset, .unset, .unset, .unset, .unset] [(.ref b73), (.ref b73)]))
  refine own_st (fun _ k => XS.iconst X73.here hx rfl (hb hby at_76) k) ?_
  show own_G _ _ _ _ (T73.setTop (mkF m 77 #[.val (.int p0), .val (.int p1), .val (.int p2), .val (.int p3), .val (.ref b1), .val (.ref b25), .val (.ref b49), .unset, .unset, .unset, .unset, .unset, .unset, .unset, .unset, .unset, .unset, .unset, .unset, .unset, .unset, .unset, .unset, .unset, .unset] [(.int (0 : Int32)), (.ref b73), (.ref b73)]))
  refine own_st (fun _ k => XS.bipush X73.here hx rfl (hb hby at_77) k) ?_
  show own_G _ _ _ _ (T73.setTop (mkF m 79 #[.val (.int p0), .val (.int p1), .val (.int p2), .val (.int p3), .val (.ref b1), .val (.ref b25), .val (.ref b49), .unset, .unset, .unset, .unset, .unset, .unset, .unset, .unset, .unset, .unset, .unset, .unset, .unset, .unset, .unset, .unset, .unset, .unset] [(.int (101 : Int32)), (.int (0 : Int32)), (.ref b73), (.ref b73)]))
  obtain ⟨cl77, Ar77, qk77, Sz77, Mz77, Hz77, Uz77⟩ := id V73
  obtain ⟨T78, h78, X78, e78, W78, st78⟩ := stI X73 hx hZ e73 Ar77 (j := (0 : Int32)) (inb_of Sz77 ⟨by decide, by decide⟩) (g := (mkF m 79 #[.val (.int p0), .val (.int p1), .val (.int p2), .val (.int p3), .val (.ref b1), .val (.ref b25), .val (.ref b49), .unset, .unset, .unset, .unset, .unset, .unset, .unset, .unset, .unset, .unset, .unset, .unset, .unset, .unset, .unset, .unset, .unset, .unset] [(.int (101 : Int32)), (.int (0 : Int32)), (.ref b73), (.ref b73)])) rfl rfl (hb hby at_79)
  refine own_st st78 ?_
  have V78 := Arv.set Ar77 qk77 Sz77 Mz77 Hz77 Uz77 rfl W78 0 rfl (Nat.le_of_ble_eq_true rfl)
  have z79 : h78.size = h73.size := W78.size
  have O80 := Old.wr O75 W78 (by omega)
  have K81 : Keep h0 h78 [] := K76.wr W78 (Or.inr (by omega))
  have N78 := Fr.snoc X78 N69 (by omega : Z.heap.size ≤ b73)
  have V78' : Arv Z h78 b73 k73 .int (4 : Int32) [(.int (101 : Int32)), (.int (0 : Int32)), (.int (0 : Int32)), (.int (0 : Int32))] (.int (0 : Int32)) := V78
  show own_G _ _ _ _ (T78.setTop (mkF m 80 #[.val (.int p0), .val (.int p1), .val (.int p2), .val (.int p3), .val (.ref b1), .val (.ref b25), .val (.ref b49), .unset, .unset, .unset, .unset, .unset, .unset, .unset, .unset, .unset, .unset, .unset, .unset, .unset, .unset, .unset, .unset, .unset, .unset] [(.ref b73)]))
  refine own_st (fun _ k => XS.dup X78.here hx rfl (hb hby at_80) rfl rfl k) ?_
  show own_G _ _ _ _ (T78.setTop (mkF m 81 #[.val (.int p0), .val (.int p1), .val (.int p2), .val (.int p3), .val (.ref b1), .val (.ref b25), .val (.ref b49), .unset, .unset, .unset, .unset, .unset, .unset, .unset, .unset, .unset, .unset, .unset, .unset, .unset, .unset, .unset, .unset, .unset, .unset] [(.ref b73), (.ref b73)]))
  refine own_st (fun _ k => XS.iconst X78.here hx rfl (hb hby at_81) k) ?_
  show own_G _ _ _ _ (T78.setTop (mkF m 82 #[.val (.int p0), .val (.int p1), .val (.int p2), .val (.int p3), .val (.ref b1), .val (.ref b25), .val (.ref b49), .unset, .unset, .unset, .unset, .unset, .unset, .unset, .unset, .unset, .unset, .unset, .unset, .unset, .unset, .unset, .unset, .unset, .unset] [(.int (1 : Int32)), (.ref b73), (.ref b73)]))
  refine own_st (fun _ k => XS.sipush X78.here hx rfl (hb hby at_82) k) ?_
  show own_G _ _ _ _ (T78.setTop (mkF m 85 #[.val (.int p0), .val (.int p1), .val (.int p2), .val (.int p3), .val (.ref b1), .val (.ref b25), .val (.ref b49), .unset, .unset, .unset, .unset, .unset, .unset, .unset, .unset, .unset, .unset, .unset, .unset, .unset, .unset, .unset, .unset, .unset, .unset] [(.int (251 : Int32)), (.int (1 : Int32)), (.ref b73), (.ref b73)]))
  obtain ⟨cl82, Ar82, qk82, Sz82, Mz82, Hz82, Uz82⟩ := id V78'
  obtain ⟨T83, h83, X83, e83, W83, st83⟩ := stI X78 hx hZ e78 Ar82 (j := (1 : Int32)) (inb_of Sz82 ⟨by decide, by decide⟩) (g := (mkF m 85 #[.val (.int p0), .val (.int p1), .val (.int p2), .val (.int p3), .val (.ref b1), .val (.ref b25), .val (.ref b49), .unset, .unset, .unset, .unset, .unset, .unset, .unset, .unset, .unset, .unset, .unset, .unset, .unset, .unset, .unset, .unset, .unset, .unset] [(.int (251 : Int32)), (.int (1 : Int32)), (.ref b73), (.ref b73)])) rfl rfl (hb hby at_85)
  refine own_st st83 ?_
  have V83 := Arv.set Ar82 qk82 Sz82 Mz82 Hz82 Uz82 rfl W83 1 rfl (Nat.le_of_ble_eq_true rfl)
  have z84 : h83.size = h78.size := W83.size
  have O85 := Old.wr O80 W83 (by omega)
  have K86 : Keep h0 h83 [] := K81.wr W83 (Or.inr (by omega))
  have N83 := Fr.snoc X83 N78 (by omega : Z.heap.size ≤ b73)
  have V83' : Arv Z h83 b73 k73 .int (4 : Int32) [(.int (101 : Int32)), (.int (251 : Int32)), (.int (0 : Int32)), (.int (0 : Int32))] (.int (0 : Int32)) := V83
  show own_G _ _ _ _ (T83.setTop (mkF m 86 #[.val (.int p0), .val (.int p1), .val (.int p2), .val (.int p3), .val (.ref b1), .val (.ref b25), .val (.ref b49), .unset, .unset, .unset, .unset, .unset, .unset, .unset, .unset, .unset, .unset, .unset, .unset, .unset, .unset, .unset, .unset, .unset, .unset] [(.ref b73)]))
  refine own_st (fun _ k => XS.dup X83.here hx rfl (hb hby at_86) rfl rfl k) ?_
  show own_G _ _ _ _ (T83.setTop (mkF m 87 #[.val (.int p0), .val (.int p1), .val (.int p2), .val (.int p3), .val (.ref b1), .val (.ref b25), .val (.ref b49), .unset, .unset, .unset, .unset, .unset, .unset, .unset, .unset, .unset, .unset, .unset, .unset, .unset, .unset, .unset, .unset, .unset, .unset] [(.ref b73), (.ref b73)]))
  refine own_st (fun _ k => XS.iconst X83.here hx rfl (hb hby at_87) k) ?_
  show own_G _ _ _ _ (T83.setTop (mkF m 88 #[.val (.int p0), .val (.int p1), .val (.int p2), .val (.int p3), .val (.ref b1), .val (.ref b25), .val (.ref b49), .unset, .unset, .unset, .unset, .unset, .unset, .unset, .unset, .unset, .unset, .unset, .unset, .unset, .unset, .unset, .unset, .unset, .unset] [(.int (2 : Int32)), (.ref b73), (.ref b73)]))
  refine own_st (fun _ k => XS.sipush X83.here hx rfl (hb hby at_88) k) ?_
  show own_G _ _ _ _ (T83.setTop (mkF m 91 #[.val (.int p0), .val (.int p1), .val (.int p2), .val (.int p3), .val (.ref b1), .val (.ref b25), .val (.ref b49), .unset, .unset, .unset, .unset, .unset, .unset, .unset, .unset, .unset, .unset, .unset, .unset, .unset, .unset, .unset, .unset, .unset, .unset] [(.int (1009 : Int32)), (.int (2 : Int32)), (.ref b73), (.ref b73)]))
  obtain ⟨cl87, Ar87, qk87, Sz87, Mz87, Hz87, Uz87⟩ := id V83'
  obtain ⟨T88, h88, X88, e88, W88, st88⟩ := stI X83 hx hZ e83 Ar87 (j := (2 : Int32)) (inb_of Sz87 ⟨by decide, by decide⟩) (g := (mkF m 91 #[.val (.int p0), .val (.int p1), .val (.int p2), .val (.int p3), .val (.ref b1), .val (.ref b25), .val (.ref b49), .unset, .unset, .unset, .unset, .unset, .unset, .unset, .unset, .unset, .unset, .unset, .unset, .unset, .unset, .unset, .unset, .unset, .unset] [(.int (1009 : Int32)), (.int (2 : Int32)), (.ref b73), (.ref b73)])) rfl rfl (hb hby at_91)
  refine own_st st88 ?_
  have V88 := Arv.set Ar87 qk87 Sz87 Mz87 Hz87 Uz87 rfl W88 2 rfl (Nat.le_of_ble_eq_true rfl)
  have z89 : h88.size = h83.size := W88.size
  have O90 := Old.wr O85 W88 (by omega)
  have K91 : Keep h0 h88 [] := K86.wr W88 (Or.inr (by omega))
  have N88 := Fr.snoc X88 N83 (by omega : Z.heap.size ≤ b73)
  have V88' : Arv Z h88 b73 k73 .int (4 : Int32) [(.int (101 : Int32)), (.int (251 : Int32)), (.int (1009 : Int32)), (.int (0 : Int32))] (.int (0 : Int32)) := V88
  show own_G _ _ _ _ (T88.setTop (mkF m 92 #[.val (.int p0), .val (.int p1), .val (.int p2), .val (.int p3), .val (.ref b1), .val (.ref b25), .val (.ref b49), .unset, .unset, .unset, .unset, .unset, .unset, .unset, .unset, .unset, .unset, .unset, .unset, .unset, .unset, .unset, .unset, .unset, .unset] [(.ref b73)]))
  refine own_st (fun _ k => XS.dup X88.here hx rfl (hb hby at_92) rfl rfl k) ?_
  show own_G _ _ _ _ (T88.setTop (mkF m 93 #[.val (.int p0), .val (.int p1), .val (.int p2), .val (.int p3), .val (.ref b1), .val (.ref b25), .val (.ref b49), .unset, .unset, .unset, .unset, .unset, .unset, .unset, .unset, .unset, .unset, .unset, .unset, .unset, .unset, .unset, .unset, .unset, .unset] [(.ref b73), (.ref b73)]))
  refine own_st (fun _ k => XS.iconst X88.here hx rfl (hb hby at_93) k) ?_
  show own_G _ _ _ _ (T88.setTop (mkF m 94 #[.val (.int p0), .val (.int p1), .val (.int p2), .val (.int p3), .val (.ref b1), .val (.ref b25), .val (.ref b49), .unset, .unset, .unset, .unset, .unset, .unset, .unset, .unset, .unset, .unset, .unset, .unset, .unset, .unset, .unset, .unset, .unset, .unset] [(.int (3 : Int32)), (.ref b73), (.ref b73)]))
  refine own_st (X88.ldcInt hx hown (mvT hZ (hw _ (List.mem_of_getElem? (i := 1) rfl))) (g := (mkF m 94 #[.val (.int p0), .val (.int p1), .val (.int p2), .val (.int p3), .val (.ref b1), .val (.ref b25), .val (.ref b49), .unset, .unset, .unset, .unset, .unset, .unset, .unset, .unset, .unset, .unset, .unset, .unset, .unset, .unset, .unset, .unset, .unset, .unset] [(.int (3 : Int32)), (.ref b73), (.ref b73)])) rfl (hb hby at_94)) ?_
  show own_G _ _ _ _ (T88.setTop (mkF m 96 #[.val (.int p0), .val (.int p1), .val (.int p2), .val (.int p3), .val (.ref b1), .val (.ref b25), .val (.ref b49), .unset, .unset, .unset, .unset, .unset, .unset, .unset, .unset, .unset, .unset, .unset, .unset, .unset, .unset, .unset, .unset, .unset, .unset] [(.int (46337 : Int32)), (.int (3 : Int32)), (.ref b73), (.ref b73)]))
  obtain ⟨cl92, Ar92, qk92, Sz92, Mz92, Hz92, Uz92⟩ := id V88'
  obtain ⟨T93, h93, X93, e93, W93, st93⟩ := stI X88 hx hZ e88 Ar92 (j := (3 : Int32)) (inb_of Sz92 ⟨by decide, by decide⟩) (g := (mkF m 96 #[.val (.int p0), .val (.int p1), .val (.int p2), .val (.int p3), .val (.ref b1), .val (.ref b25), .val (.ref b49), .unset, .unset, .unset, .unset, .unset, .unset, .unset, .unset, .unset, .unset, .unset, .unset, .unset, .unset, .unset, .unset, .unset, .unset] [(.int (46337 : Int32)), (.int (3 : Int32)), (.ref b73), (.ref b73)])) rfl rfl (hb hby at_96)
  refine own_st st93 ?_
  have V93 := Arv.set Ar92 qk92 Sz92 Mz92 Hz92 Uz92 rfl W93 3 rfl (Nat.le_of_ble_eq_true rfl)
  have z94 : h93.size = h88.size := W93.size
  have O95 := Old.wr O90 W93 (by omega)
  have K96 : Keep h0 h93 [] := K91.wr W93 (Or.inr (by omega))
  have N93 := Fr.snoc X93 N88 (by omega : Z.heap.size ≤ b73)
  have V93' : Arv Z h93 b73 k73 .int (4 : Int32) [(.int (101 : Int32)), (.int (251 : Int32)), (.int (1009 : Int32)), (.int (46337 : Int32))] (.int (0 : Int32)) := V93
  show own_G _ _ _ _ (T93.setTop (mkF m 97 #[.val (.int p0), .val (.int p1), .val (.int p2), .val (.int p3), .val (.ref b1), .val (.ref b25), .val (.ref b49), .unset, .unset, .unset, .unset, .unset, .unset, .unset, .unset, .unset, .unset, .unset, .unset, .unset, .unset, .unset, .unset, .unset, .unset] [(.ref b73)]))
  refine own_st (fun _ k => XS.astore X93.here hx rfl (hb hby at_97) rfl rfl (l' := #[.val (.int p0), .val (.int p1), .val (.int p2), .val (.int p3), .val (.ref b1), .val (.ref b25), .val (.ref b49), .val (.ref b73), .unset, .unset, .unset, .unset, .unset, .unset, .unset, .unset, .unset, .unset, .unset, .unset, .unset, .unset, .unset, .unset, .unset]) rfl k) ?_
  show own_G _ _ _ _ (T93.setTop (mkF m 99 #[.val (.int p0), .val (.int p1), .val (.int p2), .val (.int p3), .val (.ref b1), .val (.ref b25), .val (.ref b49), .val (.ref b73), .unset, .unset, .unset, .unset, .unset, .unset, .unset, .unset, .unset, .unset, .unset, .unset, .unset, .unset, .unset, .unset, .unset] []))
  refine own_st (fun _ k => XS.iconst X93.here hx rfl (hb hby at_99) k) ?_
  show own_G _ _ _ _ (T93.setTop (mkF m 100 #[.val (.int p0), .val (.int p1), .val (.int p2), .val (.int p3), .val (.ref b1), .val (.ref b25), .val (.ref b49), .val (.ref b73), .unset, .unset, .unset, .unset, .unset, .unset, .unset, .unset, .unset, .unset, .unset, .unset, .unset, .unset, .unset, .unset, .unset] [(.int (4 : Int32))]))
  obtain ⟨T97, h97, k97, X97, e97, E97, A97, st97⟩ := newP X93 hx hZ (hw _ (List.mem_of_getElem? (i := 0) rfl)) e93 (g := (mkF m 100 #[.val (.int p0), .val (.int p1), .val (.int p2), .val (.int p3), .val (.ref b1), .val (.ref b25), .val (.ref b49), .val (.ref b73), .unset, .unset, .unset, .unset, .unset, .unset, .unset, .unset, .unset, .unset, .unset, .unset, .unset, .unset, .unset, .unset, .unset] [(.int (4 : Int32))])) rfl (hb hby at_100) rfl (by decide) (cap := 4) (by decide) (by decide) (by decide) (by decide)
  obtain ⟨b97, g97⟩ : ∃ z, z = h93.size := ⟨_, rfl⟩
  rw [← g97] at A97 st97
  refine own_st st97 ?_
  have z98 : h93.size ≤ h97.size := E97.1
  have O99 := Old.ext O95 E97
  have K100 : Keep h0 h97 [] := K96.ext E97
  have V97 : Arv Z h97 b97 k97 .int (4 : Int32) [(.int (0 : Int32)), (.int (0 : Int32)), (.int (0 : Int32)), (.int (0 : Int32))] (.int (0 : Int32)) := (Arv.new A97 (by decide)).pad (pad_rep [] (.int (0 : Int32)) 4)
  have lt97 := own_ltN A97.lt
  show own_G _ _ _ _ (T97.setTop (mkF m 102 #[.val (.int p0), .val (.int p1), .val (.int p2), .val (.int p3), .val (.ref b1), .val (.ref b25), .val (.ref b49), .val (.ref b73), .unset, .unset, .unset, .unset, .unset, .unset, .unset, .unset, .unset, .unset, .unset, .unset, .unset, .unset, .unset, .unset, .unset] [(.ref b97)]))
  refine own_st (fun _ k => XS.dup X97.here hx rfl (hb hby at_102) rfl rfl k) ?_
  show own_G _ _ _ _ (T97.setTop (mkF m 103 #[.val (.int p0), .val (.int p1), .val (.int p2), .val (.int p3), .val (.ref b1), .val (.ref b25), .val (.ref b49), .val (.ref b73), .unset, .unset, .unset, .unset, .unset, .unset, .unset, .unset, .unset, .unset, .unset, .unset, .unset, .unset, .unset, .unset, .unset] [(.ref b97), (.ref b97)]))
  refine own_st (fun _ k => XS.iconst X97.here hx rfl (hb hby at_103) k) ?_
  show own_G _ _ _ _ (T97.setTop (mkF m 104 #[.val (.int p0), .val (.int p1), .val (.int p2), .val (.int p3), .val (.ref b1), .val (.ref b25), .val (.ref b49), .val (.ref b73), .unset, .unset, .unset, .unset, .unset, .unset, .unset, .unset, .unset, .unset, .unset, .unset, .unset, .unset, .unset, .unset, .unset] [(.int (0 : Int32)), (.ref b97), (.ref b97)]))
  refine own_st (X97.ldcInt hx hown (mvT hZ (hw _ (List.mem_of_getElem? (i := 2) rfl))) (g := (mkF m 104 #[.val (.int p0), .val (.int p1), .val (.int p2), .val (.int p3), .val (.ref b1), .val (.ref b25), .val (.ref b49), .val (.ref b73), .unset, .unset, .unset, .unset, .unset, .unset, .unset, .unset, .unset, .unset, .unset, .unset, .unset, .unset, .unset, .unset, .unset] [(.int (0 : Int32)), (.ref b97), (.ref b97)])) rfl (hb hby at_104)) ?_
  show own_G _ _ _ _ (T97.setTop (mkF m 106 #[.val (.int p0), .val (.int p1), .val (.int p2), .val (.int p3), .val (.ref b1), .val (.ref b25), .val (.ref b49), .val (.ref b73), .unset, .unset, .unset, .unset, .unset, .unset, .unset, .unset, .unset, .unset, .unset, .unset, .unset, .unset, .unset, .unset, .unset] [(.int (46349 : Int32)), (.int (0 : Int32)), (.ref b97), (.ref b97)]))
  obtain ⟨cl101, Ar101, qk101, Sz101, Mz101, Hz101, Uz101⟩ := id V97
  obtain ⟨T102, h102, X102, e102, W102, st102⟩ := stI X97 hx hZ e97 Ar101 (j := (0 : Int32)) (inb_of Sz101 ⟨by decide, by decide⟩) (g := (mkF m 106 #[.val (.int p0), .val (.int p1), .val (.int p2), .val (.int p3), .val (.ref b1), .val (.ref b25), .val (.ref b49), .val (.ref b73), .unset, .unset, .unset, .unset, .unset, .unset, .unset, .unset, .unset, .unset, .unset, .unset, .unset, .unset, .unset, .unset, .unset] [(.int (46349 : Int32)), (.int (0 : Int32)), (.ref b97), (.ref b97)])) rfl rfl (hb hby at_106)
  refine own_st st102 ?_
  have V102 := Arv.set Ar101 qk101 Sz101 Mz101 Hz101 Uz101 rfl W102 0 rfl (Nat.le_of_ble_eq_true rfl)
  have z103 : h102.size = h97.size := W102.size
  have O104 := Old.wr O99 W102 (by omega)
  have K105 : Keep h0 h102 [] := K100.wr W102 (Or.inr (by omega))
  have N102 := Fr.snoc X102 N93 (by omega : Z.heap.size ≤ b97)
  have V102' : Arv Z h102 b97 k97 .int (4 : Int32) [(.int (46349 : Int32)), (.int (0 : Int32)), (.int (0 : Int32)), (.int (0 : Int32))] (.int (0 : Int32)) := V102
  show own_G _ _ _ _ (T102.setTop (mkF m 107 #[.val (.int p0), .val (.int p1), .val (.int p2), .val (.int p3), .val (.ref b1), .val (.ref b25), .val (.ref b49), .val (.ref b73), .unset, .unset, .unset, .unset, .unset, .unset, .unset, .unset, .unset, .unset, .unset, .unset, .unset, .unset, .unset, .unset, .unset] [(.ref b97)]))
  refine own_st (fun _ k => XS.dup X102.here hx rfl (hb hby at_107) rfl rfl k) ?_
  show own_G _ _ _ _ (T102.setTop (mkF m 108 #[.val (.int p0), .val (.int p1), .val (.int p2), .val (.int p3), .val (.ref b1), .val (.ref b25), .val (.ref b49), .val (.ref b73), .unset, .unset, .unset, .unset, .unset, .unset, .unset, .unset, .unset, .unset, .unset, .unset, .unset, .unset, .unset, .unset, .unset] [(.ref b97), (.ref b97)]))
  refine own_st (fun _ k => XS.iconst X102.here hx rfl (hb hby at_108) k) ?_
  show own_G _ _ _ _ (T102.setTop (mkF m 109 #[.val (.int p0), .val (.int p1), .val (.int p2), .val (.int p3), .val (.ref b1), .val (.ref b25), .val (.ref b49), .val (.ref b73), .unset, .unset, .unset, .unset, .unset, .unset, .unset, .unset, .unset, .unset, .unset, .unset, .unset, .unset, .unset, .unset, .unset] [(.int (1 : Int32)), (.ref b97), (.ref b97)]))
  refine own_st (X102.ldcInt hx hown (mvT hZ (hw _ (List.mem_of_getElem? (i := 3) rfl))) (g := (mkF m 109 #[.val (.int p0), .val (.int p1), .val (.int p2), .val (.int p3), .val (.ref b1), .val (.ref b25), .val (.ref b49), .val (.ref b73), .unset, .unset, .unset, .unset, .unset, .unset, .unset, .unset, .unset, .unset, .unset, .unset, .unset, .unset, .unset, .unset, .unset] [(.int (1 : Int32)), (.ref b97), (.ref b97)])) rfl (hb hby at_109)) ?_
  show own_G _ _ _ _ (T102.setTop (mkF m 111 #[.val (.int p0), .val (.int p1), .val (.int p2), .val (.int p3), .val (.ref b1), .val (.ref b25), .val (.ref b49), .val (.ref b73), .unset, .unset, .unset, .unset, .unset, .unset, .unset, .unset, .unset, .unset, .unset, .unset, .unset, .unset, .unset, .unset, .unset] [(.int (65537 : Int32)), (.int (1 : Int32)), (.ref b97), (.ref b97)]))
  obtain ⟨cl106, Ar106, qk106, Sz106, Mz106, Hz106, Uz106⟩ := id V102'
  obtain ⟨T107, h107, X107, e107, W107, st107⟩ := stI X102 hx hZ e102 Ar106 (j := (1 : Int32)) (inb_of Sz106 ⟨by decide, by decide⟩) (g := (mkF m 111 #[.val (.int p0), .val (.int p1), .val (.int p2), .val (.int p3), .val (.ref b1), .val (.ref b25), .val (.ref b49), .val (.ref b73), .unset, .unset, .unset, .unset, .unset, .unset, .unset, .unset, .unset, .unset, .unset, .unset, .unset, .unset, .unset, .unset, .unset] [(.int (65537 : Int32)), (.int (1 : Int32)), (.ref b97), (.ref b97)])) rfl rfl (hb hby at_111)
  refine own_st st107 ?_
  have V107 := Arv.set Ar106 qk106 Sz106 Mz106 Hz106 Uz106 rfl W107 1 rfl (Nat.le_of_ble_eq_true rfl)
  have z108 : h107.size = h102.size := W107.size
  have O109 := Old.wr O104 W107 (by omega)
  have K110 : Keep h0 h107 [] := K105.wr W107 (Or.inr (by omega))
  have N107 := Fr.snoc X107 N102 (by omega : Z.heap.size ≤ b97)
  have V107' : Arv Z h107 b97 k97 .int (4 : Int32) [(.int (46349 : Int32)), (.int (65537 : Int32)), (.int (0 : Int32)), (.int (0 : Int32))] (.int (0 : Int32)) := V107
  show own_G _ _ _ _ (T107.setTop (mkF m 112 #[.val (.int p0), .val (.int p1), .val (.int p2), .val (.int p3), .val (.ref b1), .val (.ref b25), .val (.ref b49), .val (.ref b73), .unset, .unset, .unset, .unset, .unset, .unset, .unset, .unset, .unset, .unset, .unset, .unset, .unset, .unset, .unset, .unset, .unset] [(.ref b97)]))
  refine own_st (fun _ k => XS.dup X107.here hx rfl (hb hby at_112) rfl rfl k) ?_
  show own_G _ _ _ _ (T107.setTop (mkF m 113 #[.val (.int p0), .val (.int p1), .val (.int p2), .val (.int p3), .val (.ref b1), .val (.ref b25), .val (.ref b49), .val (.ref b73), .unset, .unset, .unset, .unset, .unset, .unset, .unset, .unset, .unset, .unset, .unset, .unset, .unset, .unset, .unset, .unset, .unset] [(.ref b97), (.ref b97)]))
  refine own_st (fun _ k => XS.iconst X107.here hx rfl (hb hby at_113) k) ?_
  show own_G _ _ _ _ (T107.setTop (mkF m 114 #[.val (.int p0), .val (.int p1), .val (.int p2), .val (.int p3), .val (.ref b1), .val (.ref b25), .val (.ref b49), .val (.ref b73), .unset, .unset, .unset, .unset, .unset, .unset, .unset, .unset, .unset, .unset, .unset, .unset, .unset, .unset, .unset, .unset, .unset] [(.int (2 : Int32)), (.ref b97), (.ref b97)]))
  refine own_st (X107.ldcInt hx hown (mvT hZ (hw _ (List.mem_of_getElem? (i := 4) rfl))) (g := (mkF m 114 #[.val (.int p0), .val (.int p1), .val (.int p2), .val (.int p3), .val (.ref b1), .val (.ref b25), .val (.ref b49), .val (.ref b73), .unset, .unset, .unset, .unset, .unset, .unset, .unset, .unset, .unset, .unset, .unset, .unset, .unset, .unset, .unset, .unset, .unset] [(.int (2 : Int32)), (.ref b97), (.ref b97)])) rfl (hb hby at_114)) ?_
  show own_G _ _ _ _ (T107.setTop (mkF m 116 #[.val (.int p0), .val (.int p1), .val (.int p2), .val (.int p3), .val (.ref b1), .val (.ref b25), .val (.ref b49), .val (.ref b73), .unset, .unset, .unset, .unset, .unset, .unset, .unset, .unset, .unset, .unset, .unset, .unset, .unset, .unset, .unset, .unset, .unset] [(.int (999983 : Int32)), (.int (2 : Int32)), (.ref b97), (.ref b97)]))
  obtain ⟨cl111, Ar111, qk111, Sz111, Mz111, Hz111, Uz111⟩ := id V107'
  obtain ⟨T112, h112, X112, e112, W112, st112⟩ := stI X107 hx hZ e107 Ar111 (j := (2 : Int32)) (inb_of Sz111 ⟨by decide, by decide⟩) (g := (mkF m 116 #[.val (.int p0), .val (.int p1), .val (.int p2), .val (.int p3), .val (.ref b1), .val (.ref b25), .val (.ref b49), .val (.ref b73), .unset, .unset, .unset, .unset, .unset, .unset, .unset, .unset, .unset, .unset, .unset, .unset, .unset, .unset, .unset, .unset, .unset] [(.int (999983 : Int32)), (.int (2 : Int32)), (.ref b97), (.ref b97)])) rfl rfl (hb hby at_116)
  refine own_st st112 ?_
  have V112 := Arv.set Ar111 qk111 Sz111 Mz111 Hz111 Uz111 rfl W112 2 rfl (Nat.le_of_ble_eq_true rfl)
  have z113 : h112.size = h107.size := W112.size
  have O114 := Old.wr O109 W112 (by omega)
  have K115 : Keep h0 h112 [] := K110.wr W112 (Or.inr (by omega))
  have N112 := Fr.snoc X112 N107 (by omega : Z.heap.size ≤ b97)
  have V112' : Arv Z h112 b97 k97 .int (4 : Int32) [(.int (46349 : Int32)), (.int (65537 : Int32)), (.int (999983 : Int32)), (.int (0 : Int32))] (.int (0 : Int32)) := V112
  show own_G _ _ _ _ (T112.setTop (mkF m 117 #[.val (.int p0), .val (.int p1), .val (.int p2), .val (.int p3), .val (.ref b1), .val (.ref b25), .val (.ref b49), .val (.ref b73), .unset, .unset, .unset, .unset, .unset, .unset, .unset, .unset, .unset, .unset, .unset, .unset, .unset, .unset, .unset, .unset, .unset] [(.ref b97)]))
  refine own_st (fun _ k => XS.dup X112.here hx rfl (hb hby at_117) rfl rfl k) ?_
  show own_G _ _ _ _ (T112.setTop (mkF m 118 #[.val (.int p0), .val (.int p1), .val (.int p2), .val (.int p3), .val (.ref b1), .val (.ref b25), .val (.ref b49), .val (.ref b73), .unset, .unset, .unset, .unset, .unset, .unset, .unset, .unset, .unset, .unset, .unset, .unset, .unset, .unset, .unset, .unset, .unset] [(.ref b97), (.ref b97)]))
  refine own_st (fun _ k => XS.iconst X112.here hx rfl (hb hby at_118) k) ?_
  show own_G _ _ _ _ (T112.setTop (mkF m 119 #[.val (.int p0), .val (.int p1), .val (.int p2), .val (.int p3), .val (.ref b1), .val (.ref b25), .val (.ref b49), .val (.ref b73), .unset, .unset, .unset, .unset, .unset, .unset, .unset, .unset, .unset, .unset, .unset, .unset, .unset, .unset, .unset, .unset, .unset] [(.int (3 : Int32)), (.ref b97), (.ref b97)]))
  refine own_st (X112.ldcInt hx hown (mvT hZ (hw _ (List.mem_of_getElem? (i := 5) rfl))) (g := (mkF m 119 #[.val (.int p0), .val (.int p1), .val (.int p2), .val (.int p3), .val (.ref b1), .val (.ref b25), .val (.ref b49), .val (.ref b73), .unset, .unset, .unset, .unset, .unset, .unset, .unset, .unset, .unset, .unset, .unset, .unset, .unset, .unset, .unset, .unset, .unset] [(.int (3 : Int32)), (.ref b97), (.ref b97)])) rfl (hb hby at_119)) ?_
  show own_G _ _ _ _ (T112.setTop (mkF m 121 #[.val (.int p0), .val (.int p1), .val (.int p2), .val (.int p3), .val (.ref b1), .val (.ref b25), .val (.ref b49), .val (.ref b73), .unset, .unset, .unset, .unset, .unset, .unset, .unset, .unset, .unset, .unset, .unset, .unset, .unset, .unset, .unset, .unset, .unset] [(.int (2147483647 : Int32)), (.int (3 : Int32)), (.ref b97), (.ref b97)]))
  obtain ⟨cl116, Ar116, qk116, Sz116, Mz116, Hz116, Uz116⟩ := id V112'
  obtain ⟨T117, h117, X117, e117, W117, st117⟩ := stI X112 hx hZ e112 Ar116 (j := (3 : Int32)) (inb_of Sz116 ⟨by decide, by decide⟩) (g := (mkF m 121 #[.val (.int p0), .val (.int p1), .val (.int p2), .val (.int p3), .val (.ref b1), .val (.ref b25), .val (.ref b49), .val (.ref b73), .unset, .unset, .unset, .unset, .unset, .unset, .unset, .unset, .unset, .unset, .unset, .unset, .unset, .unset, .unset, .unset, .unset] [(.int (2147483647 : Int32)), (.int (3 : Int32)), (.ref b97), (.ref b97)])) rfl rfl (hb hby at_121)
  refine own_st st117 ?_
  have V117 := Arv.set Ar116 qk116 Sz116 Mz116 Hz116 Uz116 rfl W117 3 rfl (Nat.le_of_ble_eq_true rfl)
  have z118 : h117.size = h112.size := W117.size
  have O119 := Old.wr O114 W117 (by omega)
  have K120 : Keep h0 h117 [] := K115.wr W117 (Or.inr (by omega))
  have N117 := Fr.snoc X117 N112 (by omega : Z.heap.size ≤ b97)
  have V117' : Arv Z h117 b97 k97 .int (4 : Int32) [(.int (46349 : Int32)), (.int (65537 : Int32)), (.int (999983 : Int32)), (.int (2147483647 : Int32))] (.int (0 : Int32)) := V117
  show own_G _ _ _ _ (T117.setTop (mkF m 122 #[.val (.int p0), .val (.int p1), .val (.int p2), .val (.int p3), .val (.ref b1), .val (.ref b25), .val (.ref b49), .val (.ref b73), .unset, .unset, .unset, .unset, .unset, .unset, .unset, .unset, .unset, .unset, .unset, .unset, .unset, .unset, .unset, .unset, .unset] [(.ref b97)]))
  refine own_st (fun _ k => XS.astore X117.here hx rfl (hb hby at_122) rfl rfl (l' := #[.val (.int p0), .val (.int p1), .val (.int p2), .val (.int p3), .val (.ref b1), .val (.ref b25), .val (.ref b49), .val (.ref b73), .val (.ref b97), .unset, .unset, .unset, .unset, .unset, .unset, .unset, .unset, .unset, .unset, .unset, .unset, .unset, .unset, .unset, .unset]) rfl k) ?_
  show own_G _ _ _ _ (T117.setTop (mkF m 124 #[.val (.int p0), .val (.int p1), .val (.int p2), .val (.int p3), .val (.ref b1), .val (.ref b25), .val (.ref b49), .val (.ref b73), .val (.ref b97), .unset, .unset, .unset, .unset, .unset, .unset, .unset, .unset, .unset, .unset, .unset, .unset, .unset, .unset, .unset, .unset] []))
  refine own_st (fun _ k => XS.iloadN X117.here hx rfl (hb hby at_124) rfl k) ?_
  show own_G _ _ _ _ (T117.setTop (mkF m 125 #[.val (.int p0), .val (.int p1), .val (.int p2), .val (.int p3), .val (.ref b1), .val (.ref b25), .val (.ref b49), .val (.ref b73), .val (.ref b97), .unset, .unset, .unset, .unset, .unset, .unset, .unset, .unset, .unset, .unset, .unset, .unset, .unset, .unset, .unset, .unset] [(.int p0)]))
  refine own_st (fun _ k => XS.iconst X117.here hx rfl (hb hby at_125) k) ?_
  show own_G _ _ _ _ (T117.setTop (mkF m 126 #[.val (.int p0), .val (.int p1), .val (.int p2), .val (.int p3), .val (.ref b1), .val (.ref b25), .val (.ref b49), .val (.ref b73), .val (.ref b97), .unset, .unset, .unset, .unset, .unset, .unset, .unset, .unset, .unset, .unset, .unset, .unset, .unset, .unset, .unset, .unset] [(.int (3 : Int32)), (.int p0)]))
  refine own_st (fun _ k => XS.iand X117.here hx rfl (hb hby at_126) rfl k) ?_
  show own_G _ _ _ _ (T117.setTop (mkF m 127 #[.val (.int p0), .val (.int p1), .val (.int p2), .val (.int p3), .val (.ref b1), .val (.ref b25), .val (.ref b49), .val (.ref b73), .val (.ref b97), .unset, .unset, .unset, .unset, .unset, .unset, .unset, .unset, .unset, .unset, .unset, .unset, .unset, .unset, .unset, .unset] [(.int (p0 &&& (3 : Int32)))]))
  obtain ⟨I1, hI1, eI1⟩ := own_mask (x := p0) (m := 3) 2 (by decide) rfl
  obtain ⟨I2, hI2, eI2⟩ := own_mask (x := p1) (m := 3) 2 (by decide) rfl
  obtain ⟨I3, hI3, eI3⟩ := own_mask (x := p2) (m := 3) 2 (by decide) rfl
  obtain ⟨I4, hI4, eI4⟩ := own_mask (x := p3) (m := 3) 2 (by decide) rfl
  have hb1 := own_b1 hI1
  have hb2 := own_b2 hI2
  have hb3 := own_b3 hI3
  have hb4 := own_b4 hI4
  have q121 : Arv Z h117 b1 k1 .int (4 : Int32) [(.int (2 : Int32)), (.int (3 : Int32)), (.int (5 : Int32)), (.int (7 : Int32))] (.int (0 : Int32)) := ((((((((((((((((((((V21'.ext E25).other W30 (show @Ne Nat b1 b25 by omega)).other W35 (show @Ne Nat b1 b25 by omega)).other W40 (show @Ne Nat b1 b25 by omega)).other W45 (show @Ne Nat b1 b25 by omega)).ext E49).other W54 (show @Ne Nat b1 b49 by omega)).other W59 (show @Ne Nat b1 b49 by omega)).other W64 (show @Ne Nat b1 b49 by omega)).other W69 (show @Ne Nat b1 b49 by omega)).ext E73).other W78 (show @Ne Nat b1 b73 by omega)).other W83 (show @Ne Nat b1 b73 by omega)).other W88 (show @Ne Nat b1 b73 by omega)).other W93 (show @Ne Nat b1 b73 by omega)).ext E97).other W102 (show @Ne Nat b1 b97 by omega)).other W107 (show @Ne Nat b1 b97 by omega)).other W112 (show @Ne Nat b1 b97 by omega)).other W117 (show @Ne Nat b1 b97 by omega))
  have Vt0 : Arv Z h117 b1 k1 .int (Int32.ofNat 4) (own_vals (fun j => Int32.ofNat (own_n1 j)) 4) (.int (0 : Int32)) := q121
  have q122 : Arv Z h117 b25 k25 .int (4 : Int32) [(.int (31 : Int32)), (.int (20 : Int32)), (.int (14 : Int32)), (.int (12 : Int32))] (.int (0 : Int32)) := (((((((((((((((V45'.ext E49).other W54 (show @Ne Nat b25 b49 by omega)).other W59 (show @Ne Nat b25 b49 by omega)).other W64 (show @Ne Nat b25 b49 by omega)).other W69 (show @Ne Nat b25 b49 by omega)).ext E73).other W78 (show @Ne Nat b25 b73 by omega)).other W83 (show @Ne Nat b25 b73 by omega)).other W88 (show @Ne Nat b25 b73 by omega)).other W93 (show @Ne Nat b25 b73 by omega)).ext E97).other W102 (show @Ne Nat b25 b97 by omega)).other W107 (show @Ne Nat b25 b97 by omega)).other W112 (show @Ne Nat b25 b97 by omega)).other W117 (show @Ne Nat b25 b97 by omega))
  have Vt1 : Arv Z h117 b25 k25 .int (Int32.ofNat 4) (own_vals (fun j => Int32.ofNat (own_mm j)) 4) (.int (0 : Int32)) := q122
  have q123 : Arv Z h117 b49 k49 .int (4 : Int32) [(.int (11 : Int32)), (.int (13 : Int32)), (.int (31 : Int32)), (.int (97 : Int32))] (.int (0 : Int32)) := ((((((((((V69'.ext E73).other W78 (show @Ne Nat b49 b73 by omega)).other W83 (show @Ne Nat b49 b73 by omega)).other W88 (show @Ne Nat b49 b73 by omega)).other W93 (show @Ne Nat b49 b73 by omega)).ext E97).other W102 (show @Ne Nat b49 b97 by omega)).other W107 (show @Ne Nat b49 b97 by omega)).other W112 (show @Ne Nat b49 b97 by omega)).other W117 (show @Ne Nat b49 b97 by omega))
  have Vt2 : Arv Z h117 b49 k49 .int (Int32.ofNat 4) (own_vals (fun j => Int32.ofNat (own_n2 j)) 4) (.int (0 : Int32)) := q123
  have q124 : Arv Z h117 b73 k73 .int (4 : Int32) [(.int (101 : Int32)), (.int (251 : Int32)), (.int (1009 : Int32)), (.int (46337 : Int32))] (.int (0 : Int32)) := (((((V93'.ext E97).other W102 (show @Ne Nat b73 b97 by omega)).other W107 (show @Ne Nat b73 b97 by omega)).other W112 (show @Ne Nat b73 b97 by omega)).other W117 (show @Ne Nat b73 b97 by omega))
  have Vt3 : Arv Z h117 b73 k73 .int (Int32.ofNat 4) (own_vals (fun j => Int32.ofNat (own_n3 j)) 4) (.int (0 : Int32)) := q124
  have Vt4 : Arv Z h117 b97 k97 .int (Int32.ofNat 4) (own_vals (fun j => Int32.ofNat (own_n4 j)) 4) (.int (0 : Int32)) := V117'
  rw [eI1]
  show own_G _ _ _ _ (T117.setTop (mkF m 127 #[.val (.int p0), .val (.int p1), .val (.int p2), .val (.int p3), .val (.ref b1), .val (.ref b25), .val (.ref b49), .val (.ref b73), .val (.ref b97), .unset, .unset, .unset, .unset, .unset, .unset, .unset, .unset, .unset, .unset, .unset, .unset, .unset, .unset, .unset, .unset] [(.int (Int32.ofNat I1))]))
  refine own_st (fun _ k => XS.istore X117.here hx rfl (hb hby at_127) rfl (l' := #[.val (.int p0), .val (.int p1), .val (.int p2), .val (.int p3), .val (.ref b1), .val (.ref b25), .val (.ref b49), .val (.ref b73), .val (.ref b97), .val (.int (Int32.ofNat I1)), .unset, .unset, .unset, .unset, .unset, .unset, .unset, .unset, .unset, .unset, .unset, .unset, .unset, .unset, .unset]) rfl k) ?_
  show own_G _ _ _ _ (T117.setTop (mkF m 129 #[.val (.int p0), .val (.int p1), .val (.int p2), .val (.int p3), .val (.ref b1), .val (.ref b25), .val (.ref b49), .val (.ref b73), .val (.ref b97), .val (.int (Int32.ofNat I1)), .unset, .unset, .unset, .unset, .unset, .unset, .unset, .unset, .unset, .unset, .unset, .unset, .unset, .unset, .unset] []))
  refine own_st (fun _ k => XS.aload X117.here hx rfl (hb hby at_129) rfl rfl k) ?_
  show own_G _ _ _ _ (T117.setTop (mkF m 131 #[.val (.int p0), .val (.int p1), .val (.int p2), .val (.int p3), .val (.ref b1), .val (.ref b25), .val (.ref b49), .val (.ref b73), .val (.ref b97), .val (.int (Int32.ofNat I1)), .unset, .unset, .unset, .unset, .unset, .unset, .unset, .unset, .unset, .unset, .unset, .unset, .unset, .unset, .unset] [(.ref b1)]))
  refine own_st (fun _ k => XS.iload X117.here hx rfl (hb hby at_131) rfl k) ?_
  show own_G _ _ _ _ (T117.setTop (mkF m 133 #[.val (.int p0), .val (.int p1), .val (.int p2), .val (.int p3), .val (.ref b1), .val (.ref b25), .val (.ref b49), .val (.ref b73), .val (.ref b97), .val (.int (Int32.ofNat I1)), .unset, .unset, .unset, .unset, .unset, .unset, .unset, .unset, .unset, .unset, .unset, .unset, .unset, .unset, .unset] [(.int (Int32.ofNat I1)), (.ref b1)]))
  obtain ⟨cl125, Ar125, qk125, Sz125, Mz125, Hz125, Uz125⟩ := id Vt0
  refine own_st (X117.iaload hx (j := (Int32.ofNat I1)) (v := (.int (Int32.ofNat (own_n1 I1)))) (by rw [e117]; exact Ar125.1) (State.isArrayOf_alike hZ.alike Ar125.2.1) Ar125.2.2 (own_in (n := 4) Sz125 hI1 (by decide)) (own_get (f := fun j => Int32.ofNat (own_n1 j)) (N := 4) Sz125 Hz125 hI1 (by decide) (by decide)) (g := (mkF m 133 #[.val (.int p0), .val (.int p1), .val (.int p2), .val (.int p3), .val (.ref b1), .val (.ref b25), .val (.ref b49), .val (.ref b73), .val (.ref b97), .val (.int (Int32.ofNat I1)), .unset, .unset, .unset, .unset, .unset, .unset, .unset, .unset, .unset, .unset, .unset, .unset, .unset, .unset, .unset] [(.int (Int32.ofNat I1)), (.ref b1)])) rfl rfl (hb hby at_133)) ?_
  show own_G _ _ _ _ (T117.setTop (mkF m 134 #[.val (.int p0), .val (.int p1), .val (.int p2), .val (.int p3), .val (.ref b1), .val (.ref b25), .val (.ref b49), .val (.ref b73), .val (.ref b97), .val (.int (Int32.ofNat I1)), .unset, .unset, .unset, .unset, .unset, .unset, .unset, .unset, .unset, .unset, .unset, .unset, .unset, .unset, .unset] [(.int (Int32.ofNat (own_n1 I1)))]))
  refine own_st (fun _ k => XS.istore X117.here hx rfl (hb hby at_134) rfl (l' := #[.val (.int p0), .val (.int p1), .val (.int p2), .val (.int p3), .val (.ref b1), .val (.ref b25), .val (.ref b49), .val (.ref b73), .val (.ref b97), .val (.int (Int32.ofNat I1)), .val (.int (Int32.ofNat (own_n1 I1))), .unset, .unset, .unset, .unset, .unset, .unset, .unset, .unset, .unset, .unset, .unset, .unset, .unset, .unset]) rfl k) ?_
  show own_G _ _ _ _ (T117.setTop (mkF m 136 #[.val (.int p0), .val (.int p1), .val (.int p2), .val (.int p3), .val (.ref b1), .val (.ref b25), .val (.ref b49), .val (.ref b73), .val (.ref b97), .val (.int (Int32.ofNat I1)), .val (.int (Int32.ofNat (own_n1 I1))), .unset, .unset, .unset, .unset, .unset, .unset, .unset, .unset, .unset, .unset, .unset, .unset, .unset, .unset] []))
  refine own_st (fun _ k => XS.iloadN X117.here hx rfl (hb hby at_136) rfl k) ?_
  show own_G _ _ _ _ (T117.setTop (mkF m 137 #[.val (.int p0), .val (.int p1), .val (.int p2), .val (.int p3), .val (.ref b1), .val (.ref b25), .val (.ref b49), .val (.ref b73), .val (.ref b97), .val (.int (Int32.ofNat I1)), .val (.int (Int32.ofNat (own_n1 I1))), .unset, .unset, .unset, .unset, .unset, .unset, .unset, .unset, .unset, .unset, .unset, .unset, .unset, .unset] [(.int p0)]))
  refine own_st (fun _ k => XS.iconst X117.here hx rfl (hb hby at_137) k) ?_
  show own_G _ _ _ _ (T117.setTop (mkF m 138 #[.val (.int p0), .val (.int p1), .val (.int p2), .val (.int p3), .val (.ref b1), .val (.ref b25), .val (.ref b49), .val (.ref b73), .val (.ref b97), .val (.int (Int32.ofNat I1)), .val (.int (Int32.ofNat (own_n1 I1))), .unset, .unset, .unset, .unset, .unset, .unset, .unset, .unset, .unset, .unset, .unset, .unset, .unset, .unset] [(.int (2 : Int32)), (.int p0)]))
  refine own_st (fun _ k => XS.iushr X117.here hx rfl (hb hby at_138) rfl k) ?_
  show own_G _ _ _ _ (T117.setTop (mkF m 139 #[.val (.int p0), .val (.int p1), .val (.int p2), .val (.int p3), .val (.ref b1), .val (.ref b25), .val (.ref b49), .val (.ref b73), .val (.ref b97), .val (.int (Int32.ofNat I1)), .val (.int (Int32.ofNat (own_n1 I1))), .unset, .unset, .unset, .unset, .unset, .unset, .unset, .unset, .unset, .unset, .unset, .unset, .unset, .unset] [(.int ((p0.toUInt32 >>> ((2 : Int32) &&& 31).toUInt32).toInt32))]))
  refine own_st (fun _ k => XS.bipush X117.here hx rfl (hb hby at_139) k) ?_
  show own_G _ _ _ _ (T117.setTop (mkF m 141 #[.val (.int p0), .val (.int p1), .val (.int p2), .val (.int p3), .val (.ref b1), .val (.ref b25), .val (.ref b49), .val (.ref b73), .val (.ref b97), .val (.int (Int32.ofNat I1)), .val (.int (Int32.ofNat (own_n1 I1))), .unset, .unset, .unset, .unset, .unset, .unset, .unset, .unset, .unset, .unset, .unset, .unset, .unset, .unset] [(.int (31 : Int32)), (.int ((p0.toUInt32 >>> ((2 : Int32) &&& 31).toUInt32).toInt32))]))
  refine own_st (fun _ k => XS.iand X117.here hx rfl (hb hby at_141) rfl k) ?_
  show own_G _ _ _ _ (T117.setTop (mkF m 142 #[.val (.int p0), .val (.int p1), .val (.int p2), .val (.int p3), .val (.ref b1), .val (.ref b25), .val (.ref b49), .val (.ref b73), .val (.ref b97), .val (.int (Int32.ofNat I1)), .val (.int (Int32.ofNat (own_n1 I1))), .unset, .unset, .unset, .unset, .unset, .unset, .unset, .unset, .unset, .unset, .unset, .unset, .unset, .unset] [(.int (((p0.toUInt32 >>> ((2 : Int32) &&& 31).toUInt32).toInt32) &&& (31 : Int32)))]))
  obtain ⟨X1, hX1, eX1⟩ := own_mask (x := ((p0.toUInt32 >>> ((2 : Int32) &&& 31).toUInt32).toInt32)) (m := 31) 5 (by decide) rfl
  rw [eX1]
  show own_G _ _ _ _ (T117.setTop (mkF m 142 #[.val (.int p0), .val (.int p1), .val (.int p2), .val (.int p3), .val (.ref b1), .val (.ref b25), .val (.ref b49), .val (.ref b73), .val (.ref b97), .val (.int (Int32.ofNat I1)), .val (.int (Int32.ofNat (own_n1 I1))), .unset, .unset, .unset, .unset, .unset, .unset, .unset, .unset, .unset, .unset, .unset, .unset, .unset, .unset] [(.int (Int32.ofNat X1))]))
  refine own_st (fun _ k => XS.aload X117.here hx rfl (hb hby at_142) rfl rfl k) ?_
  show own_G _ _ _ _ (T117.setTop (mkF m 144 #[.val (.int p0), .val (.int p1), .val (.int p2), .val (.int p3), .val (.ref b1), .val (.ref b25), .val (.ref b49), .val (.ref b73), .val (.ref b97), .val (.int (Int32.ofNat I1)), .val (.int (Int32.ofNat (own_n1 I1))), .unset, .unset, .unset, .unset, .unset, .unset, .unset, .unset, .unset, .unset, .unset, .unset, .unset, .unset] [(.ref b25), (.int (Int32.ofNat X1))]))
  refine own_st (fun _ k => XS.iload X117.here hx rfl (hb hby at_144) rfl k) ?_
  show own_G _ _ _ _ (T117.setTop (mkF m 146 #[.val (.int p0), .val (.int p1), .val (.int p2), .val (.int p3), .val (.ref b1), .val (.ref b25), .val (.ref b49), .val (.ref b73), .val (.ref b97), .val (.int (Int32.ofNat I1)), .val (.int (Int32.ofNat (own_n1 I1))), .unset, .unset, .unset, .unset, .unset, .unset, .unset, .unset, .unset, .unset, .unset, .unset, .unset, .unset] [(.int (Int32.ofNat I1)), (.ref b25), (.int (Int32.ofNat X1))]))
  obtain ⟨cl126, Ar126, qk126, Sz126, Mz126, Hz126, Uz126⟩ := id Vt1
  refine own_st (X117.iaload hx (j := (Int32.ofNat I1)) (v := (.int (Int32.ofNat (own_mm I1)))) (by rw [e117]; exact Ar126.1) (State.isArrayOf_alike hZ.alike Ar126.2.1) Ar126.2.2 (own_in (n := 4) Sz126 hI1 (by decide)) (own_get (f := fun j => Int32.ofNat (own_mm j)) (N := 4) Sz126 Hz126 hI1 (by decide) (by decide)) (g := (mkF m 146 #[.val (.int p0), .val (.int p1), .val (.int p2), .val (.int p3), .val (.ref b1), .val (.ref b25), .val (.ref b49), .val (.ref b73), .val (.ref b97), .val (.int (Int32.ofNat I1)), .val (.int (Int32.ofNat (own_n1 I1))), .unset, .unset, .unset, .unset, .unset, .unset, .unset, .unset, .unset, .unset, .unset, .unset, .unset, .unset] [(.int (Int32.ofNat I1)), (.ref b25), (.int (Int32.ofNat X1))])) rfl rfl (hb hby at_146)) ?_
  show own_G _ _ _ _ (T117.setTop (mkF m 147 #[.val (.int p0), .val (.int p1), .val (.int p2), .val (.int p3), .val (.ref b1), .val (.ref b25), .val (.ref b49), .val (.ref b73), .val (.ref b97), .val (.int (Int32.ofNat I1)), .val (.int (Int32.ofNat (own_n1 I1))), .unset, .unset, .unset, .unset, .unset, .unset, .unset, .unset, .unset, .unset, .unset, .unset, .unset, .unset] [(.int (Int32.ofNat (own_mm I1))), (.int (Int32.ofNat X1))]))
  refine own_st (fun _ k => Jvm.RoadKit.iremM (g := (mkF m 147 #[.val (.int p0), .val (.int p1), .val (.int p2), .val (.int p3), .val (.ref b1), .val (.ref b25), .val (.ref b49), .val (.ref b73), .val (.ref b97), .val (.int (Int32.ofNat I1)), .val (.int (Int32.ofNat (own_n1 I1))), .unset, .unset, .unset, .unset, .unset, .unset, .unset, .unset, .unset, .unset, .unset, .unset, .unset, .unset] [(.int (Int32.ofNat (own_mm I1))), (.int (Int32.ofNat X1))])) X117 hx rfl (hb hby at_147) rfl (own_ne0 (by omega) (by omega)) k) ?_
  show own_G _ _ _ _ (T117.setTop (mkF m 148 #[.val (.int p0), .val (.int p1), .val (.int p2), .val (.int p3), .val (.ref b1), .val (.ref b25), .val (.ref b49), .val (.ref b73), .val (.ref b97), .val (.int (Int32.ofNat I1)), .val (.int (Int32.ofNat (own_n1 I1))), .unset, .unset, .unset, .unset, .unset, .unset, .unset, .unset, .unset, .unset, .unset, .unset, .unset, .unset] [(.int ((Int32.ofNat X1) % (Int32.ofNat (own_mm I1))))]))
  rw [own_mod (by omega) (by omega) (by omega)]
  show own_G _ _ _ _ (T117.setTop (mkF m 148 #[.val (.int p0), .val (.int p1), .val (.int p2), .val (.int p3), .val (.ref b1), .val (.ref b25), .val (.ref b49), .val (.ref b73), .val (.ref b97), .val (.int (Int32.ofNat I1)), .val (.int (Int32.ofNat (own_n1 I1))), .unset, .unset, .unset, .unset, .unset, .unset, .unset, .unset, .unset, .unset, .unset, .unset, .unset, .unset] [(.int (Int32.ofNat (X1 % own_mm I1)))]))
  have hE1 : X1 % own_mm I1 < own_mm I1 := Nat.mod_lt _ (by omega)
  obtain ⟨E1, eE1⟩ : ∃ z, X1 % own_mm I1 = z := ⟨_, rfl⟩
  rw [eE1] at hE1
  rw [eE1]
  show own_G _ _ _ _ (T117.setTop (mkF m 148 #[.val (.int p0), .val (.int p1), .val (.int p2), .val (.int p3), .val (.ref b1), .val (.ref b25), .val (.ref b49), .val (.ref b73), .val (.ref b97), .val (.int (Int32.ofNat I1)), .val (.int (Int32.ofNat (own_n1 I1))), .unset, .unset, .unset, .unset, .unset, .unset, .unset, .unset, .unset, .unset, .unset, .unset, .unset, .unset] [(.int (Int32.ofNat E1))]))
  refine own_st (fun _ k => XS.istore X117.here hx rfl (hb hby at_148) rfl (l' := #[.val (.int p0), .val (.int p1), .val (.int p2), .val (.int p3), .val (.ref b1), .val (.ref b25), .val (.ref b49), .val (.ref b73), .val (.ref b97), .val (.int (Int32.ofNat I1)), .val (.int (Int32.ofNat (own_n1 I1))), .val (.int (Int32.ofNat E1)), .unset, .unset, .unset, .unset, .unset, .unset, .unset, .unset, .unset, .unset, .unset, .unset, .unset]) rfl k) ?_
  show own_G _ _ _ _ (T117.setTop (mkF m 150 #[.val (.int p0), .val (.int p1), .val (.int p2), .val (.int p3), .val (.ref b1), .val (.ref b25), .val (.ref b49), .val (.ref b73), .val (.ref b97), .val (.int (Int32.ofNat I1)), .val (.int (Int32.ofNat (own_n1 I1))), .val (.int (Int32.ofNat E1)), .unset, .unset, .unset, .unset, .unset, .unset, .unset, .unset, .unset, .unset, .unset, .unset, .unset] []))
  refine own_st (fun _ k => XS.aload X117.here hx rfl (hb hby at_150) rfl rfl k) ?_
  show own_G _ _ _ _ (T117.setTop (mkF m 152 #[.val (.int p0), .val (.int p1), .val (.int p2), .val (.int p3), .val (.ref b1), .val (.ref b25), .val (.ref b49), .val (.ref b73), .val (.ref b97), .val (.int (Int32.ofNat I1)), .val (.int (Int32.ofNat (own_n1 I1))), .val (.int (Int32.ofNat E1)), .unset, .unset, .unset, .unset, .unset, .unset, .unset, .unset, .unset, .unset, .unset, .unset, .unset] [(.ref b49)]))
  refine own_st (fun _ k => XS.iloadN X117.here hx rfl (hb hby at_152) rfl k) ?_
  show own_G _ _ _ _ (T117.setTop (mkF m 153 #[.val (.int p0), .val (.int p1), .val (.int p2), .val (.int p3), .val (.ref b1), .val (.ref b25), .val (.ref b49), .val (.ref b73), .val (.ref b97), .val (.int (Int32.ofNat I1)), .val (.int (Int32.ofNat (own_n1 I1))), .val (.int (Int32.ofNat E1)), .unset, .unset, .unset, .unset, .unset, .unset, .unset, .unset, .unset, .unset, .unset, .unset, .unset] [(.int p1), (.ref b49)]))
  refine own_st (fun _ k => XS.iconst X117.here hx rfl (hb hby at_153) k) ?_
  show own_G _ _ _ _ (T117.setTop (mkF m 154 #[.val (.int p0), .val (.int p1), .val (.int p2), .val (.int p3), .val (.ref b1), .val (.ref b25), .val (.ref b49), .val (.ref b73), .val (.ref b97), .val (.int (Int32.ofNat I1)), .val (.int (Int32.ofNat (own_n1 I1))), .val (.int (Int32.ofNat E1)), .unset, .unset, .unset, .unset, .unset, .unset, .unset, .unset, .unset, .unset, .unset, .unset, .unset] [(.int (3 : Int32)), (.int p1), (.ref b49)]))
  refine own_st (fun _ k => XS.iand X117.here hx rfl (hb hby at_154) rfl k) ?_
  show own_G _ _ _ _ (T117.setTop (mkF m 155 #[.val (.int p0), .val (.int p1), .val (.int p2), .val (.int p3), .val (.ref b1), .val (.ref b25), .val (.ref b49), .val (.ref b73), .val (.ref b97), .val (.int (Int32.ofNat I1)), .val (.int (Int32.ofNat (own_n1 I1))), .val (.int (Int32.ofNat E1)), .unset, .unset, .unset, .unset, .unset, .unset, .unset, .unset, .unset, .unset, .unset, .unset, .unset] [(.int (p1 &&& (3 : Int32))), (.ref b49)]))
  rw [eI2]
  show own_G _ _ _ _ (T117.setTop (mkF m 155 #[.val (.int p0), .val (.int p1), .val (.int p2), .val (.int p3), .val (.ref b1), .val (.ref b25), .val (.ref b49), .val (.ref b73), .val (.ref b97), .val (.int (Int32.ofNat I1)), .val (.int (Int32.ofNat (own_n1 I1))), .val (.int (Int32.ofNat E1)), .unset, .unset, .unset, .unset, .unset, .unset, .unset, .unset, .unset, .unset, .unset, .unset, .unset] [(.int (Int32.ofNat I2)), (.ref b49)]))
  obtain ⟨cl127, Ar127, qk127, Sz127, Mz127, Hz127, Uz127⟩ := id Vt2
  refine own_st (X117.iaload hx (j := (Int32.ofNat I2)) (v := (.int (Int32.ofNat (own_n2 I2)))) (by rw [e117]; exact Ar127.1) (State.isArrayOf_alike hZ.alike Ar127.2.1) Ar127.2.2 (own_in (n := 4) Sz127 hI2 (by decide)) (own_get (f := fun j => Int32.ofNat (own_n2 j)) (N := 4) Sz127 Hz127 hI2 (by decide) (by decide)) (g := (mkF m 155 #[.val (.int p0), .val (.int p1), .val (.int p2), .val (.int p3), .val (.ref b1), .val (.ref b25), .val (.ref b49), .val (.ref b73), .val (.ref b97), .val (.int (Int32.ofNat I1)), .val (.int (Int32.ofNat (own_n1 I1))), .val (.int (Int32.ofNat E1)), .unset, .unset, .unset, .unset, .unset, .unset, .unset, .unset, .unset, .unset, .unset, .unset, .unset] [(.int (Int32.ofNat I2)), (.ref b49)])) rfl rfl (hb hby at_155)) ?_
  show own_G _ _ _ _ (T117.setTop (mkF m 156 #[.val (.int p0), .val (.int p1), .val (.int p2), .val (.int p3), .val (.ref b1), .val (.ref b25), .val (.ref b49), .val (.ref b73), .val (.ref b97), .val (.int (Int32.ofNat I1)), .val (.int (Int32.ofNat (own_n1 I1))), .val (.int (Int32.ofNat E1)), .unset, .unset, .unset, .unset, .unset, .unset, .unset, .unset, .unset, .unset, .unset, .unset, .unset] [(.int (Int32.ofNat (own_n2 I2)))]))
  refine own_st (fun _ k => XS.istore X117.here hx rfl (hb hby at_156) rfl (l' := #[.val (.int p0), .val (.int p1), .val (.int p2), .val (.int p3), .val (.ref b1), .val (.ref b25), .val (.ref b49), .val (.ref b73), .val (.ref b97), .val (.int (Int32.ofNat I1)), .val (.int (Int32.ofNat (own_n1 I1))), .val (.int (Int32.ofNat E1)), .val (.int (Int32.ofNat (own_n2 I2))), .unset, .unset, .unset, .unset, .unset, .unset, .unset, .unset, .unset, .unset, .unset, .unset]) rfl k) ?_
  show own_G _ _ _ _ (T117.setTop (mkF m 158 #[.val (.int p0), .val (.int p1), .val (.int p2), .val (.int p3), .val (.ref b1), .val (.ref b25), .val (.ref b49), .val (.ref b73), .val (.ref b97), .val (.int (Int32.ofNat I1)), .val (.int (Int32.ofNat (own_n1 I1))), .val (.int (Int32.ofNat E1)), .val (.int (Int32.ofNat (own_n2 I2))), .unset, .unset, .unset, .unset, .unset, .unset, .unset, .unset, .unset, .unset, .unset, .unset] []))
  refine own_st (fun _ k => XS.iloadN X117.here hx rfl (hb hby at_158) rfl k) ?_
  show own_G _ _ _ _ (T117.setTop (mkF m 159 #[.val (.int p0), .val (.int p1), .val (.int p2), .val (.int p3), .val (.ref b1), .val (.ref b25), .val (.ref b49), .val (.ref b73), .val (.ref b97), .val (.int (Int32.ofNat I1)), .val (.int (Int32.ofNat (own_n1 I1))), .val (.int (Int32.ofNat E1)), .val (.int (Int32.ofNat (own_n2 I2))), .unset, .unset, .unset, .unset, .unset, .unset, .unset, .unset, .unset, .unset, .unset, .unset] [(.int p1)]))
  refine own_st (fun _ k => XS.iconst X117.here hx rfl (hb hby at_159) k) ?_
  show own_G _ _ _ _ (T117.setTop (mkF m 160 #[.val (.int p0), .val (.int p1), .val (.int p2), .val (.int p3), .val (.ref b1), .val (.ref b25), .val (.ref b49), .val (.ref b73), .val (.ref b97), .val (.int (Int32.ofNat I1)), .val (.int (Int32.ofNat (own_n1 I1))), .val (.int (Int32.ofNat E1)), .val (.int (Int32.ofNat (own_n2 I2))), .unset, .unset, .unset, .unset, .unset, .unset, .unset, .unset, .unset, .unset, .unset, .unset] [(.int (2 : Int32)), (.int p1)]))
  refine own_st (fun _ k => XS.iushr X117.here hx rfl (hb hby at_160) rfl k) ?_
  show own_G _ _ _ _ (T117.setTop (mkF m 161 #[.val (.int p0), .val (.int p1), .val (.int p2), .val (.int p3), .val (.ref b1), .val (.ref b25), .val (.ref b49), .val (.ref b73), .val (.ref b97), .val (.int (Int32.ofNat I1)), .val (.int (Int32.ofNat (own_n1 I1))), .val (.int (Int32.ofNat E1)), .val (.int (Int32.ofNat (own_n2 I2))), .unset, .unset, .unset, .unset, .unset, .unset, .unset, .unset, .unset, .unset, .unset, .unset] [(.int ((p1.toUInt32 >>> ((2 : Int32) &&& 31).toUInt32).toInt32))]))
  refine own_st (fun _ k => XS.iconst X117.here hx rfl (hb hby at_161) k) ?_
  show own_G _ _ _ _ (T117.setTop (mkF m 162 #[.val (.int p0), .val (.int p1), .val (.int p2), .val (.int p3), .val (.ref b1), .val (.ref b25), .val (.ref b49), .val (.ref b73), .val (.ref b97), .val (.int (Int32.ofNat I1)), .val (.int (Int32.ofNat (own_n1 I1))), .val (.int (Int32.ofNat E1)), .val (.int (Int32.ofNat (own_n2 I2))), .unset, .unset, .unset, .unset, .unset, .unset, .unset, .unset, .unset, .unset, .unset, .unset] [(.int (3 : Int32)), (.int ((p1.toUInt32 >>> ((2 : Int32) &&& 31).toUInt32).toInt32))]))
  refine own_st (fun _ k => XS.iand X117.here hx rfl (hb hby at_162) rfl k) ?_
  show own_G _ _ _ _ (T117.setTop (mkF m 163 #[.val (.int p0), .val (.int p1), .val (.int p2), .val (.int p3), .val (.ref b1), .val (.ref b25), .val (.ref b49), .val (.ref b73), .val (.ref b97), .val (.int (Int32.ofNat I1)), .val (.int (Int32.ofNat (own_n1 I1))), .val (.int (Int32.ofNat E1)), .val (.int (Int32.ofNat (own_n2 I2))), .unset, .unset, .unset, .unset, .unset, .unset, .unset, .unset, .unset, .unset, .unset, .unset] [(.int (((p1.toUInt32 >>> ((2 : Int32) &&& 31).toUInt32).toInt32) &&& (3 : Int32)))]))
  obtain ⟨E2, hE2, eE2⟩ := own_mask (x := ((p1.toUInt32 >>> ((2 : Int32) &&& 31).toUInt32).toInt32)) (m := 3) 2 (by decide) rfl
  rw [eE2]
  show own_G _ _ _ _ (T117.setTop (mkF m 163 #[.val (.int p0), .val (.int p1), .val (.int p2), .val (.int p3), .val (.ref b1), .val (.ref b25), .val (.ref b49), .val (.ref b73), .val (.ref b97), .val (.int (Int32.ofNat I1)), .val (.int (Int32.ofNat (own_n1 I1))), .val (.int (Int32.ofNat E1)), .val (.int (Int32.ofNat (own_n2 I2))), .unset, .unset, .unset, .unset, .unset, .unset, .unset, .unset, .unset, .unset, .unset, .unset] [(.int (Int32.ofNat E2))]))
  refine own_st (fun _ k => XS.istore X117.here hx rfl (hb hby at_163) rfl (l' := #[.val (.int p0), .val (.int p1), .val (.int p2), .val (.int p3), .val (.ref b1), .val (.ref b25), .val (.ref b49), .val (.ref b73), .val (.ref b97), .val (.int (Int32.ofNat I1)), .val (.int (Int32.ofNat (own_n1 I1))), .val (.int (Int32.ofNat E1)), .val (.int (Int32.ofNat (own_n2 I2))), .val (.int (Int32.ofNat E2)), .unset, .unset, .unset, .unset, .unset, .unset, .unset, .unset, .unset, .unset, .unset]) rfl k) ?_
  show own_G _ _ _ _ (T117.setTop (mkF m 165 #[.val (.int p0), .val (.int p1), .val (.int p2), .val (.int p3), .val (.ref b1), .val (.ref b25), .val (.ref b49), .val (.ref b73), .val (.ref b97), .val (.int (Int32.ofNat I1)), .val (.int (Int32.ofNat (own_n1 I1))), .val (.int (Int32.ofNat E1)), .val (.int (Int32.ofNat (own_n2 I2))), .val (.int (Int32.ofNat E2)), .unset, .unset, .unset, .unset, .unset, .unset, .unset, .unset, .unset, .unset, .unset] []))
  refine own_st (fun _ k => XS.aload X117.here hx rfl (hb hby at_165) rfl rfl k) ?_
  show own_G _ _ _ _ (T117.setTop (mkF m 167 #[.val (.int p0), .val (.int p1), .val (.int p2), .val (.int p3), .val (.ref b1), .val (.ref b25), .val (.ref b49), .val (.ref b73), .val (.ref b97), .val (.int (Int32.ofNat I1)), .val (.int (Int32.ofNat (own_n1 I1))), .val (.int (Int32.ofNat E1)), .val (.int (Int32.ofNat (own_n2 I2))), .val (.int (Int32.ofNat E2)), .unset, .unset, .unset, .unset, .unset, .unset, .unset, .unset, .unset, .unset, .unset] [(.ref b73)]))
  refine own_st (fun _ k => XS.iloadN X117.here hx rfl (hb hby at_167) rfl k) ?_
  show own_G _ _ _ _ (T117.setTop (mkF m 168 #[.val (.int p0), .val (.int p1), .val (.int p2), .val (.int p3), .val (.ref b1), .val (.ref b25), .val (.ref b49), .val (.ref b73), .val (.ref b97), .val (.int (Int32.ofNat I1)), .val (.int (Int32.ofNat (own_n1 I1))), .val (.int (Int32.ofNat E1)), .val (.int (Int32.ofNat (own_n2 I2))), .val (.int (Int32.ofNat E2)), .unset, .unset, .unset, .unset, .unset, .unset, .unset, .unset, .unset, .unset, .unset] [(.int p2), (.ref b73)]))
  refine own_st (fun _ k => XS.iconst X117.here hx rfl (hb hby at_168) k) ?_
  show own_G _ _ _ _ (T117.setTop (mkF m 169 #[.val (.int p0), .val (.int p1), .val (.int p2), .val (.int p3), .val (.ref b1), .val (.ref b25), .val (.ref b49), .val (.ref b73), .val (.ref b97), .val (.int (Int32.ofNat I1)), .val (.int (Int32.ofNat (own_n1 I1))), .val (.int (Int32.ofNat E1)), .val (.int (Int32.ofNat (own_n2 I2))), .val (.int (Int32.ofNat E2)), .unset, .unset, .unset, .unset, .unset, .unset, .unset, .unset, .unset, .unset, .unset] [(.int (3 : Int32)), (.int p2), (.ref b73)]))
  refine own_st (fun _ k => XS.iand X117.here hx rfl (hb hby at_169) rfl k) ?_
  show own_G _ _ _ _ (T117.setTop (mkF m 170 #[.val (.int p0), .val (.int p1), .val (.int p2), .val (.int p3), .val (.ref b1), .val (.ref b25), .val (.ref b49), .val (.ref b73), .val (.ref b97), .val (.int (Int32.ofNat I1)), .val (.int (Int32.ofNat (own_n1 I1))), .val (.int (Int32.ofNat E1)), .val (.int (Int32.ofNat (own_n2 I2))), .val (.int (Int32.ofNat E2)), .unset, .unset, .unset, .unset, .unset, .unset, .unset, .unset, .unset, .unset, .unset] [(.int (p2 &&& (3 : Int32))), (.ref b73)]))
  rw [eI3]
  show own_G _ _ _ _ (T117.setTop (mkF m 170 #[.val (.int p0), .val (.int p1), .val (.int p2), .val (.int p3), .val (.ref b1), .val (.ref b25), .val (.ref b49), .val (.ref b73), .val (.ref b97), .val (.int (Int32.ofNat I1)), .val (.int (Int32.ofNat (own_n1 I1))), .val (.int (Int32.ofNat E1)), .val (.int (Int32.ofNat (own_n2 I2))), .val (.int (Int32.ofNat E2)), .unset, .unset, .unset, .unset, .unset, .unset, .unset, .unset, .unset, .unset, .unset] [(.int (Int32.ofNat I3)), (.ref b73)]))
  obtain ⟨cl128, Ar128, qk128, Sz128, Mz128, Hz128, Uz128⟩ := id Vt3
  refine own_st (X117.iaload hx (j := (Int32.ofNat I3)) (v := (.int (Int32.ofNat (own_n3 I3)))) (by rw [e117]; exact Ar128.1) (State.isArrayOf_alike hZ.alike Ar128.2.1) Ar128.2.2 (own_in (n := 4) Sz128 hI3 (by decide)) (own_get (f := fun j => Int32.ofNat (own_n3 j)) (N := 4) Sz128 Hz128 hI3 (by decide) (by decide)) (g := (mkF m 170 #[.val (.int p0), .val (.int p1), .val (.int p2), .val (.int p3), .val (.ref b1), .val (.ref b25), .val (.ref b49), .val (.ref b73), .val (.ref b97), .val (.int (Int32.ofNat I1)), .val (.int (Int32.ofNat (own_n1 I1))), .val (.int (Int32.ofNat E1)), .val (.int (Int32.ofNat (own_n2 I2))), .val (.int (Int32.ofNat E2)), .unset, .unset, .unset, .unset, .unset, .unset, .unset, .unset, .unset, .unset, .unset] [(.int (Int32.ofNat I3)), (.ref b73)])) rfl rfl (hb hby at_170)) ?_
  show own_G _ _ _ _ (T117.setTop (mkF m 171 #[.val (.int p0), .val (.int p1), .val (.int p2), .val (.int p3), .val (.ref b1), .val (.ref b25), .val (.ref b49), .val (.ref b73), .val (.ref b97), .val (.int (Int32.ofNat I1)), .val (.int (Int32.ofNat (own_n1 I1))), .val (.int (Int32.ofNat E1)), .val (.int (Int32.ofNat (own_n2 I2))), .val (.int (Int32.ofNat E2)), .unset, .unset, .unset, .unset, .unset, .unset, .unset, .unset, .unset, .unset, .unset] [(.int (Int32.ofNat (own_n3 I3)))]))
  refine own_st (fun _ k => XS.istore X117.here hx rfl (hb hby at_171) rfl (l' := #[.val (.int p0), .val (.int p1), .val (.int p2), .val (.int p3), .val (.ref b1), .val (.ref b25), .val (.ref b49), .val (.ref b73), .val (.ref b97), .val (.int (Int32.ofNat I1)), .val (.int (Int32.ofNat (own_n1 I1))), .val (.int (Int32.ofNat E1)), .val (.int (Int32.ofNat (own_n2 I2))), .val (.int (Int32.ofNat E2)), .val (.int (Int32.ofNat (own_n3 I3))), .unset, .unset, .unset, .unset, .unset, .unset, .unset, .unset, .unset, .unset]) rfl k) ?_
  show own_G _ _ _ _ (T117.setTop (mkF m 173 #[.val (.int p0), .val (.int p1), .val (.int p2), .val (.int p3), .val (.ref b1), .val (.ref b25), .val (.ref b49), .val (.ref b73), .val (.ref b97), .val (.int (Int32.ofNat I1)), .val (.int (Int32.ofNat (own_n1 I1))), .val (.int (Int32.ofNat E1)), .val (.int (Int32.ofNat (own_n2 I2))), .val (.int (Int32.ofNat E2)), .val (.int (Int32.ofNat (own_n3 I3))), .unset, .unset, .unset, .unset, .unset, .unset, .unset, .unset, .unset, .unset] []))
  refine own_st (fun _ k => XS.iloadN X117.here hx rfl (hb hby at_173) rfl k) ?_
  show own_G _ _ _ _ (T117.setTop (mkF m 174 #[.val (.int p0), .val (.int p1), .val (.int p2), .val (.int p3), .val (.ref b1), .val (.ref b25), .val (.ref b49), .val (.ref b73), .val (.ref b97), .val (.int (Int32.ofNat I1)), .val (.int (Int32.ofNat (own_n1 I1))), .val (.int (Int32.ofNat E1)), .val (.int (Int32.ofNat (own_n2 I2))), .val (.int (Int32.ofNat E2)), .val (.int (Int32.ofNat (own_n3 I3))), .unset, .unset, .unset, .unset, .unset, .unset, .unset, .unset, .unset, .unset] [(.int p2)]))
  refine own_st (fun _ k => XS.iconst X117.here hx rfl (hb hby at_174) k) ?_
  show own_G _ _ _ _ (T117.setTop (mkF m 175 #[.val (.int p0), .val (.int p1), .val (.int p2), .val (.int p3), .val (.ref b1), .val (.ref b25), .val (.ref b49), .val (.ref b73), .val (.ref b97), .val (.int (Int32.ofNat I1)), .val (.int (Int32.ofNat (own_n1 I1))), .val (.int (Int32.ofNat E1)), .val (.int (Int32.ofNat (own_n2 I2))), .val (.int (Int32.ofNat E2)), .val (.int (Int32.ofNat (own_n3 I3))), .unset, .unset, .unset, .unset, .unset, .unset, .unset, .unset, .unset, .unset] [(.int (2 : Int32)), (.int p2)]))
  refine own_st (fun _ k => XS.iushr X117.here hx rfl (hb hby at_175) rfl k) ?_
  show own_G _ _ _ _ (T117.setTop (mkF m 176 #[.val (.int p0), .val (.int p1), .val (.int p2), .val (.int p3), .val (.ref b1), .val (.ref b25), .val (.ref b49), .val (.ref b73), .val (.ref b97), .val (.int (Int32.ofNat I1)), .val (.int (Int32.ofNat (own_n1 I1))), .val (.int (Int32.ofNat E1)), .val (.int (Int32.ofNat (own_n2 I2))), .val (.int (Int32.ofNat E2)), .val (.int (Int32.ofNat (own_n3 I3))), .unset, .unset, .unset, .unset, .unset, .unset, .unset, .unset, .unset, .unset] [(.int ((p2.toUInt32 >>> ((2 : Int32) &&& 31).toUInt32).toInt32))]))
  refine own_st (fun _ k => XS.iconst X117.here hx rfl (hb hby at_176) k) ?_
  show own_G _ _ _ _ (T117.setTop (mkF m 177 #[.val (.int p0), .val (.int p1), .val (.int p2), .val (.int p3), .val (.ref b1), .val (.ref b25), .val (.ref b49), .val (.ref b73), .val (.ref b97), .val (.int (Int32.ofNat I1)), .val (.int (Int32.ofNat (own_n1 I1))), .val (.int (Int32.ofNat E1)), .val (.int (Int32.ofNat (own_n2 I2))), .val (.int (Int32.ofNat E2)), .val (.int (Int32.ofNat (own_n3 I3))), .unset, .unset, .unset, .unset, .unset, .unset, .unset, .unset, .unset, .unset] [(.int (3 : Int32)), (.int ((p2.toUInt32 >>> ((2 : Int32) &&& 31).toUInt32).toInt32))]))
  obtain ⟨X3, hX3, eX3⟩ := own_ush p2
  rw [eX3]
  show own_G _ _ _ _ (T117.setTop (mkF m 177 #[.val (.int p0), .val (.int p1), .val (.int p2), .val (.int p3), .val (.ref b1), .val (.ref b25), .val (.ref b49), .val (.ref b73), .val (.ref b97), .val (.int (Int32.ofNat I1)), .val (.int (Int32.ofNat (own_n1 I1))), .val (.int (Int32.ofNat E1)), .val (.int (Int32.ofNat (own_n2 I2))), .val (.int (Int32.ofNat E2)), .val (.int (Int32.ofNat (own_n3 I3))), .unset, .unset, .unset, .unset, .unset, .unset, .unset, .unset, .unset, .unset] [(.int (3 : Int32)), (.int (Int32.ofNat X3))]))
  refine own_st (fun _ k => Jvm.RoadKit.iremM (g := (mkF m 177 #[.val (.int p0), .val (.int p1), .val (.int p2), .val (.int p3), .val (.ref b1), .val (.ref b25), .val (.ref b49), .val (.ref b73), .val (.ref b97), .val (.int (Int32.ofNat I1)), .val (.int (Int32.ofNat (own_n1 I1))), .val (.int (Int32.ofNat E1)), .val (.int (Int32.ofNat (own_n2 I2))), .val (.int (Int32.ofNat E2)), .val (.int (Int32.ofNat (own_n3 I3))), .unset, .unset, .unset, .unset, .unset, .unset, .unset, .unset, .unset, .unset] [(.int (3 : Int32)), (.int (Int32.ofNat X3))])) X117 hx rfl (hb hby at_177) rfl (by decide) k) ?_
  show own_G _ _ _ _ (T117.setTop (mkF m 178 #[.val (.int p0), .val (.int p1), .val (.int p2), .val (.int p3), .val (.ref b1), .val (.ref b25), .val (.ref b49), .val (.ref b73), .val (.ref b97), .val (.int (Int32.ofNat I1)), .val (.int (Int32.ofNat (own_n1 I1))), .val (.int (Int32.ofNat E1)), .val (.int (Int32.ofNat (own_n2 I2))), .val (.int (Int32.ofNat E2)), .val (.int (Int32.ofNat (own_n3 I3))), .unset, .unset, .unset, .unset, .unset, .unset, .unset, .unset, .unset, .unset] [(.int ((Int32.ofNat X3) % (3 : Int32)))]))
  rw [(show Int32.ofNat X3 % (3 : Int32) = Int32.ofNat (X3 % 3) from own_mod (d := 3) (by omega) (by decide) (by decide))]
  show own_G _ _ _ _ (T117.setTop (mkF m 178 #[.val (.int p0), .val (.int p1), .val (.int p2), .val (.int p3), .val (.ref b1), .val (.ref b25), .val (.ref b49), .val (.ref b73), .val (.ref b97), .val (.int (Int32.ofNat I1)), .val (.int (Int32.ofNat (own_n1 I1))), .val (.int (Int32.ofNat E1)), .val (.int (Int32.ofNat (own_n2 I2))), .val (.int (Int32.ofNat E2)), .val (.int (Int32.ofNat (own_n3 I3))), .unset, .unset, .unset, .unset, .unset, .unset, .unset, .unset, .unset, .unset] [(.int (Int32.ofNat (X3 % 3)))]))
  have hE3 : X3 % 3 < 3 := Nat.mod_lt _ (by decide)
  obtain ⟨E3, eE3⟩ : ∃ z, X3 % 3 = z := ⟨_, rfl⟩
  rw [eE3] at hE3
  rw [eE3]
  show own_G _ _ _ _ (T117.setTop (mkF m 178 #[.val (.int p0), .val (.int p1), .val (.int p2), .val (.int p3), .val (.ref b1), .val (.ref b25), .val (.ref b49), .val (.ref b73), .val (.ref b97), .val (.int (Int32.ofNat I1)), .val (.int (Int32.ofNat (own_n1 I1))), .val (.int (Int32.ofNat E1)), .val (.int (Int32.ofNat (own_n2 I2))), .val (.int (Int32.ofNat E2)), .val (.int (Int32.ofNat (own_n3 I3))), .unset, .unset, .unset, .unset, .unset, .unset, .unset, .unset, .unset, .unset] [(.int (Int32.ofNat E3))]))
  refine own_st (fun _ k => XS.istore X117.here hx rfl (hb hby at_178) rfl (l' := #[.val (.int p0), .val (.int p1), .val (.int p2), .val (.int p3), .val (.ref b1), .val (.ref b25), .val (.ref b49), .val (.ref b73), .val (.ref b97), .val (.int (Int32.ofNat I1)), .val (.int (Int32.ofNat (own_n1 I1))), .val (.int (Int32.ofNat E1)), .val (.int (Int32.ofNat (own_n2 I2))), .val (.int (Int32.ofNat E2)), .val (.int (Int32.ofNat (own_n3 I3))), .val (.int (Int32.ofNat E3)), .unset, .unset, .unset, .unset, .unset, .unset, .unset, .unset, .unset]) rfl k) ?_
  show own_G _ _ _ _ (T117.setTop (mkF m 180 #[.val (.int p0), .val (.int p1), .val (.int p2), .val (.int p3), .val (.ref b1), .val (.ref b25), .val (.ref b49), .val (.ref b73), .val (.ref b97), .val (.int (Int32.ofNat I1)), .val (.int (Int32.ofNat (own_n1 I1))), .val (.int (Int32.ofNat E1)), .val (.int (Int32.ofNat (own_n2 I2))), .val (.int (Int32.ofNat E2)), .val (.int (Int32.ofNat (own_n3 I3))), .val (.int (Int32.ofNat E3)), .unset, .unset, .unset, .unset, .unset, .unset, .unset, .unset, .unset] []))
  refine own_st (fun _ k => XS.aload X117.here hx rfl (hb hby at_180) rfl rfl k) ?_
  show own_G _ _ _ _ (T117.setTop (mkF m 182 #[.val (.int p0), .val (.int p1), .val (.int p2), .val (.int p3), .val (.ref b1), .val (.ref b25), .val (.ref b49), .val (.ref b73), .val (.ref b97), .val (.int (Int32.ofNat I1)), .val (.int (Int32.ofNat (own_n1 I1))), .val (.int (Int32.ofNat E1)), .val (.int (Int32.ofNat (own_n2 I2))), .val (.int (Int32.ofNat E2)), .val (.int (Int32.ofNat (own_n3 I3))), .val (.int (Int32.ofNat E3)), .unset, .unset, .unset, .unset, .unset, .unset, .unset, .unset, .unset] [(.ref b97)]))
  refine own_st (fun _ k => XS.iloadN X117.here hx rfl (hb hby at_182) rfl k) ?_
  show own_G _ _ _ _ (T117.setTop (mkF m 183 #[.val (.int p0), .val (.int p1), .val (.int p2), .val (.int p3), .val (.ref b1), .val (.ref b25), .val (.ref b49), .val (.ref b73), .val (.ref b97), .val (.int (Int32.ofNat I1)), .val (.int (Int32.ofNat (own_n1 I1))), .val (.int (Int32.ofNat E1)), .val (.int (Int32.ofNat (own_n2 I2))), .val (.int (Int32.ofNat E2)), .val (.int (Int32.ofNat (own_n3 I3))), .val (.int (Int32.ofNat E3)), .unset, .unset, .unset, .unset, .unset, .unset, .unset, .unset, .unset] [(.int p3), (.ref b97)]))
  refine own_st (fun _ k => XS.iconst X117.here hx rfl (hb hby at_183) k) ?_
  show own_G _ _ _ _ (T117.setTop (mkF m 184 #[.val (.int p0), .val (.int p1), .val (.int p2), .val (.int p3), .val (.ref b1), .val (.ref b25), .val (.ref b49), .val (.ref b73), .val (.ref b97), .val (.int (Int32.ofNat I1)), .val (.int (Int32.ofNat (own_n1 I1))), .val (.int (Int32.ofNat E1)), .val (.int (Int32.ofNat (own_n2 I2))), .val (.int (Int32.ofNat E2)), .val (.int (Int32.ofNat (own_n3 I3))), .val (.int (Int32.ofNat E3)), .unset, .unset, .unset, .unset, .unset, .unset, .unset, .unset, .unset] [(.int (3 : Int32)), (.int p3), (.ref b97)]))
  refine own_st (fun _ k => XS.iand X117.here hx rfl (hb hby at_184) rfl k) ?_
  show own_G _ _ _ _ (T117.setTop (mkF m 185 #[.val (.int p0), .val (.int p1), .val (.int p2), .val (.int p3), .val (.ref b1), .val (.ref b25), .val (.ref b49), .val (.ref b73), .val (.ref b97), .val (.int (Int32.ofNat I1)), .val (.int (Int32.ofNat (own_n1 I1))), .val (.int (Int32.ofNat E1)), .val (.int (Int32.ofNat (own_n2 I2))), .val (.int (Int32.ofNat E2)), .val (.int (Int32.ofNat (own_n3 I3))), .val (.int (Int32.ofNat E3)), .unset, .unset, .unset, .unset, .unset, .unset, .unset, .unset, .unset] [(.int (p3 &&& (3 : Int32))), (.ref b97)]))
  rw [eI4]
  show own_G _ _ _ _ (T117.setTop (mkF m 185 #[.val (.int p0), .val (.int p1), .val (.int p2), .val (.int p3), .val (.ref b1), .val (.ref b25), .val (.ref b49), .val (.ref b73), .val (.ref b97), .val (.int (Int32.ofNat I1)), .val (.int (Int32.ofNat (own_n1 I1))), .val (.int (Int32.ofNat E1)), .val (.int (Int32.ofNat (own_n2 I2))), .val (.int (Int32.ofNat E2)), .val (.int (Int32.ofNat (own_n3 I3))), .val (.int (Int32.ofNat E3)), .unset, .unset, .unset, .unset, .unset, .unset, .unset, .unset, .unset] [(.int (Int32.ofNat I4)), (.ref b97)]))
  obtain ⟨cl129, Ar129, qk129, Sz129, Mz129, Hz129, Uz129⟩ := id Vt4
  refine own_st (X117.iaload hx (j := (Int32.ofNat I4)) (v := (.int (Int32.ofNat (own_n4 I4)))) (by rw [e117]; exact Ar129.1) (State.isArrayOf_alike hZ.alike Ar129.2.1) Ar129.2.2 (own_in (n := 4) Sz129 hI4 (by decide)) (own_get (f := fun j => Int32.ofNat (own_n4 j)) (N := 4) Sz129 Hz129 hI4 (by decide) (by decide)) (g := (mkF m 185 #[.val (.int p0), .val (.int p1), .val (.int p2), .val (.int p3), .val (.ref b1), .val (.ref b25), .val (.ref b49), .val (.ref b73), .val (.ref b97), .val (.int (Int32.ofNat I1)), .val (.int (Int32.ofNat (own_n1 I1))), .val (.int (Int32.ofNat E1)), .val (.int (Int32.ofNat (own_n2 I2))), .val (.int (Int32.ofNat E2)), .val (.int (Int32.ofNat (own_n3 I3))), .val (.int (Int32.ofNat E3)), .unset, .unset, .unset, .unset, .unset, .unset, .unset, .unset, .unset] [(.int (Int32.ofNat I4)), (.ref b97)])) rfl rfl (hb hby at_185)) ?_
  show own_G _ _ _ _ (T117.setTop (mkF m 186 #[.val (.int p0), .val (.int p1), .val (.int p2), .val (.int p3), .val (.ref b1), .val (.ref b25), .val (.ref b49), .val (.ref b73), .val (.ref b97), .val (.int (Int32.ofNat I1)), .val (.int (Int32.ofNat (own_n1 I1))), .val (.int (Int32.ofNat E1)), .val (.int (Int32.ofNat (own_n2 I2))), .val (.int (Int32.ofNat E2)), .val (.int (Int32.ofNat (own_n3 I3))), .val (.int (Int32.ofNat E3)), .unset, .unset, .unset, .unset, .unset, .unset, .unset, .unset, .unset] [(.int (Int32.ofNat (own_n4 I4)))]))
  refine own_st (fun _ k => XS.istore X117.here hx rfl (hb hby at_186) rfl (l' := #[.val (.int p0), .val (.int p1), .val (.int p2), .val (.int p3), .val (.ref b1), .val (.ref b25), .val (.ref b49), .val (.ref b73), .val (.ref b97), .val (.int (Int32.ofNat I1)), .val (.int (Int32.ofNat (own_n1 I1))), .val (.int (Int32.ofNat E1)), .val (.int (Int32.ofNat (own_n2 I2))), .val (.int (Int32.ofNat E2)), .val (.int (Int32.ofNat (own_n3 I3))), .val (.int (Int32.ofNat E3)), .val (.int (Int32.ofNat (own_n4 I4))), .unset, .unset, .unset, .unset, .unset, .unset, .unset, .unset]) rfl k) ?_
  show own_G _ _ _ _ (T117.setTop (mkF m 188 #[.val (.int p0), .val (.int p1), .val (.int p2), .val (.int p3), .val (.ref b1), .val (.ref b25), .val (.ref b49), .val (.ref b73), .val (.ref b97), .val (.int (Int32.ofNat I1)), .val (.int (Int32.ofNat (own_n1 I1))), .val (.int (Int32.ofNat E1)), .val (.int (Int32.ofNat (own_n2 I2))), .val (.int (Int32.ofNat E2)), .val (.int (Int32.ofNat (own_n3 I3))), .val (.int (Int32.ofNat E3)), .val (.int (Int32.ofNat (own_n4 I4))), .unset, .unset, .unset, .unset, .unset, .unset, .unset, .unset] []))
  refine own_st (fun _ k => XS.iloadN X117.here hx rfl (hb hby at_188) rfl k) ?_
  show own_G _ _ _ _ (T117.setTop (mkF m 189 #[.val (.int p0), .val (.int p1), .val (.int p2), .val (.int p3), .val (.ref b1), .val (.ref b25), .val (.ref b49), .val (.ref b73), .val (.ref b97), .val (.int (Int32.ofNat I1)), .val (.int (Int32.ofNat (own_n1 I1))), .val (.int (Int32.ofNat E1)), .val (.int (Int32.ofNat (own_n2 I2))), .val (.int (Int32.ofNat E2)), .val (.int (Int32.ofNat (own_n3 I3))), .val (.int (Int32.ofNat E3)), .val (.int (Int32.ofNat (own_n4 I4))), .unset, .unset, .unset, .unset, .unset, .unset, .unset, .unset] [(.int p3)]))
  refine own_st (fun _ k => XS.iconst X117.here hx rfl (hb hby at_189) k) ?_
  show own_G _ _ _ _ (T117.setTop (mkF m 190 #[.val (.int p0), .val (.int p1), .val (.int p2), .val (.int p3), .val (.ref b1), .val (.ref b25), .val (.ref b49), .val (.ref b73), .val (.ref b97), .val (.int (Int32.ofNat I1)), .val (.int (Int32.ofNat (own_n1 I1))), .val (.int (Int32.ofNat E1)), .val (.int (Int32.ofNat (own_n2 I2))), .val (.int (Int32.ofNat E2)), .val (.int (Int32.ofNat (own_n3 I3))), .val (.int (Int32.ofNat E3)), .val (.int (Int32.ofNat (own_n4 I4))), .unset, .unset, .unset, .unset, .unset, .unset, .unset, .unset] [(.int (2 : Int32)), (.int p3)]))
  refine own_st (fun _ k => XS.iushr X117.here hx rfl (hb hby at_190) rfl k) ?_
  show own_G _ _ _ _ (T117.setTop (mkF m 191 #[.val (.int p0), .val (.int p1), .val (.int p2), .val (.int p3), .val (.ref b1), .val (.ref b25), .val (.ref b49), .val (.ref b73), .val (.ref b97), .val (.int (Int32.ofNat I1)), .val (.int (Int32.ofNat (own_n1 I1))), .val (.int (Int32.ofNat E1)), .val (.int (Int32.ofNat (own_n2 I2))), .val (.int (Int32.ofNat E2)), .val (.int (Int32.ofNat (own_n3 I3))), .val (.int (Int32.ofNat E3)), .val (.int (Int32.ofNat (own_n4 I4))), .unset, .unset, .unset, .unset, .unset, .unset, .unset, .unset] [(.int ((p3.toUInt32 >>> ((2 : Int32) &&& 31).toUInt32).toInt32))]))
  refine own_st (fun _ k => XS.iconst X117.here hx rfl (hb hby at_191) k) ?_
  show own_G _ _ _ _ (T117.setTop (mkF m 192 #[.val (.int p0), .val (.int p1), .val (.int p2), .val (.int p3), .val (.ref b1), .val (.ref b25), .val (.ref b49), .val (.ref b73), .val (.ref b97), .val (.int (Int32.ofNat I1)), .val (.int (Int32.ofNat (own_n1 I1))), .val (.int (Int32.ofNat E1)), .val (.int (Int32.ofNat (own_n2 I2))), .val (.int (Int32.ofNat E2)), .val (.int (Int32.ofNat (own_n3 I3))), .val (.int (Int32.ofNat E3)), .val (.int (Int32.ofNat (own_n4 I4))), .unset, .unset, .unset, .unset, .unset, .unset, .unset, .unset] [(.int (1 : Int32)), (.int ((p3.toUInt32 >>> ((2 : Int32) &&& 31).toUInt32).toInt32))]))
  refine own_st (fun _ k => XS.iand X117.here hx rfl (hb hby at_192) rfl k) ?_
  show own_G _ _ _ _ (T117.setTop (mkF m 193 #[.val (.int p0), .val (.int p1), .val (.int p2), .val (.int p3), .val (.ref b1), .val (.ref b25), .val (.ref b49), .val (.ref b73), .val (.ref b97), .val (.int (Int32.ofNat I1)), .val (.int (Int32.ofNat (own_n1 I1))), .val (.int (Int32.ofNat E1)), .val (.int (Int32.ofNat (own_n2 I2))), .val (.int (Int32.ofNat E2)), .val (.int (Int32.ofNat (own_n3 I3))), .val (.int (Int32.ofNat E3)), .val (.int (Int32.ofNat (own_n4 I4))), .unset, .unset, .unset, .unset, .unset, .unset, .unset, .unset] [(.int (((p3.toUInt32 >>> ((2 : Int32) &&& 31).toUInt32).toInt32) &&& (1 : Int32)))]))
  obtain ⟨E4, hE4, eE4⟩ := own_mask (x := ((p3.toUInt32 >>> ((2 : Int32) &&& 31).toUInt32).toInt32)) (m := 1) 1 (by decide) rfl
  rw [eE4]
  show own_G _ _ _ _ (T117.setTop (mkF m 193 #[.val (.int p0), .val (.int p1), .val (.int p2), .val (.int p3), .val (.ref b1), .val (.ref b25), .val (.ref b49), .val (.ref b73), .val (.ref b97), .val (.int (Int32.ofNat I1)), .val (.int (Int32.ofNat (own_n1 I1))), .val (.int (Int32.ofNat E1)), .val (.int (Int32.ofNat (own_n2 I2))), .val (.int (Int32.ofNat E2)), .val (.int (Int32.ofNat (own_n3 I3))), .val (.int (Int32.ofNat E3)), .val (.int (Int32.ofNat (own_n4 I4))), .unset, .unset, .unset, .unset, .unset, .unset, .unset, .unset] [(.int (Int32.ofNat E4))]))
  have pp1 := own_p1 hI1
  obtain ⟨P1, eP1⟩ : ∃ z, own_n1 I1 = z := ⟨_, rfl⟩
  rw [eP1] at hb1 pp1
  rw [eP1]
  show own_G _ _ _ _ (T117.setTop (mkF m 193 #[.val (.int p0), .val (.int p1), .val (.int p2), .val (.int p3), .val (.ref b1), .val (.ref b25), .val (.ref b49), .val (.ref b73), .val (.ref b97), .val (.int (Int32.ofNat I1)), .val (.int (Int32.ofNat (P1))), .val (.int (Int32.ofNat E1)), .val (.int (Int32.ofNat (own_n2 I2))), .val (.int (Int32.ofNat E2)), .val (.int (Int32.ofNat (own_n3 I3))), .val (.int (Int32.ofNat E3)), .val (.int (Int32.ofNat (own_n4 I4))), .unset, .unset, .unset, .unset, .unset, .unset, .unset, .unset] [(.int (Int32.ofNat E4))]))
  have pp2 := own_p2 hI2
  obtain ⟨P2, eP2⟩ : ∃ z, own_n2 I2 = z := ⟨_, rfl⟩
  rw [eP2] at hb2 pp2
  rw [eP2]
  show own_G _ _ _ _ (T117.setTop (mkF m 193 #[.val (.int p0), .val (.int p1), .val (.int p2), .val (.int p3), .val (.ref b1), .val (.ref b25), .val (.ref b49), .val (.ref b73), .val (.ref b97), .val (.int (Int32.ofNat I1)), .val (.int (Int32.ofNat (P1))), .val (.int (Int32.ofNat E1)), .val (.int (Int32.ofNat (P2))), .val (.int (Int32.ofNat E2)), .val (.int (Int32.ofNat (own_n3 I3))), .val (.int (Int32.ofNat E3)), .val (.int (Int32.ofNat (own_n4 I4))), .unset, .unset, .unset, .unset, .unset, .unset, .unset, .unset] [(.int (Int32.ofNat E4))]))
  have pp3 := own_p3 hI3
  obtain ⟨P3, eP3⟩ : ∃ z, own_n3 I3 = z := ⟨_, rfl⟩
  rw [eP3] at hb3 pp3
  rw [eP3]
  show own_G _ _ _ _ (T117.setTop (mkF m 193 #[.val (.int p0), .val (.int p1), .val (.int p2), .val (.int p3), .val (.ref b1), .val (.ref b25), .val (.ref b49), .val (.ref b73), .val (.ref b97), .val (.int (Int32.ofNat I1)), .val (.int (Int32.ofNat (P1))), .val (.int (Int32.ofNat E1)), .val (.int (Int32.ofNat (P2))), .val (.int (Int32.ofNat E2)), .val (.int (Int32.ofNat (P3))), .val (.int (Int32.ofNat E3)), .val (.int (Int32.ofNat (own_n4 I4))), .unset, .unset, .unset, .unset, .unset, .unset, .unset, .unset] [(.int (Int32.ofNat E4))]))
  have pp4 := own_p4 hI4
  obtain ⟨P4, eP4⟩ : ∃ z, own_n4 I4 = z := ⟨_, rfl⟩
  rw [eP4] at hb4 pp4
  rw [eP4]
  show own_G _ _ _ _ (T117.setTop (mkF m 193 #[.val (.int p0), .val (.int p1), .val (.int p2), .val (.int p3), .val (.ref b1), .val (.ref b25), .val (.ref b49), .val (.ref b73), .val (.ref b97), .val (.int (Int32.ofNat I1)), .val (.int (Int32.ofNat (P1))), .val (.int (Int32.ofNat E1)), .val (.int (Int32.ofNat (P2))), .val (.int (Int32.ofNat E2)), .val (.int (Int32.ofNat (P3))), .val (.int (Int32.ofNat E3)), .val (.int (Int32.ofNat (P4))), .unset, .unset, .unset, .unset, .unset, .unset, .unset, .unset] [(.int (Int32.ofNat E4))]))
  have qq1 : P1 ^ E1 ≤ 2147483647 := own_mono (by omega) (by omega) hb1.2.2.2.2
  have qq2 : P2 ^ E2 ≤ 2147483647 := own_mono (n := 3) (by omega) (by omega) (own_base hb2.2 (by decide))
  have qq3 : P3 ^ E3 ≤ 2147483647 := own_mono (n := 2) (by omega) (by omega) (own_base hb3.2 (by decide))
  have qq4 : P4 ^ E4 ≤ 2147483647 := own_mono (n := 1) (by omega) (by omega) (own_base hb4.2 (by decide))
  refine own_st (fun _ k => XS.istore X117.here hx rfl (hb hby at_193) rfl (l' := #[.val (.int p0), .val (.int p1), .val (.int p2), .val (.int p3), .val (.ref b1), .val (.ref b25), .val (.ref b49), .val (.ref b73), .val (.ref b97), .val (.int (Int32.ofNat I1)), .val (.int (Int32.ofNat (P1))), .val (.int (Int32.ofNat E1)), .val (.int (Int32.ofNat (P2))), .val (.int (Int32.ofNat E2)), .val (.int (Int32.ofNat (P3))), .val (.int (Int32.ofNat E3)), .val (.int (Int32.ofNat (P4))), .val (.int (Int32.ofNat E4)), .unset, .unset, .unset, .unset, .unset, .unset, .unset]) rfl k) ?_
  show own_G _ _ _ _ (T117.setTop (mkF m 195 #[.val (.int p0), .val (.int p1), .val (.int p2), .val (.int p3), .val (.ref b1), .val (.ref b25), .val (.ref b49), .val (.ref b73), .val (.ref b97), .val (.int (Int32.ofNat I1)), .val (.int (Int32.ofNat (P1))), .val (.int (Int32.ofNat E1)), .val (.int (Int32.ofNat (P2))), .val (.int (Int32.ofNat E2)), .val (.int (Int32.ofNat (P3))), .val (.int (Int32.ofNat E3)), .val (.int (Int32.ofNat (P4))), .val (.int (Int32.ofNat E4)), .unset, .unset, .unset, .unset, .unset, .unset, .unset] []))
  exact own_lw0 P1 E1 P2 E2 P3 E3 P4 E4 _ _ _ _ _ _ _ _ _ _ hx hZ hw hby hml hown X117 e117 N117 O119 hret hlk (by decide) (by decide) ⟨hb1.1, hb1.2.1⟩ hb2 hb3 hb4 pp1 pp2 pp3 pp4 qq1 qq2 qq3 qq4 (Nat.lt_of_lt_of_le hE1 (Nat.le_trans hb1.2.2.2.1 (by decide))) hE2 hE3 hE4
theorem comes_1 {Post : Tables → Env → Array Value → State → Outcome → State → Prop} (hpost : ∀ tb e args s v u, (limb_1_1.after args s (.returned v) u = true ∧ limb_1_2.after args s (.returned v) u = true ∧ True) → FrameEnd s (.returned v) u (Jvm.fieldLocs frame_1_writes args s ++ Jvm.arrayLocs frame_1_arrays args s ++ Jvm.staticLocs frame_1_statics s) 32 320 → Post tb e args s (.returned v) u) :
    ArmFor flags0 classFile x code maxLocals ret World_1 tables_1 room_1 Calls_1 rest_1 Pre_1 Post := by
  intro l hfl _ _ p e ha hc hk s m args below hf hA hF happ hP
  obtain ⟨hcalls, hrest, hpre⟩ := hP
  obtain ⟨-, -, -, hnamed, -, -, -, hat⟩ := (Spec.applies_iff hf).mp happ
  obtain ⟨hg, hn⟩ := and_e (Cond.before_iff.mp (show (Jvm.Cond.and given_1 narrow_1).before args s = true from hpre))
  obtain ⟨hq0, hr0⟩ := and_e hg
  obtain ⟨hq1, hr1⟩ := and_e hr0
  obtain ⟨hq2, hr2⟩ := and_e hr1
  obtain ⟨hq3, hr3⟩ := and_e hr2
  obtain ⟨w0, w1, w2, w3, rfl⟩ : ∃ w0 w1 w2 w3 : Value, args = #[w0, w1, w2, w3] := by
    have hs : args.size = 4 := by simpa [Cond.value, given_1] using hq0
    obtain ⟨L⟩ := args
    match L, hs with
    | [w0, w1, w2, w3], _ => exact ⟨w0, w1, w2, w3, rfl⟩
  have hw := fun d (hd : d ∈ tables_1) => atoms_spec (ws := Jvm.Cond.code x code maxLocals ret :: tables_1) hat d (List.mem_cons_of_mem _ hd)
  have hfit : Fit s := fun {y c} hc i hi => by
    obtain ⟨ha, rfl⟩ := Array.getElem?_eq_some_iff.mp hc
    have q := List.all_eq_true.mp ((Array.all_eq_true_iff_forall_mem.mp hF) _ (Array.getElem_mem ha)) i (List.mem_range.mpr hi)
    simpa [Array.getElem?_eq_getElem hi] using q
  obtain ⟨p0, ep0⟩ := is_v hq1
  obtain rfl : w0 = (.int p0) := Option.some.inj ep0
  obtain ⟨p1, ep1⟩ := is_v hq2
  obtain rfl : w1 = (.int p1) := Option.some.inj ep1
  obtain ⟨p2, ep2⟩ := is_v hq3
  obtain rfl : w2 = (.int p2) := Option.some.inj ep2
  obtain ⟨p3, ep3⟩ := is_v hr3
  obtain rfl : w3 = (.int p3) := Option.some.inj ep3
  obtain ⟨n, o, h1, h2, h3, _, L, rfl, ⟨rfl, N⟩, hq⟩ := own_law l s _ hw tables_1 p0 p1 p2 p3 s.heap (Old.start s) p e ha hc hk s m _ below hf ((Spec.applies_iff_loose hf).mp happ).1 ⟨rfl, State.Warmed39.refl s, rfl⟩ trivial
  refine ⟨n, _, h1, h2, h3, hpost _ _ _ _ _ _ ⟨Cond.after_iff.mpr rfl, Cond.after_iff.mpr (eq_i res_at (Term.int_eval (1)) rfl), trivial⟩ ⟨hq.1, hq.2.1, (hq.2.2.sift fun y hy => Or.inr (N y hy)).mono (by decide) (by decide)⟩⟩
theorem main_1_1 : Claimed_1_1 := comes_1 fun _ _ _ _ _ _ h hF => ⟨h.1, hF⟩
theorem main_1_2 : Claimed_1_2 := comes_1 fun _ _ _ _ _ _ h hF => ⟨h.2.1, hF⟩
end Jvm.Pilot.@@N@@
namespace Jvm.Pilot.@@N@@
open Jvm Jvm.ClassFile Sem Op Lib Jvm.Free Jvm.Stand Jvm.Pilot.@@N@@.Jvm.D
/-! MADE BY PROGRAM (witnessworld.py) out of the Statement's table words and the real class files: 15 classes; the members and pool entries that the words name. The judged class is class 1, her method 3. -/
namespace start1
open Jvm.ClassFile
def u (s : String) : CpInfo := .utf8 (stringToUtf16 s)
/-- a pool by its gaps: so many unusable entries, then the entry; so many at the end -/
def gap : Nat → List CpInfo → List CpInfo
  | 0, r => r
  | n + 1, r => .unusable :: gap n r
def poolList (es : List (Nat × CpInfo)) (last : Nat) : List CpInfo := es.foldr (fun e r => gap e.1 (e.2 :: r)) (gap last [])
def pool (es : List (Nat × CpInfo)) (last : Nat) : Array CpInfo := ⟨poolList es last⟩
def fileOf (pool : Array CpInfo) (this : Nat) (attrs : Array Attribute := #[]) (ms : Array MethodInfo := #[]) (fl : Nat := 33) (sup : Nat := 0) (ifs : Array Nat := #[]) (fds : Array FieldInfo := #[]) : ClassFile where
  minorVersion := 0
  majorVersion := 65
  constantPool := pool
  accessFlags := fl
  thisClass := this
  superClass := sup
  interfaces := ifs
  fields := fds
  methods := ms
  attributes := attrs
def plain (name : String) (sup : Option ClassId) : Class where
  name := name
  kind := .ordinary
  loader := none
  accessFlags := 33
  super := sup
  interfaces := #[]
  cf := none
  fields := #[]
  methods := #[]
  instanceTypes := #[]
  staticTypes := #[]
  resolved := #[]
  callSites := []
  init := .initialized
  statics := none
  mirror := none

def pool0 : Array CpInfo := pool [(5, u "<init>"), (0, u "()V"), (1, .class_ 10), (1, u "java/lang/Object")] 113

def k0c0 : Code := { maxStack := 0, maxLocals := 1, code := object_method_1_code, exceptionTable := #[], attributes := #[] }
def k0m0 : Method := { name := "<init>", desc := "()V", sig := { parameters := [], returnType := none }, accessFlags := 1, code := some k0c0 }
/-- java/lang/Object -/
def k0 : Class := { plain "java/lang/Object" none with
  accessFlags := 33
  interfaces := #[]
  cf := some (fileOf pool0 8 #[] #[{ accessFlags := 1, nameIndex := 5, descriptorIndex := 6, attributes := #[] }] 33 0 #[] #[])
  fields := #[]
  methods := #[k0m0]
  instanceTypes := #[]
  staticTypes := #[]
  resolved := Array.replicate 124 none
  statics := none }

def pool1 : Array CpInfo := pool [(2, .class_ 4), (1, u "java/lang/Object"), (0, u "<init>"), (0, u "()V"), (0, .long 2147483647), (1, .long 2147483648), (1, .integer 46337), (0, .integer 46349), (0, .integer 65537), (0, .integer 999983), (0, .integer 2147483647), (0, .methodref 17 18), (0, .class_ 19), (0, .nameAndType 20 21), (0, u "com/example/libfacet/libfacet/exact/FactorizationOfPinLaw"), (0, u "pow"), (0, u "(JI)J"), (0, .methodref 17 23), (0, .nameAndType 24 25), (0, u "mul"), (0, u "(JJ)J"), (0, .methodref 27 28), (0, .class_ 29), (0, .nameAndType 30 31), (0, u "com/example/libfacet/libfacet/exact/Factorization"), (0, u "of"), (0, u "(I)Lcom/example/libfacet/libfacet/exact/Factorization;"), (0, .methodref 27 33), (0, .nameAndType 34 35), (0, u "size"), (0, u "()I"), (0, .methodref 27 37), (0, .nameAndType 38 39), (0, u "prime"), (0, u "(I)I"), (0, .methodref 27 41), (0, .nameAndType 42 43), (0, u "exponent"), (0, u "(I)J"), (3, u "law"), (0, u "(IIII)Z")] 6

def k1m0 : Method := { name := "<init>", desc := "()V", sig := { parameters := [], returnType := none }, accessFlags := 1, code := none }
def k1c1 : Code := { maxStack := 4, maxLocals := 7, code := method_2_code, exceptionTable := #[], attributes := #[] }
def k1m1 : Method := { name := "pow", desc := "(JI)J", sig := { parameters := [.long, .int], returnType := some .long }, accessFlags := 10, code := some k1c1 }
def k1c2 : Code := { maxStack := 4, maxLocals := 6, code := method_3_code, exceptionTable := #[], attributes := #[] }
def k1m2 : Method := { name := "mul", desc := "(JJ)J", sig := { parameters := [.long, .long], returnType := some .long }, accessFlags := 10, code := some k1c2 }
def k1c3 : Code := { maxStack := 5, maxLocals := 25, code := code, exceptionTable := #[], attributes := #[] }
def k1m3 : Method := { name := "law", desc := "(IIII)Z", sig := { parameters := [.int, .int, .int, .int], returnType := some .boolean }, accessFlags := 9, code := some k1c3 }
/-- com/example/libfacet/libfacet/exact/FactorizationOfPinLaw -/
def k1 : Class := { plain "com/example/libfacet/libfacet/exact/FactorizationOfPinLaw" (some 0) with
  accessFlags := 49
  interfaces := #[]
  cf := some (fileOf pool1 17 #[] #[{ accessFlags := 1, nameIndex := 5, descriptorIndex := 6, attributes := #[] }, { accessFlags := 10, nameIndex := 20, descriptorIndex := 21, attributes := #[] }, { accessFlags := 10, nameIndex := 24, descriptorIndex := 25, attributes := #[] }, { accessFlags := 9, nameIndex := 47, descriptorIndex := 48, attributes := #[] }] 49 2 #[] #[])
  fields := #[]
  methods := #[k1m0, k1m1, k1m2, k1m3]
  instanceTypes := #[]
  staticTypes := #[]
  resolved := Array.replicate 55 none
  statics := none }

def pool2 : Array CpInfo := pool [(1, .methodref 2 3), (0, .class_ 4), (0, .nameAndType 5 6), (0, u "java/lang/Object"), (0, u "<init>"), (0, u "()V"), (0, .fieldref 8 9), (0, .class_ 10), (0, .nameAndType 11 12), (0, u "com/example/libfacet/libfacet/exact/Factorization"), (0, u "primes"), (0, u "[I"), (0, .fieldref 8 14), (0, .nameAndType 15 16), (0, u "exponents"), (0, u "[J"), (0, .methodref 18 19), (0, .class_ 20), (0, .nameAndType 21 22), (0, u "java/util/Arrays"), (0, u "hashCode"), (0, u "([I)I"), (0, .methodref 18 24), (0, .nameAndType 21 25), (0, u "([J)I"), (0, .fieldref 8 27), (0, .nameAndType 28 29), (0, u "hash"), (0, u "I"), (11, .methodref 18 42), (0, .nameAndType 43 44), (0, u "copyOf"), (0, u "([II)[I"), (0, .methodref 18 46), (0, .nameAndType 43 47), (0, u "([JI)[J"), (0, .methodref 8 49), (0, .nameAndType 5 50), (0, u "([I[J)V"), (48, u "of"), (0, u "(I)Lcom/example/libfacet/libfacet/exact/Factorization;"), (5, u "size"), (0, u "()I"), (0, u "prime"), (0, u "(I)I"), (0, u "exponent"), (0, u "(I)J")] 19

def k2c0 : Code := { maxStack := 3, maxLocals := 3, code := prog_39_method_1_code, exceptionTable := #[], attributes := #[] }
def k2m0 : Method := { name := "<init>", desc := "([I[J)V", sig := { parameters := [(.array .int), (.array .long)], returnType := none }, accessFlags := 2, code := some k2c0 }
def k2c1 : Code := { maxStack := 6, maxLocals := 6, code := prog_39_method_2_code, exceptionTable := #[], attributes := #[] }
def k2m1 : Method := { name := "of", desc := "(I)Lcom/example/libfacet/libfacet/exact/Factorization;", sig := { parameters := [.int], returnType := some (.object "com/example/libfacet/libfacet/exact/Factorization") }, accessFlags := 9, code := some k2c1 }
def k2c2 : Code := { maxStack := 1, maxLocals := 1, code := prog_39_method_4_code, exceptionTable := #[], attributes := #[] }
def k2m2 : Method := { name := "size", desc := "()I", sig := { parameters := [], returnType := some .int }, accessFlags := 1, code := some k2c2 }
def k2c3 : Code := { maxStack := 2, maxLocals := 2, code := prog_39_method_5_code, exceptionTable := #[], attributes := #[] }
def k2m3 : Method := { name := "prime", desc := "(I)I", sig := { parameters := [.int], returnType := some .int }, accessFlags := 1, code := some k2c3 }
def k2c4 : Code := { maxStack := 2, maxLocals := 2, code := prog_39_method_6_code, exceptionTable := #[], attributes := #[] }
def k2m4 : Method := { name := "exponent", desc := "(I)J", sig := { parameters := [.int], returnType := some .long }, accessFlags := 1, code := some k2c4 }
/-- com/example/libfacet/libfacet/exact/Factorization -/
def k2 : Class := { plain "com/example/libfacet/libfacet/exact/Factorization" (some 0) with
  accessFlags := 49
  interfaces := #[]
  cf := some (fileOf pool2 8 #[] #[{ accessFlags := 2, nameIndex := 5, descriptorIndex := 50, attributes := #[] }, { accessFlags := 9, nameIndex := 99, descriptorIndex := 100, attributes := #[] }, { accessFlags := 1, nameIndex := 106, descriptorIndex := 107, attributes := #[] }, { accessFlags := 1, nameIndex := 108, descriptorIndex := 109, attributes := #[] }, { accessFlags := 1, nameIndex := 110, descriptorIndex := 111, attributes := #[] }] 49 2 #[] #[{ accessFlags := 18, nameIndex := 11, descriptorIndex := 12, attributes := #[] }, { accessFlags := 18, nameIndex := 15, descriptorIndex := 16, attributes := #[] }, { accessFlags := 18, nameIndex := 28, descriptorIndex := 29, attributes := #[] }])
  fields := #[{ name := "primes", type := (.array .int), accessFlags := 18, slot := 0, constantValue := 0 }, { name := "exponents", type := (.array .long), accessFlags := 18, slot := 1, constantValue := 0 }, { name := "hash", type := .int, accessFlags := 18, slot := 2, constantValue := 0 }]
  methods := #[k2m0, k2m1, k2m2, k2m3, k2m4]
  instanceTypes := #[(.array .int), (.array .long), .int]
  staticTypes := #[]
  resolved := Array.replicate 131 none
  statics := none }

def pool3 : Array CpInfo := pool [(2, .class_ 4), (1, u "java/lang/Object"), (0, u "<init>"), (0, u "()V"), (7, .class_ 16), (1, u "java/util/Arrays"), (57, .class_ 76), (1, u "java/util/Arrays$NaturalOrder"), (36, .class_ 115), (1, u "java/util/Arrays$LegacyMergeSort"), (1, u "Z"), (32, .methodref 151 152), (0, .class_ 153), (0, .nameAndType 154 155), (0, u "java/lang/System"), (0, u "arraycopy"), (0, u "(Ljava/lang/Object;ILjava/lang/Object;II)V"), (90, .class_ 248), (1, u "jdk/internal/util/ArraysSupport"), (53, u "copyOf"), (1, .methodref 305 306), (0, .class_ 307), (0, .nameAndType 308 309), (0, u "java/lang/Math"), (0, u "min"), (0, u "(II)I"), (65, .class_ 376), (0, u "java/util/Arrays$ArrayList"), (2, .methodref 246 380), (0, .nameAndType 381 382), (0, u "vectorizedHashCode"), (0, u "(Ljava/lang/Object;IIII)I"), (2, u "hashCode"), (22, u "([I)I"), (5, u "([J)I"), (30, u "$assertionsDisabled"), (269, u "MIN_ARRAY_SORT_GRAN"), (0, u "I"), (2, u "INSERTIONSORT_THRESHOLD"), (151, u "([II)[I"), (0, u "([JI)[J"), (102, .class_ 976), (0, u "java/util/Arrays$ArrayItr")] 52

def k3m0 : Method := { name := "<init>", desc := "()V", sig := { parameters := [], returnType := none }, accessFlags := 2, code := none }
def k3c1 : Code := { maxStack := 6, maxLocals := 3, code := jdk_65_method_123_code, exceptionTable := #[], attributes := #[] }
def k3m1 : Method := { name := "copyOf", desc := "([II)[I", sig := { parameters := [(.array .int), .int], returnType := some (.array .int) }, accessFlags := 9, code := some k3c1 }
def k3c2 : Code := { maxStack := 6, maxLocals := 3, code := jdk_65_method_124_code, exceptionTable := #[], attributes := #[] }
def k3m2 : Method := { name := "copyOf", desc := "([JI)[J", sig := { parameters := [(.array .long), .int], returnType := some (.array .long) }, accessFlags := 9, code := some k3c2 }
def k3c3 : Code := { maxStack := 5, maxLocals := 8, code := jdk_65_method_149_code, exceptionTable := #[], attributes := #[] }
def k3m3 : Method := { name := "hashCode", desc := "([J)I", sig := { parameters := [(.array .long)], returnType := some .int }, accessFlags := 9, code := some k3c3 }
def k3c4 : Code := { maxStack := 5, maxLocals := 1, code := jdk_65_method_150_code, exceptionTable := #[], attributes := #[] }
def k3m4 : Method := { name := "hashCode", desc := "([I)I", sig := { parameters := [(.array .int)], returnType := some .int }, accessFlags := 9, code := some k3c4 }
/-- java/util/Arrays -/
def k3 : Class := { plain "java/util/Arrays" (some 0) with
  accessFlags := 49
  interfaces := #[]
  cf := some (fileOf pool3 14 #[.nestMembers #[975, 375, 113, 74]] #[{ accessFlags := 2, nameIndex := 5, descriptorIndex := 6, attributes := #[] }, { accessFlags := 9, nameIndex := 302, descriptorIndex := 871, attributes := #[] }, { accessFlags := 9, nameIndex := 302, descriptorIndex := 872, attributes := #[] }, { accessFlags := 9, nameIndex := 385, descriptorIndex := 414, attributes := #[] }, { accessFlags := 9, nameIndex := 385, descriptorIndex := 408, attributes := #[] }] 49 2 #[] #[{ accessFlags := 26, nameIndex := 715, descriptorIndex := 716, attributes := #[] }, { accessFlags := 26, nameIndex := 719, descriptorIndex := 716, attributes := #[] }, { accessFlags := 4120, nameIndex := 445, descriptorIndex := 117, attributes := #[] }])
  fields := #[{ name := "MIN_ARRAY_SORT_GRAN", type := .int, accessFlags := 26, slot := 0, constantValue := 0 }, { name := "INSERTIONSORT_THRESHOLD", type := .int, accessFlags := 26, slot := 1, constantValue := 0 }, { name := "$assertionsDisabled", type := .boolean, accessFlags := 4120, slot := 2, constantValue := 0 }]
  methods := #[k3m0, k3m1, k3m2, k3m3, k3m4]
  instanceTypes := #[]
  staticTypes := #[.int, .int, .boolean]
  resolved := Array.replicate 1029 none
  statics := none }

def pool4 : Array CpInfo := pool [(1, .class_ 2), (0, u "java/lang/Math"), (1, .class_ 6), (1, u "java/lang/Object"), (0, u "<init>"), (0, u "()V"), (89, .class_ 100), (1, u "java/lang/Math$RandomNumberGeneratorHolder"), (71, u "negativeZeroFloatBits"), (0, u "J"), (2, u "negativeZeroDoubleBits"), (24, u "min"), (43, u "$assertionsDisabled"), (0, u "Z"), (88, u "(II)I"), (2, u "twoToTheDoubleScaleDown"), (0, u "D"), (4, u "twoToTheDoubleScaleUp"), (9, u "E"), (3, u "PI"), (2, u "TAU"), (2, u "DEGREES_TO_RADIANS"), (0, u "RADIANS_TO_DEGREES")] 94

def k4m0 : Method := { name := "<init>", desc := "()V", sig := { parameters := [], returnType := none }, accessFlags := 2, code := none }
def k4c1 : Code := { maxStack := 2, maxLocals := 2, code := jdk_29_method_69_code, exceptionTable := #[], attributes := #[] }
def k4m1 : Method := { name := "min", desc := "(II)I", sig := { parameters := [.int, .int], returnType := some .int }, accessFlags := 9, code := some k4c1 }
/-- java/lang/Math -/
def k4 : Class := { plain "java/lang/Math" (some 0) with
  accessFlags := 49
  interfaces := #[]
  cf := some (fileOf pool4 1 #[.nestMembers #[98]] #[{ accessFlags := 2, nameIndex := 7, descriptorIndex := 8, attributes := #[] }, { accessFlags := 9, nameIndex := 201, descriptorIndex := 335, attributes := #[] }] 49 4 #[] #[{ accessFlags := 25, nameIndex := 354, descriptorIndex := 339, attributes := #[] }, { accessFlags := 25, nameIndex := 358, descriptorIndex := 339, attributes := #[] }, { accessFlags := 25, nameIndex := 361, descriptorIndex := 339, attributes := #[] }, { accessFlags := 26, nameIndex := 364, descriptorIndex := 339, attributes := #[] }, { accessFlags := 26, nameIndex := 365, descriptorIndex := 339, attributes := #[] }, { accessFlags := 26, nameIndex := 172, descriptorIndex := 173, attributes := #[] }, { accessFlags := 26, nameIndex := 176, descriptorIndex := 173, attributes := #[] }, { accessFlags := 8, nameIndex := 344, descriptorIndex := 339, attributes := #[] }, { accessFlags := 8, nameIndex := 338, descriptorIndex := 339, attributes := #[] }, { accessFlags := 4120, nameIndex := 245, descriptorIndex := 246, attributes := #[] }])
  fields := #[{ name := "E", type := .double, accessFlags := 25, slot := 0, constantValue := 0 }, { name := "PI", type := .double, accessFlags := 25, slot := 1, constantValue := 0 }, { name := "TAU", type := .double, accessFlags := 25, slot := 2, constantValue := 0 }, { name := "DEGREES_TO_RADIANS", type := .double, accessFlags := 26, slot := 3, constantValue := 0 }, { name := "RADIANS_TO_DEGREES", type := .double, accessFlags := 26, slot := 4, constantValue := 0 }, { name := "negativeZeroFloatBits", type := .long, accessFlags := 26, slot := 5, constantValue := 0 }, { name := "negativeZeroDoubleBits", type := .long, accessFlags := 26, slot := 6, constantValue := 0 }, { name := "twoToTheDoubleScaleUp", type := .double, accessFlags := 8, slot := 7, constantValue := 0 }, { name := "twoToTheDoubleScaleDown", type := .double, accessFlags := 8, slot := 8, constantValue := 0 }, { name := "$assertionsDisabled", type := .boolean, accessFlags := 4120, slot := 9, constantValue := 0 }]
  methods := #[k4m0, k4m1]
  instanceTypes := #[]
  staticTypes := #[.double, .double, .double, .double, .double, .long, .long, .double, .double, .boolean]
  resolved := Array.replicate 460 none
  statics := none }

def pool5 : Array CpInfo := pool [(2, .class_ 4), (1, u "java/lang/Object"), (0, u "<init>"), (0, u "()V"), (1, .class_ 10), (1, u "java/lang/System"), (0, u "allowSecurityManager"), (0, u "I"), (16, u "cons"), (0, u "Ljava/io/Console;"), (77, .class_ 110), (1, u "java/lang/System$CallersHolder"), (43, u "initialErrStream"), (0, u "Ljava/io/PrintStream;"), (19, u "security"), (0, u "Ljava/lang/SecurityManager;"), (31, .class_ 209), (0, u "java/lang/System$1"), (7, u "props"), (0, u "Ljava/util/Properties;"), (2, u "lineSeparator"), (0, u "Ljava/lang/String;"), (96, .class_ 321), (1, u "java/lang/System$LoggerFinder"), (5, .class_ 328), (0, u "java/lang/System$Logger"), (67, u "err"), (2, u "out"), (91, u "notSupportedJnuEncoding"), (15, u "in"), (17, u "initialIn"), (0, u "Ljava/io/InputStream;"), (35, u "bootLayer"), (0, u "Ljava/lang/ModuleLayer;"), (99, .class_ 664), (0, u "java/lang/System$2"), (9, u "NEVER"), (2, u "MAYBE"), (49, u "arraycopy"), (0, u "(Ljava/lang/Object;ILjava/lang/Object;II)V"), (72, .class_ 802), (0, u "java/lang/System$Logger$Level")] 31

def k5m0 : Method := { name := "<init>", desc := "()V", sig := { parameters := [], returnType := none }, accessFlags := 2, code := none }
def k5m1 : Method := { name := "arraycopy", desc := "(Ljava/lang/Object;ILjava/lang/Object;II)V", sig := { parameters := [(.object "java/lang/Object"), .int, (.object "java/lang/Object"), .int, .int], returnType := none }, accessFlags := 265, code := none }
/-- java/lang/System -/
def k5 : Class := { plain "java/lang/System" (some 0) with
  accessFlags := 49
  interfaces := #[]
  cf := some (fileOf pool5 8 #[.nestMembers #[319, 327, 801, 108, 663, 208]] #[{ accessFlags := 2, nameIndex := 5, descriptorIndex := 6, attributes := #[] }, { accessFlags := 265, nameIndex := 727, descriptorIndex := 728, attributes := #[] }] 49 2 #[] #[{ accessFlags := 25, nameIndex := 507, descriptorIndex := 526, attributes := #[] }, { accessFlags := 25, nameIndex := 399, descriptorIndex := 155, attributes := #[] }, { accessFlags := 25, nameIndex := 396, descriptorIndex := 155, attributes := #[] }, { accessFlags := 10, nameIndex := 525, descriptorIndex := 526, attributes := #[] }, { accessFlags := 26, nameIndex := 674, descriptorIndex := 12, attributes := #[] }, { accessFlags := 26, nameIndex := 677, descriptorIndex := 12, attributes := #[] }, { accessFlags := 10, nameIndex := 11, descriptorIndex := 12, attributes := #[] }, { accessFlags := 74, nameIndex := 175, descriptorIndex := 176, attributes := #[] }, { accessFlags := 10, nameIndex := 491, descriptorIndex := 222, attributes := #[] }, { accessFlags := 74, nameIndex := 29, descriptorIndex := 30, attributes := #[] }, { accessFlags := 74, nameIndex := 154, descriptorIndex := 155, attributes := #[] }, { accessFlags := 10, nameIndex := 217, descriptorIndex := 218, attributes := #[] }, { accessFlags := 10, nameIndex := 221, descriptorIndex := 222, attributes := #[] }, { accessFlags := 8, nameIndex := 562, descriptorIndex := 563, attributes := #[] }])
  fields := #[{ name := "in", type := (.object "java/io/InputStream"), accessFlags := 25, slot := 0, constantValue := 0 }, { name := "out", type := (.object "java/io/PrintStream"), accessFlags := 25, slot := 1, constantValue := 0 }, { name := "err", type := (.object "java/io/PrintStream"), accessFlags := 25, slot := 2, constantValue := 0 }, { name := "initialIn", type := (.object "java/io/InputStream"), accessFlags := 10, slot := 3, constantValue := 0 }, { name := "NEVER", type := .int, accessFlags := 26, slot := 4, constantValue := 0 }, { name := "MAYBE", type := .int, accessFlags := 26, slot := 5, constantValue := 0 }, { name := "allowSecurityManager", type := .int, accessFlags := 10, slot := 6, constantValue := 0 }, { name := "security", type := (.object "java/lang/SecurityManager"), accessFlags := 74, slot := 7, constantValue := 0 }, { name := "notSupportedJnuEncoding", type := (.object "java/lang/String"), accessFlags := 10, slot := 8, constantValue := 0 }, { name := "cons", type := (.object "java/io/Console"), accessFlags := 74, slot := 9, constantValue := 0 }, { name := "initialErrStream", type := (.object "java/io/PrintStream"), accessFlags := 74, slot := 10, constantValue := 0 }, { name := "props", type := (.object "java/util/Properties"), accessFlags := 10, slot := 11, constantValue := 0 }, { name := "lineSeparator", type := (.object "java/lang/String"), accessFlags := 10, slot := 12, constantValue := 0 }, { name := "bootLayer", type := (.object "java/lang/ModuleLayer"), accessFlags := 8, slot := 13, constantValue := 0 }]
  methods := #[k5m0, k5m1]
  instanceTypes := #[]
  staticTypes := #[(.object "java/io/InputStream"), (.object "java/io/PrintStream"), (.object "java/io/PrintStream"), (.object "java/io/InputStream"), .int, .int, .int, (.object "java/lang/SecurityManager"), (.object "java/lang/String"), (.object "java/io/Console"), (.object "java/io/PrintStream"), (.object "java/util/Properties"), (.object "java/lang/String"), (.object "java/lang/ModuleLayer")]
  resolved := Array.replicate 834 none
  statics := none }

def pool6 : Array CpInfo := pool [(9, u "<init>"), (6, .class_ 18), (1, u "java/lang/Object"), (0, u "()V"), (1, .class_ 23), (1, u "jdk/internal/util/ArraysSupport"), (0, u "LOG2_ARRAY_LONG_INDEX_SCALE"), (0, u "I"), (2, u "U"), (0, u "Ljdk/internal/misc/Unsafe;"), (8, u "BIG_ENDIAN"), (0, u "Z"), (8, u "LOG2_BYTE_BIT_SIZE"), (4, u "LOG2_ARRAY_INT_INDEX_SCALE"), (19, u "hashCode"), (8, .class_ 83), (0, u "[I"), (0, .methodref 21 85), (0, .nameAndType 73 86), (0, u "(I[III)I"), (21, u "JLA"), (0, u "Ljdk/internal/access/JavaLangAccess;"), (11, u "LOG2_ARRAY_BOOLEAN_INDEX_SCALE"), (9, u "LOG2_ARRAY_BYTE_INDEX_SCALE"), (5, u "LOG2_ARRAY_CHAR_INDEX_SCALE"), (5, u "LOG2_ARRAY_SHORT_INDEX_SCALE"), (18, u "LOG2_ARRAY_FLOAT_INDEX_SCALE"), (24, u "LOG2_ARRAY_DOUBLE_INDEX_SCALE"), (89, u "T_BOOLEAN"), (2, u "T_CHAR"), (1, u "T_FLOAT"), (1, u "T_DOUBLE"), (1, u "T_BYTE"), (1, u "T_SHORT"), (1, u "T_INT"), (1, u "T_LONG"), (1, u "SOFT_MAX_ARRAY_LENGTH"), (26, u "vectorizedHashCode"), (0, u "(Ljava/lang/Object;IIII)I")] 55

def k6m0 : Method := { name := "<init>", desc := "()V", sig := { parameters := [], returnType := none }, accessFlags := 2, code := none }
def k6c1 : Code := { maxStack := 4, maxLocals := 5, code := jdk_48_method_4_code, exceptionTable := #[], attributes := #[] }
def k6m1 : Method := { name := "vectorizedHashCode", desc := "(Ljava/lang/Object;IIII)I", sig := { parameters := [(.object "java/lang/Object"), .int, .int, .int, .int], returnType := some .int }, accessFlags := 9, code := some k6c1 }
def k6c2 : Code := { maxStack := 3, maxLocals := 6, code := jdk_48_method_9_code, exceptionTable := #[], attributes := #[] }
def k6m2 : Method := { name := "hashCode", desc := "(I[III)I", sig := { parameters := [.int, (.array .int), .int, .int], returnType := some .int }, accessFlags := 10, code := some k6c2 }
/-- jdk/internal/util/ArraysSupport -/
def k6 : Class := { plain "jdk/internal/util/ArraysSupport" (some 0) with
  accessFlags := 33
  interfaces := #[]
  cf := some (fileOf pool6 21 #[] #[{ accessFlags := 2, nameIndex := 9, descriptorIndex := 19, attributes := #[] }, { accessFlags := 9, nameIndex := 321, descriptorIndex := 322, attributes := #[] }, { accessFlags := 10, nameIndex := 73, descriptorIndex := 86, attributes := #[] }] 33 16 #[] #[{ accessFlags := 24, nameIndex := 28, descriptorIndex := 29, attributes := #[] }, { accessFlags := 26, nameIndex := 38, descriptorIndex := 39, attributes := #[] }, { accessFlags := 25, nameIndex := 121, descriptorIndex := 25, attributes := #[] }, { accessFlags := 25, nameIndex := 131, descriptorIndex := 25, attributes := #[] }, { accessFlags := 25, nameIndex := 137, descriptorIndex := 25, attributes := #[] }, { accessFlags := 25, nameIndex := 143, descriptorIndex := 25, attributes := #[] }, { accessFlags := 25, nameIndex := 53, descriptorIndex := 25, attributes := #[] }, { accessFlags := 25, nameIndex := 24, descriptorIndex := 25, attributes := #[] }, { accessFlags := 25, nameIndex := 162, descriptorIndex := 25, attributes := #[] }, { accessFlags := 25, nameIndex := 187, descriptorIndex := 25, attributes := #[] }, { accessFlags := 26, nameIndex := 48, descriptorIndex := 25, attributes := #[] }, { accessFlags := 25, nameIndex := 277, descriptorIndex := 25, attributes := #[] }, { accessFlags := 25, nameIndex := 280, descriptorIndex := 25, attributes := #[] }, { accessFlags := 25, nameIndex := 282, descriptorIndex := 25, attributes := #[] }, { accessFlags := 25, nameIndex := 284, descriptorIndex := 25, attributes := #[] }, { accessFlags := 25, nameIndex := 286, descriptorIndex := 25, attributes := #[] }, { accessFlags := 25, nameIndex := 288, descriptorIndex := 25, attributes := #[] }, { accessFlags := 25, nameIndex := 290, descriptorIndex := 25, attributes := #[] }, { accessFlags := 25, nameIndex := 292, descriptorIndex := 25, attributes := #[] }, { accessFlags := 26, nameIndex := 108, descriptorIndex := 109, attributes := #[] }, { accessFlags := 25, nameIndex := 294, descriptorIndex := 25, attributes := #[] }])
  fields := #[{ name := "U", type := (.object "jdk/internal/misc/Unsafe"), accessFlags := 24, slot := 0, constantValue := 0 }, { name := "BIG_ENDIAN", type := .boolean, accessFlags := 26, slot := 1, constantValue := 0 }, { name := "LOG2_ARRAY_BOOLEAN_INDEX_SCALE", type := .int, accessFlags := 25, slot := 2, constantValue := 0 }, { name := "LOG2_ARRAY_BYTE_INDEX_SCALE", type := .int, accessFlags := 25, slot := 3, constantValue := 0 }, { name := "LOG2_ARRAY_CHAR_INDEX_SCALE", type := .int, accessFlags := 25, slot := 4, constantValue := 0 }, { name := "LOG2_ARRAY_SHORT_INDEX_SCALE", type := .int, accessFlags := 25, slot := 5, constantValue := 0 }, { name := "LOG2_ARRAY_INT_INDEX_SCALE", type := .int, accessFlags := 25, slot := 6, constantValue := 0 }, { name := "LOG2_ARRAY_LONG_INDEX_SCALE", type := .int, accessFlags := 25, slot := 7, constantValue := 0 }, { name := "LOG2_ARRAY_FLOAT_INDEX_SCALE", type := .int, accessFlags := 25, slot := 8, constantValue := 0 }, { name := "LOG2_ARRAY_DOUBLE_INDEX_SCALE", type := .int, accessFlags := 25, slot := 9, constantValue := 0 }, { name := "LOG2_BYTE_BIT_SIZE", type := .int, accessFlags := 26, slot := 10, constantValue := 0 }, { name := "T_BOOLEAN", type := .int, accessFlags := 25, slot := 11, constantValue := 0 }, { name := "T_CHAR", type := .int, accessFlags := 25, slot := 12, constantValue := 0 }, { name := "T_FLOAT", type := .int, accessFlags := 25, slot := 13, constantValue := 0 }, { name := "T_DOUBLE", type := .int, accessFlags := 25, slot := 14, constantValue := 0 }, { name := "T_BYTE", type := .int, accessFlags := 25, slot := 15, constantValue := 0 }, { name := "T_SHORT", type := .int, accessFlags := 25, slot := 16, constantValue := 0 }, { name := "T_INT", type := .int, accessFlags := 25, slot := 17, constantValue := 0 }, { name := "T_LONG", type := .int, accessFlags := 25, slot := 18, constantValue := 0 }, { name := "JLA", type := (.object "jdk/internal/access/JavaLangAccess"), accessFlags := 26, slot := 19, constantValue := 0 }, { name := "SOFT_MAX_ARRAY_LENGTH", type := .int, accessFlags := 25, slot := 20, constantValue := 0 }]
  methods := #[k6m0, k6m1, k6m2]
  instanceTypes := #[]
  staticTypes := #[(.object "jdk/internal/misc/Unsafe"), .boolean, .int, .int, .int, .int, .int, .int, .int, .int, .int, .int, .int, .int, .int, .int, .int, .int, .int, (.object "jdk/internal/access/JavaLangAccess"), .int]
  resolved := Array.replicate 378 none
  statics := none }

def pool7 : Array CpInfo := pool [(1, u "java/lang/Cloneable"), (0, .class_ 1), (0, u "java/lang/Object"), (0, .class_ 3)] 3

/-- java/lang/Cloneable -/
def k7 : Class := { plain "java/lang/Cloneable" (some 0) with
  accessFlags := 1537
  interfaces := #[]
  cf := some (fileOf pool7 2 #[] #[] 1537 4 #[] #[])
  fields := #[]
  methods := #[]
  instanceTypes := #[]
  staticTypes := #[]
  resolved := Array.replicate 8 none
  statics := none }

def pool8 : Array CpInfo := pool [(1, u "java/io/Serializable"), (0, .class_ 1), (0, u "java/lang/Object"), (0, .class_ 3)] 3

/-- java/io/Serializable -/
def k8 : Class := { plain "java/io/Serializable" (some 0) with
  accessFlags := 1537
  interfaces := #[]
  cf := some (fileOf pool8 2 #[] #[] 1537 4 #[] #[])
  fields := #[]
  methods := #[]
  instanceTypes := #[]
  staticTypes := #[]
  resolved := Array.replicate 8 none
  statics := none }

/-- the primitive byte -/
def k9 : Class := { plain "byte" none with kind := .primitive 'B', accessFlags := 0x411 }
/-- [B -/
def k10 : Class := { plain "[B" (some 0) with kind := .array 9 .byte, interfaces := #[7, 8], accessFlags := 1041 }

/-- the primitive int -/
def k11 : Class := { plain "int" none with kind := .primitive 'I', accessFlags := 0x411 }
/-- [I -/
def k12 : Class := { plain "[I" (some 0) with kind := .array 11 .int, interfaces := #[7, 8], accessFlags := 1041 }

/-- the primitive long -/
def k13 : Class := { plain "long" none with kind := .primitive 'J', accessFlags := 0x411 }
/-- [J -/
def k14 : Class := { plain "[J" (some 0) with kind := .array 13 .long, interfaces := #[7, 8], accessFlags := 1041 }

def heap : Heap := #[]
def classes : Array Class := #[k0, k1, k2, k3, k4, k5, k6, k7, k8, k9, k10, k11, k12, k13, k14]
def interned : List (Array UInt16 × Addr) := []
def slotsUsed : Nat := 0
def theMethod : MethodId := ⟨1, 3⟩
def args0 : Array Value := #[.int 5, .int 5, .int 5, .int 5]
def aboutOver (below : List Frame) : State where
  vm := { classes := classes, interned := interned.toArray }
  heap := heap
  slotsUsed := slotsUsed
  threads := #[{ frames := .invoking theMethod args0 :: below }]
def below0 : List Frame := [.native { method := ⟨0, 0⟩, args := #[] }]
def about1 : State := aboutOver below0
def p0 : Program := .bare "" "" ""
def e0 : Env := launch0.env 0 0 0
theorem w_frames : about1.frames = Frame.invoking theMethod args0 :: below0 := rfl
set_option maxRecDepth 65536 in
theorem w_args : argsFit about1.vm theMethod args0 = true := by decide +kernel
set_option maxRecDepth 65536 in
theorem w_heap : heapFits about1 = true := by decide +kernel
set_option maxRecDepth 65536 in
theorem w_runnable : about1.curStatus? = some .runnable := by decide +kernel
set_option maxRecDepth 65536 in
theorem w_alone : about1.alone = true := by decide +kernel
set_option maxRecDepth 65536 in
theorem w_named : about1.methodNamed? x = some theMethod := by decide +kernel
set_option maxRecDepth 65536 in
theorem w_hears : about1.hears theMethod below0 = true := by decide +kernel
set_option maxRecDepth 65536 in
theorem w_ripe : about1.ripe theMethod args0 below0 = true := by decide +kernel
theorem w_running : about1.status = .running := rfl
set_option maxRecDepth 65536 in
theorem w_room : about1.hasRoom e0.platform room_1 = true :=
  launch0.hasRoom_least _ room_1 (by decide +kernel) (by decide +kernel) (by decide +kernel) (by decide +kernel) (by decide +kernel) (by decide +kernel)
theorem allAtoms_all (ts : List Jvm.Cond) (a : Array Jvm.Value) (st : Jvm.State) : (allAtoms ts).before a st = ts.all (fun c => c.before a st) := by
  induction ts with
  | nil => rfl
  | cons c t ih =>
    show (Jvm.Cond.and c (allAtoms t)).before a st = _
    rw [Jvm.Cond.before_and, ih, List.all_cons]
def words1 : List Jvm.Cond := Jvm.Cond.code x code maxLocals ret :: tables_1
/-- a 'code' word, met by the world's own term for the bytes: nothing is compared byte by byte -/
theorem code_word {y : MethodName} {bytes : ByteArray} {mx : Nat} {rt : Option FieldType} {a : Array Value} {s : State} {m : MethodId} {meth : Method} {c : Code} (h1 : s.methodNamed? y = some m) (h2 : s.vm.method? m = some meth) (h3 : meth.code = some c) (h4 : c.code = bytes)
    (h5 : (c.maxLocals == mx && c.exceptionTable.isEmpty && decide (c.maxStack ≤ mostOperands) && decide (meth.sig.returnType = rt) && !meth.locks && decide (parseMethodDescriptor y.desc = some meth.sig)) = true) : (Jvm.Cond.code y bytes mx rt).before a s = true := by
  simp only [Bool.and_eq_true, beq_iff_eq, Bool.not_eq_true', decide_eq_true_eq] at h5
  obtain ⟨⟨⟨⟨⟨g1, g2⟩, g3⟩, g4⟩, g5⟩, g6⟩ := h5
  simp [Cond.before, Cond.holds, Cond.value, h1, h2, h3, h4, g1, g2, g3, g4, g5, g6]
def isCode : Jvm.Cond → Bool
  | .code _ _ _ _ => true
  | _ => false
theorem all_split {L : List Jvm.Cond} {P : Jvm.Cond → Bool} (h1 : L.all (fun c => isCode c || P c) = true) (h2 : ∀ c ∈ L.filter isCode, P c = true) : L.all P = true := by
  refine List.all_eq_true.mpr fun c hc => ?_
  have h := List.all_eq_true.mp h1 c hc
  rcases Bool.eq_false_or_eq_true (isCode c) with hi | hi
  · exact h2 c (List.mem_filter.mpr ⟨hc, hi⟩)
  · simpa [hi] using h
set_option maxRecDepth 65536 in
theorem w_c0 : (Jvm.Cond.code x code maxLocals ret).before args0 about1 = true := code_word (m := ⟨1, 3⟩) (meth := k1m3) (c := k1c3) (by decide +kernel) rfl rfl rfl (by decide +kernel)
set_option maxRecDepth 65536 in
theorem w_c1 : (Jvm.Cond.code ({ cls := "com/example/libfacet/libfacet/exact/FactorizationOfPinLaw", name := "pow", desc := "(JI)J" } : Jvm.MethodName) method_2_code (7 : Nat) (Option.some Jvm.ClassFile.FieldType.long)).before args0 about1 = true := code_word (m := ⟨1, 1⟩) (meth := k1m1) (c := k1c1) (by decide +kernel) rfl rfl rfl (by decide +kernel)
set_option maxRecDepth 65536 in
theorem w_c2 : (Jvm.Cond.code ({ cls := "com/example/libfacet/libfacet/exact/FactorizationOfPinLaw", name := "mul", desc := "(JJ)J" } : Jvm.MethodName) method_3_code (6 : Nat) (Option.some Jvm.ClassFile.FieldType.long)).before args0 about1 = true := code_word (m := ⟨1, 2⟩) (meth := k1m2) (c := k1c2) (by decide +kernel) rfl rfl rfl (by decide +kernel)
set_option maxRecDepth 65536 in
theorem w_c3 : (Jvm.Cond.code ({ cls := "com/example/libfacet/libfacet/exact/Factorization", name := "of", desc := "(I)Lcom/example/libfacet/libfacet/exact/Factorization;" } : Jvm.MethodName) prog_39_method_2_code (6 : Nat) (Option.some (Jvm.ClassFile.FieldType.object "com/example/libfacet/libfacet/exact/Factorization"))).before args0 about1 = true := code_word (m := ⟨2, 1⟩) (meth := k2m1) (c := k2c1) (by decide +kernel) rfl rfl rfl (by decide +kernel)
set_option maxRecDepth 65536 in
theorem w_c4 : (Jvm.Cond.code ({ cls := "java/util/Arrays", name := "copyOf", desc := "([II)[I" } : Jvm.MethodName) jdk_65_method_123_code (3 : Nat) (Option.some (Jvm.ClassFile.FieldType.array Jvm.ClassFile.FieldType.int))).before args0 about1 = true := code_word (m := ⟨3, 1⟩) (meth := k3m1) (c := k3c1) (by decide +kernel) rfl rfl rfl (by decide +kernel)
set_option maxRecDepth 65536 in
theorem w_c5 : (Jvm.Cond.code ({ cls := "java/lang/Math", name := "min", desc := "(II)I" } : Jvm.MethodName) jdk_29_method_69_code (2 : Nat) (Option.some Jvm.ClassFile.FieldType.int)).before args0 about1 = true := code_word (m := ⟨4, 1⟩) (meth := k4m1) (c := k4c1) (by decide +kernel) rfl rfl rfl (by decide +kernel)
set_option maxRecDepth 65536 in
theorem w_c6 : (Jvm.Cond.code ({ cls := "java/util/Arrays", name := "copyOf", desc := "([JI)[J" } : Jvm.MethodName) jdk_65_method_124_code (3 : Nat) (Option.some (Jvm.ClassFile.FieldType.array Jvm.ClassFile.FieldType.long))).before args0 about1 = true := code_word (m := ⟨3, 2⟩) (meth := k3m2) (c := k3c2) (by decide +kernel) rfl rfl rfl (by decide +kernel)
set_option maxRecDepth 65536 in
theorem w_c7 : (Jvm.Cond.code ({ cls := "com/example/libfacet/libfacet/exact/Factorization", name := "<init>", desc := "([I[J)V" } : Jvm.MethodName) prog_39_method_1_code (3 : Nat) (Option.none : Option Jvm.ClassFile.FieldType)).before args0 about1 = true := code_word (m := ⟨2, 0⟩) (meth := k2m0) (c := k2c0) (by decide +kernel) rfl rfl rfl (by decide +kernel)
set_option maxRecDepth 65536 in
theorem w_c8 : (Jvm.Cond.code ({ cls := "java/lang/Object", name := "<init>", desc := "()V" } : Jvm.MethodName) object_method_1_code (1 : Nat) (Option.none : Option Jvm.ClassFile.FieldType)).before args0 about1 = true := code_word (m := ⟨0, 0⟩) (meth := k0m0) (c := k0c0) (by decide +kernel) rfl rfl rfl (by decide +kernel)
set_option maxRecDepth 65536 in
theorem w_c9 : (Jvm.Cond.code ({ cls := "java/util/Arrays", name := "hashCode", desc := "([I)I" } : Jvm.MethodName) jdk_65_method_150_code (1 : Nat) (Option.some Jvm.ClassFile.FieldType.int)).before args0 about1 = true := code_word (m := ⟨3, 4⟩) (meth := k3m4) (c := k3c4) (by decide +kernel) rfl rfl rfl (by decide +kernel)
set_option maxRecDepth 65536 in
theorem w_c10 : (Jvm.Cond.code ({ cls := "java/util/Arrays", name := "hashCode", desc := "([J)I" } : Jvm.MethodName) jdk_65_method_149_code (8 : Nat) (Option.some Jvm.ClassFile.FieldType.int)).before args0 about1 = true := code_word (m := ⟨3, 3⟩) (meth := k3m3) (c := k3c3) (by decide +kernel) rfl rfl rfl (by decide +kernel)
set_option maxRecDepth 65536 in
theorem w_c11 : (Jvm.Cond.code ({ cls := "com/example/libfacet/libfacet/exact/Factorization", name := "size", desc := "()I" } : Jvm.MethodName) prog_39_method_4_code (1 : Nat) (Option.some Jvm.ClassFile.FieldType.int)).before args0 about1 = true := code_word (m := ⟨2, 2⟩) (meth := k2m2) (c := k2c2) (by decide +kernel) rfl rfl rfl (by decide +kernel)
set_option maxRecDepth 65536 in
theorem w_c12 : (Jvm.Cond.code ({ cls := "jdk/internal/util/ArraysSupport", name := "vectorizedHashCode", desc := "(Ljava/lang/Object;IIII)I" } : Jvm.MethodName) jdk_48_method_4_code (5 : Nat) (Option.some Jvm.ClassFile.FieldType.int)).before args0 about1 = true := code_word (m := ⟨6, 1⟩) (meth := k6m1) (c := k6c1) (by decide +kernel) rfl rfl rfl (by decide +kernel)
set_option maxRecDepth 65536 in
theorem w_c13 : (Jvm.Cond.code ({ cls := "jdk/internal/util/ArraysSupport", name := "hashCode", desc := "(I[III)I" } : Jvm.MethodName) jdk_48_method_9_code (6 : Nat) (Option.some Jvm.ClassFile.FieldType.int)).before args0 about1 = true := code_word (m := ⟨6, 2⟩) (meth := k6m2) (c := k6c2) (by decide +kernel) rfl rfl rfl (by decide +kernel)
set_option maxRecDepth 65536 in
theorem w_c14 : (Jvm.Cond.code ({ cls := "com/example/libfacet/libfacet/exact/Factorization", name := "prime", desc := "(I)I" } : Jvm.MethodName) prog_39_method_5_code (2 : Nat) (Option.some Jvm.ClassFile.FieldType.int)).before args0 about1 = true := code_word (m := ⟨2, 3⟩) (meth := k2m3) (c := k2c3) (by decide +kernel) rfl rfl rfl (by decide +kernel)
set_option maxRecDepth 65536 in
theorem w_c15 : (Jvm.Cond.code ({ cls := "com/example/libfacet/libfacet/exact/Factorization", name := "exponent", desc := "(I)J" } : Jvm.MethodName) prog_39_method_6_code (2 : Nat) (Option.some Jvm.ClassFile.FieldType.long)).before args0 about1 = true := code_word (m := ⟨2, 4⟩) (meth := k2m4) (c := k2c4) (by decide +kernel) rfl rfl rfl (by decide +kernel)
def codes1 : List Jvm.Cond := [Jvm.Cond.code x code maxLocals ret, Jvm.Cond.code ({ cls := "com/example/libfacet/libfacet/exact/FactorizationOfPinLaw", name := "pow", desc := "(JI)J" } : Jvm.MethodName) method_2_code (7 : Nat) (Option.some Jvm.ClassFile.FieldType.long), Jvm.Cond.code ({ cls := "com/example/libfacet/libfacet/exact/FactorizationOfPinLaw", name := "mul", desc := "(JJ)J" } : Jvm.MethodName) method_3_code (6 : Nat) (Option.some Jvm.ClassFile.FieldType.long), Jvm.Cond.code ({ cls := "com/example/libfacet/libfacet/exact/Factorization", name := "of", desc := "(I)Lcom/example/libfacet/libfacet/exact/Factorization;" } : Jvm.MethodName) prog_39_method_2_code (6 : Nat) (Option.some (Jvm.ClassFile.FieldType.object "com/example/libfacet/libfacet/exact/Factorization")), Jvm.Cond.code ({ cls := "java/util/Arrays", name := "copyOf", desc := "([II)[I" } : Jvm.MethodName) jdk_65_method_123_code (3 : Nat) (Option.some (Jvm.ClassFile.FieldType.array Jvm.ClassFile.FieldType.int)), Jvm.Cond.code ({ cls := "java/lang/Math", name := "min", desc := "(II)I" } : Jvm.MethodName) jdk_29_method_69_code (2 : Nat) (Option.some Jvm.ClassFile.FieldType.int), Jvm.Cond.code ({ cls := "java/util/Arrays", name := "copyOf", desc := "([JI)[J" } : Jvm.MethodName) jdk_65_method_124_code (3 : Nat) (Option.some (Jvm.ClassFile.FieldType.array Jvm.ClassFile.FieldType.long)), Jvm.Cond.code ({ cls := "com/example/libfacet/libfacet/exact/Factorization", name := "<init>", desc := "([I[J)V" } : Jvm.MethodName) prog_39_method_1_code (3 : Nat) (Option.none : Option Jvm.ClassFile.FieldType), Jvm.Cond.code ({ cls := "java/lang/Object", name := "<init>", desc := "()V" } : Jvm.MethodName) object_method_1_code (1 : Nat) (Option.none : Option Jvm.ClassFile.FieldType), Jvm.Cond.code ({ cls := "java/util/Arrays", name := "hashCode", desc := "([I)I" } : Jvm.MethodName) jdk_65_method_150_code (1 : Nat) (Option.some Jvm.ClassFile.FieldType.int), Jvm.Cond.code ({ cls := "java/util/Arrays", name := "hashCode", desc := "([J)I" } : Jvm.MethodName) jdk_65_method_149_code (8 : Nat) (Option.some Jvm.ClassFile.FieldType.int), Jvm.Cond.code ({ cls := "com/example/libfacet/libfacet/exact/Factorization", name := "size", desc := "()I" } : Jvm.MethodName) prog_39_method_4_code (1 : Nat) (Option.some Jvm.ClassFile.FieldType.int), Jvm.Cond.code ({ cls := "jdk/internal/util/ArraysSupport", name := "vectorizedHashCode", desc := "(Ljava/lang/Object;IIII)I" } : Jvm.MethodName) jdk_48_method_4_code (5 : Nat) (Option.some Jvm.ClassFile.FieldType.int), Jvm.Cond.code ({ cls := "jdk/internal/util/ArraysSupport", name := "hashCode", desc := "(I[III)I" } : Jvm.MethodName) jdk_48_method_9_code (6 : Nat) (Option.some Jvm.ClassFile.FieldType.int), Jvm.Cond.code ({ cls := "com/example/libfacet/libfacet/exact/Factorization", name := "prime", desc := "(I)I" } : Jvm.MethodName) prog_39_method_5_code (2 : Nat) (Option.some Jvm.ClassFile.FieldType.int), Jvm.Cond.code ({ cls := "com/example/libfacet/libfacet/exact/Factorization", name := "exponent", desc := "(I)J" } : Jvm.MethodName) prog_39_method_6_code (2 : Nat) (Option.some Jvm.ClassFile.FieldType.long)]
set_option maxRecDepth 65536 in
theorem codes_eq : words1.filter isCode = codes1 := rfl
theorem w_codes : ∀ c ∈ words1.filter isCode, c.before args0 about1 = true := by
  rw [codes_eq]
  intro c hc
  simp only [codes1, List.mem_cons, List.not_mem_nil, or_false] at hc
  rcases hc with rfl | rfl | rfl | rfl | rfl | rfl | rfl | rfl | rfl | rfl | rfl | rfl | rfl | rfl | rfl | rfl
  · exact w_c0
  · exact w_c1
  · exact w_c2
  · exact w_c3
  · exact w_c4
  · exact w_c5
  · exact w_c6
  · exact w_c7
  · exact w_c8
  · exact w_c9
  · exact w_c10
  · exact w_c11
  · exact w_c12
  · exact w_c13
  · exact w_c14
  · exact w_c15
set_option maxRecDepth 65536 in
theorem w_t1 : (words1.take 24).all (fun c => isCode c || c.before args0 about1) = true := by decide +kernel
set_option maxRecDepth 65536 in
theorem w_t2 : ((words1.drop 24).take 24).all (fun c => isCode c || c.before args0 about1) = true := by decide +kernel
set_option maxRecDepth 65536 in
theorem w_t3 : (((words1.drop 24).drop 24).take 24).all (fun c => isCode c || c.before args0 about1) = true := by decide +kernel
set_option maxRecDepth 65536 in
theorem w_t4 : (((words1.drop 24).drop 24).drop 24).all (fun c => isCode c || c.before args0 about1) = true := by decide +kernel
theorem w_tables : (allAtoms (Jvm.Cond.code x code maxLocals ret :: tables_1)).before args0 about1 = true := by
  rw [allAtoms_all]
  show words1.all (fun c => c.before args0 about1) = true
  refine all_split ?_ w_codes
  rw [← List.take_append_drop 24 words1, List.all_append, w_t1, ← List.take_append_drop 24 (words1.drop 24), List.all_append, w_t2, ← List.take_append_drop 24 ((words1.drop 24).drop 24), List.all_append, w_t3, w_t4]
  rfl
set_option maxRecDepth 65536 in
theorem w_case : (Jvm.Cond.and given_1 narrow_1).before args0 about1 = true := by decide +kernel
theorem w_applies : (headSpec (Jvm.Cond.code x code maxLocals ret :: tables_1) room_1).applies x e0.platform about1 = true :=
  (Spec.applies_iff w_frames).mpr ⟨w_running, w_runnable, w_alone, w_named, w_hears, w_ripe, w_room, w_tables⟩
theorem atStart : AtStart classFile x code maxLocals ret World_1 tables_1 room_1 Calls_1 rest_1 Pre_1 launch0 p0 e0 about1 theMethod args0 below0 :=
  ⟨lists_1, trivial, launch0.admits_env _ _ _, launch0.least_env, fairChoices_fair.cas, fairChoices_fair.clock, w_frames, w_args, w_heap, w_applies, trivial, trivial, w_case⟩
end start1
theorem witness_1 : WitnessClaimed_1 := ⟨start1.p0, start1.e0, start1.about1, start1.theMethod, start1.args0, start1.below0, start1.atStart⟩
end Jvm.Pilot.@@N@@
