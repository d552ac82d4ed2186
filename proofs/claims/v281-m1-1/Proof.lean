import JvmDerived
import JvmDerived.Pilot.@@N@@Statement
import JvmDerived.Pilot.@@N@@Code
set_option linter.unusedVariables false
set_option linter.unusedSimpArgs false
namespace Jvm.RoadKit
open Sem ClassFile Op Lib Jvm.Stand Jvm.Free Jvm.LawKit
section New
variable {p : Program} {l : Launch} {e : Env} {R : Room} {s : State} {m : MethodId} {args : Array Value} {below : List Frame} {meth : Method} {c : Code} {T : State} {locs : List Loc} {cells slots : Nat}
theorem retI (X : Stand p l e R s m args below meth c T locs cells slots) (hx : p.tables.exec = Jvm.exec) {pc : Nat} {Ls : Array Slot} {z : Int32} {rest : List Value} (hret : meth.sig.returnType = some .int) (hd : decode c.code pc = .ok (.ireturn, 1)) {fs : List Frame}
    (hl : ∀ (f : JFrame) (acts : List Action), f.method = m → f.locked = none → f.entered = [] → (doReturn e (T.setTop f) acts (some (.int z))).1 = T.setFrames fs) : Steps p.tables e below (T.setTop (mkF m pc Ls (.int z :: rest))) (T.setFrames fs) := by
  have hm' : T.vm.method? m = some meth := X.method'
  have hn : narrow .int (.int z) = .int z := rfl
  show Steps p.tables e below (T.setTop { method := m, pc := pc, locals := Ls, stack := _ :: rest, locked := none }) _
  jvm_step X.here [X.here.top, hx, hd, hm', hret, hn]
  first | (intro acts; rw [hl _ acts rfl rfl rfl]) | rw [hl _ _ rfl rfl rfl]
  exact Steps.refl _
end New
end Jvm.RoadKit
namespace Jvm.Pilot.@@N@@
open Jvm Jvm.ClassFile Sem Op Lib Jvm.Free Jvm.Stand Jvm.LawKit Jvm.RoadKit Bundle Jvm.Pilot.@@N@@.Jvm.D
section OwnKit
variable {tb : Tables} {p : Program} {l : Launch} {e : Env} {R : Room} {s : State} {m : MethodId} {args : Array Value} {below : List Frame} {meth : Method} {c : Code} {T : State} {locs : List Loc} {cells slots : Nat} {Z : State} {a0 : Array Value} {F : State → Prop} {S S' : State}
/-- from S the run comes to a state of which F holds -/
def own_G (tb : Tables) (e : Env) (below : List Frame) (F : State → Prop) (S : State) : Prop := ∃ t, Steps tb e below S t ∧ F t
theorem own_st (st : ∀ t, Steps tb e below S' t → Steps tb e below S t) (k : own_G tb e below F S') : own_G tb e below F S := by
  obtain ⟨t, h1, h2⟩ := k
  exact ⟨t, st t h1, h2⟩
theorem own_tr (st : Steps tb e below S S') (k : own_G tb e below F S') : own_G tb e below F S := by
  obtain ⟨t, h1, h2⟩ := k
  exact ⟨t, st.trans h1, h2⟩
/-- the end of a body: it has returned v, Q holds, the frame is kept -/
def own_F (s : State) (below : List Frame) (Q : Option Value → Heap → List Loc → Prop) (k n : Nat) (t : State) : Prop := ∃ o, t.status = .running ∧ Ended t below o ∧ ∃ v L, o = .returned v ∧ Q v t.heap L ∧ FrameEnd s o t L k n
/-- a contract -/
def own_Met (l : Launch) (Z : State) (y : MethodName) (bytes : ByteArray) (maxL : Nat) (ret : Option FieldType) (ws : List Cond) (rm : Room) (as : Array Value) (h : Heap) (Q : Option Value → Heap → List Loc → Prop) (k n : Nat) : Prop :=
  MetFree l y (head1 (Jvm.Cond.code y bytes maxL ret :: ws) rm) (fun a U => a = as ∧ Z.Warmed39 U.vm ∧ U.heap = h) (fun _ _ _ _ _ => True) (fun _ U o U' => ∃ v L, o = .returned v ∧ Q v U'.heap L ∧ FrameEnd U o U' L k n)
theorem own_body {y : MethodName} {bytes : ByteArray} {maxL : Nat} {ret : Option FieldType} {ws : List Jvm.Cond} {rm : Room} {as : Array Value} {h : Heap} {Q : Option Value → Heap → List Loc → Prop} {k n : Nat} {ef : MethodId → JFrame} (hp : plainFor y = true) (hef : ∀ m, entryFrame m as maxL = ef m)
    (body : ∀ (p : Program) (e : Env) (s : State) (m : MethodId) (below : List Frame) (meth : Method) (c : Code) (T0 : State), p.tables.exec = Jvm.exec → Z.Warmed39 s.vm → c.code = bytes → c.maxLocals = maxL → s.vm.findClass y.cls = some m.cls → meth.name = y.name → meth.sig.returnType = ret → meth.locks = false →
      Stand p l e rm s m as below meth c T0 [] 0 0 → T0.heap = h → own_G p.tables e below (own_F s below Q k n) (T0.setTop (ef m))) : own_Met l Z y bytes maxL ret ws rm as h Q k n := by
  refine MetFree.of_bodySF hp hisR ?_
  intro p e s m args below meth c s₁ Bd hml0 hP hK
  obtain ⟨rfl, hZ, hh⟩ := hP
  have e0 : s₁.heap = h := by rw [← hh, Bd.state]; rfl
  obtain ⟨t, h1, o, h2, h3, v, L, h4, h5, h6⟩ := body p e s m below meth c s₁ Bd.exec hZ Bd.bytes hml0 (findClass_of_methodNamed Bd.named) (name_of_methodNamed Bd.named Bd.method).1 Bd.returns Bd.notSynchronized (Stand.of_body Bd) e0
  exact ⟨t, o, castTop (hef m) h1, h2, h3, v, L, h4, h5, h6⟩
theorem own_back {y : MethodName} {bytes : ByteArray} {maxL : Nat} {ret : Option FieldType} {rm : Room} {len W : Nat} {as' : Array Value} {h : Heap} {Q : Option Value → Heap → List Loc → Prop} (hM : own_Met l Z y bytes maxL ret [] rm as' h Q rm.cells rm.slots)
    (hZ : Z.Warmed39 s.vm) (wc : (Jvm.Cond.code y bytes maxL ret).before a0 Z = true) (wz : (Jvm.Cond.initialized y.cls).before a0 Z = true) (hf : rm.frames + 1 ≤ R.frames) (hl : W + (maxL + 11) + rm.locals ≤ R.locals) :
    Back l R p e below s args y len W (fun A a => a = as' ∧ A.U.heap = h ∧ A.cells + rm.cells ≤ R.cells ∧ A.slots + rm.slots ≤ R.slots) (fun A _ v B => ∃ L, Q v B.U.heap L ∧ B.locs = A.locs ++ L ∧ B.cells = A.cells + rm.cells ∧ B.slots = A.slots + rm.slots) := backOf (Q := Q) hM hZ wc wz hf hl
theorem own_end {Q : Option Value → Heap → List Loc → Prop} {k n : Nat} {v : Option Value} (X : Stand p l e R s m args below meth c T locs cells slots) (hlk : meth.locks = false) (hv : meth.sig.returnType = none → v = none) (hQ : Q v T.heap locs) (hk : cells ≤ k) (hn : slots ≤ n)
    (h : ∀ fs, (∀ (f : JFrame) (acts : List Action), f.method = m → f.locked = none → f.entered = [] → (doReturn e (T.setTop f) acts v).1 = T.setFrames fs) → Steps p.tables e below S (T.setFrames fs)) : own_G p.tables e below (own_F s below Q k n) S := by
  obtain ⟨fs, hr, hrun, hended, hW, hsame⟩ := X.leave (v := v) hv hlk
  exact ⟨_, h fs hr, _, hrun, hended, v, locs, rfl, hQ, ⟨_, rfl⟩, hW, hsame.mono hk hn⟩
theorem own_retI {Q : Option Value → Heap → List Loc → Prop} {k n : Nat} {pc : Nat} {Ls : Array Slot} {z : Int32} {rest : List Value} (X : Stand p l e R s m args below meth c T locs cells slots) (hx : p.tables.exec = Jvm.exec) (hret : meth.sig.returnType = some .int) (hlk : meth.locks = false) (hd : decode c.code pc = .ok (.ireturn, 1)) (hQ : Q (some (.int z)) T.heap locs) (hk : cells ≤ k) (hn : slots ≤ n) :
    own_G p.tables e below (own_F s below Q k n) (T.setTop (mkF m pc Ls (.int z :: rest))) :=
  own_end X hlk (fun h => by rw [hret] at h; cases h) hQ hk hn fun fs hr => retI X hx hret hd hr
theorem own_retN {Q : Option Value → Heap → List Loc → Prop} {k n : Nat} {pc : Nat} {Ls : Array Slot} {z : Int32} {t : FieldType} {rest : List Value} (X : Stand p l e R s m args below meth c T locs cells slots) (hx : p.tables.exec = Jvm.exec) (hret : meth.sig.returnType = some t) (hlk : meth.locks = false) (ht : t = .boolean ∨ t = .byte ∨ t = .char ∨ t = .short) (hd : decode c.code pc = .ok (.ireturn, 1)) (hQ : Q (some (.int (nar t z))) T.heap locs) (hk : cells ≤ k) (hn : slots ≤ n) :
    own_G p.tables e below (own_F s below Q k n) (T.setTop (mkF m pc Ls (.int z :: rest))) :=
  own_end X hlk (fun h => by rw [hret] at h; cases h) hQ hk hn fun fs hr => retN X hx hret ht hd hr
theorem own_retA {Q : Option Value → Heap → List Loc → Prop} {k n : Nat} {pc : Nat} {Ls : Array Slot} {w : Value} {t : FieldType} {rest : List Value} (X : Stand p l e R s m args below meth c T locs cells slots) (hx : p.tables.exec = Jvm.exec) (hret : meth.sig.returnType = some t) (ht : t.isReference = true) (hw : w.isRef = true) (hlk : meth.locks = false) (hd : decode c.code pc = .ok (.areturn, 1)) (hQ : Q (some w) T.heap locs) (hk : cells ≤ k) (hn : slots ≤ n) :
    own_G p.tables e below (own_F s below Q k n) (T.setTop (mkF m pc Ls (w :: rest))) :=
  own_end X hlk (fun h => by rw [hret] at h; cases h) hQ hk hn fun fs hr => by
    jvm_step X.here [X.here.top, hx, hd, X.method', hret, hw, ht]
    first | (intro acts; rw [hr _ acts rfl rfl rfl]) | rw [hr _ _ rfl rfl rfl]
    exact Steps.refl _
theorem own_retJ {Q : Option Value → Heap → List Loc → Prop} {k n : Nat} {pc : Nat} {Ls : Array Slot} {z : Int64} {rest : List Value} (X : Stand p l e R s m args below meth c T locs cells slots) (hx : p.tables.exec = Jvm.exec) (hret : meth.sig.returnType = some .long) (hlk : meth.locks = false) (hd : decode c.code pc = .ok (.lreturn, 1)) (hQ : Q (some (.long z)) T.heap locs) (hk : cells ≤ k) (hn : slots ≤ n) :
    own_G p.tables e below (own_F s below Q k n) (T.setTop (mkF m pc Ls (.long z :: rest))) :=
  own_end X hlk (fun h => by rw [hret] at h; cases h) hQ hk hn fun fs hr => by
    jvm_step X.here [X.here.top, hx, hd, X.method', hret, narrow]
    first | (intro acts; rw [hr _ acts rfl rfl rfl]) | rw [hr _ _ rfl rfl rfl]
    exact Steps.refl _
theorem own_ret0 {Q : Option Value → Heap → List Loc → Prop} {k n : Nat} {pc : Nat} {Ls : Array Slot} (X : Stand p l e R s m args below meth c T locs cells slots) (hx : p.tables.exec = Jvm.exec) (hret : meth.sig.returnType = none) (hlk : meth.locks = false) (hd : decode c.code pc = .ok (.return_, 1)) (hQ : Q none T.heap locs) (hk : cells ≤ k) (hn : slots ≤ n) :
    own_G p.tables e below (own_F s below Q k n) (T.setTop (mkF m pc Ls [])) :=
  own_end X hlk (fun _ => rfl) hQ hk hn fun fs hr => X.returnOut hx hret hd hr
theorem own_ltN {a b : Nat} (h : @LT.lt Addr instLTNat a b) : @LT.lt Nat instLTNat a b := h
theorem own_nat {n : Nat} (hn : n < 2147483648) : (Int32.ofNat n).toInt = (n : Int) := Int32.toInt_ofNat_of_lt hn
theorem own_clamp {n : Nat} (hn : n < 2147483648) : (Int32.ofNat n).toNatClampNeg = n := by
  rw [Int32.toNatClampNeg, own_nat hn]; rfl
theorem own_lt {i n : Nat} (h : i < n) (hn : n < 2147483648) : Int32.ofNat i < Int32.ofNat n := by
  rw [Int32.lt_iff_toInt_lt, own_nat (by omega), own_nat hn]; omega
theorem own_nn {n : Nat} (hn : n < 2147483648) : ¬ Int32.ofNat n < 0 := by
  rw [Int32.lt_iff_toInt_lt, own_nat hn, show (0 : Int32).toInt = 0 from rfl]; omega
theorem own_one (i : Nat) : Int32.ofNat i + (1 : Int32) = Int32.ofNat (i + 1) := (Int32.ofNat_add i 1).symm
theorem own_in {i n : Nat} {cl : Cell} (hs : cl.slots.size = (Int32.ofNat n).toNatClampNeg) (h : i < n) (hn : n < 2147483648) : ¬ (Int32.ofNat i < 0 ∨ cl.slots.size ≤ (Int32.ofNat i).toNatClampNeg) := by
  rw [hs, own_clamp hn, own_clamp (by omega)]
  exact fun q => q.elim (own_nn (by omega)) (fun q => by omega)
/-- the list f 0, f 1, .. : i of them -/
def own_vals (f : Nat → Int32) (i : Nat) : List Value := (List.range i).map fun j => .int (f j)
theorem own_len (f : Nat → Int32) (i : Nat) : (own_vals f i).length = i := by simp [own_vals]
theorem own_next (f : Nat → Int32) (i : Nat) : own_vals f i ++ [.int (f i)] = own_vals f (i + 1) := by simp [own_vals, List.range_succ]
theorem own_at (f : Nat → Int32) {i j : Nat} (h : j < i) (d : Value) : (own_vals f i).getD j d = .int (f j) := by simp [own_vals, List.getD_eq_getElem?_getD, h]
theorem own_set (vs : List Value) (x v : Value) : (vs ++ [x]).set vs.length v = vs ++ [v] := by simp
/-- .. where a String constant may have been interned -/
def own_FW (s : State) (below : List Frame) (Q : Option Value → Heap → List Loc → Prop) (k n : Nat) (t : State) : Prop := ∃ o, t.status = .running ∧ Ended t below o ∧ ∃ v L, o = .returned v ∧ Q v t.heap L ∧ ReturnedEndW s o t L k n
def own_MetW (l : Launch) (Z : State) (y : MethodName) (bytes : ByteArray) (maxL : Nat) (ret : Option FieldType) (ws : List Cond) (rm : Room) (as : Array Value) (h : Heap) (Q : Option Value → Heap → List Loc → Prop) (k n : Nat) : Prop :=
  MetFree l y (head1 (Jvm.Cond.code y bytes maxL ret :: ws) rm) (fun a U => a = as ∧ Z.Warmed39 U.vm ∧ U.heap = h) (fun _ _ _ _ _ => True) (fun _ U o U' => ∃ v L, o = .returned v ∧ Q v U'.heap L ∧ ReturnedEndW U o U' L k n)
theorem own_bodyW {y : MethodName} {bytes : ByteArray} {maxL : Nat} {ret : Option FieldType} {ws : List Jvm.Cond} {rm : Room} {as : Array Value} {h : Heap} {Q : Option Value → Heap → List Loc → Prop} {k n : Nat} {ef : MethodId → JFrame} (hp : plainFor y = true) (hef : ∀ m, entryFrame m as maxL = ef m)
    (body : ∀ (p : Program) (e : Env) (s : State) (m : MethodId) (below : List Frame) (meth : Method) (c : Code) (T0 : State), p.tables.exec = Jvm.exec → Z.Warmed39 s.vm → c.code = bytes → c.maxLocals = maxL → s.vm.findClass y.cls = some m.cls → meth.name = y.name → meth.sig.returnType = ret → meth.locks = false →
      Stand p l e rm s m as below meth c T0 [] 0 0 → T0.heap = h → s.Since s.vm 0 → own_G p.tables e below (own_FW s below Q k n) (T0.setTop (ef m))) : own_MetW l Z y bytes maxL ret ws rm as h Q k n := by
  refine MetFree.of_bodySF hp hisR ?_
  intro p e s m args below meth c s₁ Bd hml0 hP hK
  obtain ⟨rfl, hZ, hh⟩ := hP
  have e0 : s₁.heap = h := by rw [← hh, Bd.state]; rfl
  obtain ⟨t, h1, o, h2, h3, v, L, h4, h5, h6⟩ := body p e s m below meth c s₁ Bd.exec hZ Bd.bytes hml0 (findClass_of_methodNamed Bd.named) (name_of_methodNamed Bd.named Bd.method).1 Bd.returns Bd.notSynchronized (Stand.of_body Bd) e0 ((State.WarmedH.refl s).since 0)
  exact ⟨t, o, castTop (hef m) h1, h2, h3, v, L, h4, h5, h6⟩
theorem own_backS {y : MethodName} {bytes : ByteArray} {maxL : Nat} {ret : Option FieldType} {rm : Room} {len W : Nat} {as' : Array Value} {h : Heap} {Q : Option Value → Heap → List Loc → Prop} (hM : own_MetW l Z y bytes maxL ret [] rm as' h Q rm.cells rm.slots)
    (hZ : Z.Warmed39 s.vm) (wc : (Jvm.Cond.code y bytes maxL ret).before a0 Z = true) (wz : (Jvm.Cond.initialized y.cls).before a0 Z = true) (hf : rm.frames + 1 ≤ R.frames) (hl : W + (maxL + 11) + rm.locals ≤ R.locals) :
    BackS l R p e below s args y len W (fun A a => a = as' ∧ A.U.heap = h ∧ A.cells + rm.cells ≤ R.cells ∧ A.slots + rm.slots ≤ R.slots) (fun A _ v B => ∃ L, Q v B.U.heap L ∧ B.locs = A.locs ++ L ∧ B.cells = A.cells + rm.cells ∧ B.slots = A.slots + rm.slots) := backOfS (Q := Q) hM hZ wc wz hf hl
theorem own_endW {Q : Option Value → Heap → List Loc → Prop} {k n n1 : Nat} {v : Option Value} {vm1 : Vm} (X : Stand p l e R (s.setVm vm1) m args below meth c T locs cells slots) (hS : s.Since vm1 n1) (hSn : n1 ≤ T.heap.size) (hlk : meth.locks = false) (hv : meth.sig.returnType = none → v = none) (hQ : Q v T.heap locs) (hk : cells ≤ k) (hn : slots ≤ n)
    (h : ∀ fs, (∀ (f : JFrame) (acts : List Action), f.method = m → f.locked = none → f.entered = [] → (doReturn e (T.setTop f) acts v).1 = T.setFrames fs) → Steps p.tables e below S (T.setFrames fs)) : own_G p.tables e below (own_FW s below Q k n) S := by
  obtain ⟨fs, hr, hrun, hended, hW⟩ := X.leaveW hS hSn (v := v) hv hlk
  exact ⟨_, h fs hr, _, hrun, hended, v, locs, rfl, hQ, hW.1, hW.2.1, hW.2.2.1, hW.2.2.2.mono hk hn⟩
theorem own_retIW {Q : Option Value → Heap → List Loc → Prop} {k n n1 : Nat} {pc : Nat} {Ls : Array Slot} {z : Int32} {rest : List Value} {vm1 : Vm} (X : Stand p l e R (s.setVm vm1) m args below meth c T locs cells slots) (hS : s.Since vm1 n1) (hSn : n1 ≤ T.heap.size) (hx : p.tables.exec = Jvm.exec) (hret : meth.sig.returnType = some .int) (hlk : meth.locks = false) (hd : decode c.code pc = .ok (.ireturn, 1)) (hQ : Q (some (.int z)) T.heap locs) (hk : cells ≤ k) (hn : slots ≤ n) :
    own_G p.tables e below (own_FW s below Q k n) (T.setTop (mkF m pc Ls (.int z :: rest))) :=
  own_endW X hS hSn hlk (fun h => by rw [hret] at h; cases h) hQ hk hn fun fs hr => retI X hx hret hd hr
theorem own_retNW {Q : Option Value → Heap → List Loc → Prop} {k n n1 : Nat} {pc : Nat} {Ls : Array Slot} {z : Int32} {t : FieldType} {rest : List Value} {vm1 : Vm} (X : Stand p l e R (s.setVm vm1) m args below meth c T locs cells slots) (hS : s.Since vm1 n1) (hSn : n1 ≤ T.heap.size) (hx : p.tables.exec = Jvm.exec) (hret : meth.sig.returnType = some t) (hlk : meth.locks = false) (ht : t = .boolean ∨ t = .byte ∨ t = .char ∨ t = .short) (hd : decode c.code pc = .ok (.ireturn, 1)) (hQ : Q (some (.int (nar t z))) T.heap locs) (hk : cells ≤ k) (hn : slots ≤ n) :
    own_G p.tables e below (own_FW s below Q k n) (T.setTop (mkF m pc Ls (.int z :: rest))) :=
  own_endW X hS hSn hlk (fun h => by rw [hret] at h; cases h) hQ hk hn fun fs hr => retN X hx hret ht hd hr
theorem own_retAW {Q : Option Value → Heap → List Loc → Prop} {k n n1 : Nat} {pc : Nat} {Ls : Array Slot} {w : Value} {t : FieldType} {rest : List Value} {vm1 : Vm} (X : Stand p l e R (s.setVm vm1) m args below meth c T locs cells slots) (hS : s.Since vm1 n1) (hSn : n1 ≤ T.heap.size) (hx : p.tables.exec = Jvm.exec) (hret : meth.sig.returnType = some t) (ht : t.isReference = true) (hw : w.isRef = true) (hlk : meth.locks = false) (hd : decode c.code pc = .ok (.areturn, 1)) (hQ : Q (some w) T.heap locs) (hk : cells ≤ k) (hn : slots ≤ n) :
    own_G p.tables e below (own_FW s below Q k n) (T.setTop (mkF m pc Ls (w :: rest))) :=
  own_endW X hS hSn hlk (fun h => by rw [hret] at h; cases h) hQ hk hn fun fs hr => by
    jvm_step X.here [X.here.top, hx, hd, X.method', hret, hw, ht]
    first | (intro acts; rw [hr _ acts rfl rfl rfl]) | rw [hr _ _ rfl rfl rfl]
    exact Steps.refl _
theorem own_ret0W {Q : Option Value → Heap → List Loc → Prop} {k n n1 : Nat} {pc : Nat} {Ls : Array Slot} {vm1 : Vm} (X : Stand p l e R (s.setVm vm1) m args below meth c T locs cells slots) (hS : s.Since vm1 n1) (hSn : n1 ≤ T.heap.size) (hx : p.tables.exec = Jvm.exec) (hret : meth.sig.returnType = none) (hlk : meth.locks = false) (hd : decode c.code pc = .ok (.return_, 1)) (hQ : Q none T.heap locs) (hk : cells ≤ k) (hn : slots ≤ n) :
    own_G p.tables e below (own_FW s below Q k n) (T.setTop (mkF m pc Ls [])) :=
  own_endW X hS hSn hlk (fun _ => rfl) hQ hk hn fun fs hr => X.returnOut hx hret hd hr
theorem own_eqI {args : Array Value} {first s : State} {o : Option Outcome} {idx : List Nat} {t : Term} {k : Int32} (h : (Jvm.Cond.eq t (.int k)).value args first o s idx = some true) : t.eval args first o idx s = some (.int k) := by
  obtain ⟨x, y, h1, h2, h3, -⟩ := cmp_v (Or.inl h)
  have h4 : y = .int k := (Option.some.inj (h2.symm.trans (Term.int_eval k)))
  subst h4
  cases x with
  | int x => rw [h1]; exact congrArg (fun z => some (Value.int z)) (gotT (Cond.eq_ints h1 h2) h)
  | _ => simp [Kin, Value.isRef] at h3
end OwnKit


/-- the byte that compress keeps of a char -/
def own_lo (c : Int32) : Int32 := nar .byte (c.toInt8.toInt32)
/-- a char's two bytes, as putChar lays them -/
def own_b0 (c : Int32) : Int32 := nar .byte ((c >>> ((0 : Int32) &&& 31)).toInt8.toInt32)
def own_b1 (c : Int32) : Int32 := nar .byte ((c >>> ((8 : Int32) &&& 31)).toInt8.toInt32)
def own_wide (f : Nat → Int32) (j : Nat) : Int32 := if j % 2 = 0 then own_b0 (f (j / 2)) else own_b1 (f (j / 2))
theorem own_wide0 (f : Nat → Int32) (i : Nat) : own_wide f (2 * i) = own_b0 (f i) := by
  unfold own_wide
  rw [if_pos (by omega), show 2 * i / 2 = i by omega]
theorem own_wide1 (f : Nat → Int32) (i : Nat) : own_wide f (2 * i + 1) = own_b1 (f i) := by
  unfold own_wide
  rw [if_neg (by omega), show (2 * i + 1) / 2 = i by omega]
theorem own_shl1 {i : Nat} (h : i < 1000000) : Int32.ofNat i <<< ((1 : Int32) &&& 31) = Int32.ofNat (2 * i) := by
  apply Int32.toInt_inj.mp
  have h1 := c_ishl (Int32.ofNat i) 1 1 rfl
  have h2 := rng32 (Int32.ofNat i <<< ((1 : Int32) &&& 31))
  rw [own_nat (by omega)] at h1
  rw [own_nat (by omega)]
  omega
theorem own_pair {c : Int32} (h0 : 0 ≤ c.toInt) (h1 : c.toInt < 65536) : nar .char ((((own_b0 c &&& (255 : Int32)) <<< ((0 : Int32) &&& 31)) ||| ((own_b1 c &&& (255 : Int32)) <<< ((8 : Int32) &&& 31))).toUInt32.toUInt16.toUInt32.toInt32) = c := by
  apply Int32.toInt_inj.mp
  show (Int32.toUInt32 _).toUInt16.toUInt32.toInt32.toInt = _
  have a0 := c_ishr c 0 0 rfl
  have a1 := c_ishr c 8 8 rfl
  have b0 := c_i2b (c >>> ((0 : Int32) &&& 31))
  have b1 := c_i2b (c >>> ((8 : Int32) &&& 31))
  have d0 : ((own_b0 c).toInt - _) % 256 = 0 ∧ _ := c_i2b ((c >>> ((0 : Int32) &&& 31)).toInt8.toInt32)
  have d1 : ((own_b1 c).toInt - _) % 256 = 0 ∧ _ := c_i2b ((c >>> ((8 : Int32) &&& 31)).toInt8.toInt32)
  have e0 := c_mask (own_b0 c) 255 8 (by decide) rfl
  have e1 := c_mask (own_b1 c) 255 8 (by decide) rfl
  have f0 := c_ishl (own_b0 c &&& 255) 0 0 rfl
  have f1 := c_ishl (own_b1 c &&& 255) 8 8 rfl
  have r0 := rng32 ((own_b0 c &&& (255 : Int32)) <<< ((0 : Int32) &&& 31))
  have r1 := rng32 ((own_b1 c &&& (255 : Int32)) <<< ((8 : Int32) &&& 31))
  have g := c_or' ((own_b0 c &&& (255 : Int32)) <<< ((0 : Int32) &&& 31)) ((own_b1 c &&& (255 : Int32)) <<< ((8 : Int32) &&& 31)) 8 (by decide) 256 rfl (by omega) (by omega) (by omega)
  have r2 := rng32 (((own_b0 c &&& (255 : Int32)) <<< ((0 : Int32) &&& 31)) ||| ((own_b1 c &&& (255 : Int32)) <<< ((8 : Int32) &&& 31)))
  have i0 := c_i2c (((own_b0 c &&& (255 : Int32)) <<< ((0 : Int32) &&& 31)) ||| ((own_b1 c &&& (255 : Int32)) <<< ((8 : Int32) &&& 31)))
  have i1 := c_i2c ((((own_b0 c &&& (255 : Int32)) <<< ((0 : Int32) &&& 31)) ||| ((own_b1 c &&& (255 : Int32)) <<< ((8 : Int32) &&& 31))).toUInt32.toUInt16.toUInt32.toInt32)
  omega
theorem own_get {cl : Cell} {n i : Nat} {f : Nat → Int32} {d : Value} (S : cl.slots.size = (Int32.ofNat n).toNatClampNeg) (H : Has cl (own_vals f n) d) (h : i < n) (hn : n < 2147483648) : cl.slots[(Int32.ofNat i).toNatClampNeg]? = some (.int (f i)) := by
  rw [own_clamp (by omega)]
  have q := H i (by rw [S, own_clamp hn]; exact h)
  rw [own_at f h] at q
  exact q
/-- a String's object a, its bytes at t: the chars f 0 .. f (n - 1) -/
def own_Str (Z : State) (h : Heap) (a t : Addr) (kb : ClassId) (f : Nat → Int32) (n : Nat) : Prop := Exa Z h a "java/lang/String" ∧ ∃ cd : Int32, Fld Z h a "java/lang/String" "coder" "B" (.int cd) ∧ Fld Z h a "java/lang/String" "value" "[B" (.ref t) ∧
  ((cd = 0 ∧ (∀ j, j < n → ¬ (255 : Int32) < f j) ∧ Arv Z h t kb .byte (Int32.ofNat n) (own_vals (fun j => own_lo (f j)) n) (.int (0 : Int32))) ∨ (cd = 1 ∧ Arv Z h t kb .byte (Int32.ofNat (2 * n)) (own_vals (own_wide f) (2 * n)) (.int (0 : Int32))))
/-- a Latin-1 String's object a, its bytes at t -/
def own_StrL (Z : State) (h : Heap) (a t : Addr) (kb : ClassId) (g : Nat → Int32) (n : Nat) : Prop := Exa Z h a "java/lang/String" ∧ Fld Z h a "java/lang/String" "coder" "B" (.int (0 : Int32)) ∧ Fld Z h a "java/lang/String" "value" "[B" (.ref t) ∧ Arv Z h t kb .byte (Int32.ofNat n) (own_vals g n) (.int (0 : Int32))
theorem own_StrL_ext {Z : State} {h h' : Heap} {a t : Addr} {kb : ClassId} {g : Nat → Int32} {n : Nat} (H : own_StrL Z h a t kb g n) (E : Ext h h') : own_StrL Z h' a t kb g n := ⟨H.1.ext E, H.2.1.ext E, H.2.2.1.ext E, H.2.2.2.ext E⟩
theorem own_StrL_keep {Z : State} {h h' : Heap} {a t : Addr} {kb : ClassId} {g : Nat → Int32} {n : Nat} {ws : List Addr} (H : own_StrL Z h a t kb g n) (K : Keep h h' ws) (q1 : a ∉ ws) (q2 : t ∉ ws) : own_StrL Z h' a t kb g n := ⟨H.1.keep K, H.2.1.keep K q1, H.2.2.1.keep K q1, H.2.2.2.keep K q2⟩
/-- StringUTF16's statics -/
def own_US (Z : State) : Prop := Sta Z Z.heap "java/lang/StringUTF16" "$assertionsDisabled" "Z" (.int (1 : Int32)) ∧ Sta Z Z.heap "java/lang/StringUTF16" "HI_BYTE_SHIFT" "I" (.int (0 : Int32)) ∧ Sta Z Z.heap "java/lang/StringUTF16" "LO_BYTE_SHIFT" "I" (.int (8 : Int32))

def own_QC (Z : State) (hs : Heap) (b : Addr) (kb : ClassId) (f : Nat → Int32) (n : Nat) : Option Value → Heap → List Loc → Prop := fun v h L => ∃ r : Nat, v = some (.int (Int32.ofNat r)) ∧ Fr Z.heap.size L ∧ Keep hs h [b] ∧ ((r = n ∧ (∀ j, j < n → ¬ (255 : Int32) < f j) ∧ Arv Z h b kb .byte (Int32.ofNat n) (own_vals (fun j => own_lo (f j)) n) (.int (0 : Int32))) ∨ (r < n ∧ (255 : Int32) < f r))
theorem own_d_jdk_52_m21_3 : decode jdk_52_method_21_code 3 = .ok (.iload 5, 2) := by decide +kernel
theorem own_d_jdk_52_m21_5 : decode jdk_52_method_21_code 5 = .ok (.iload 4, 2) := by decide +kernel
theorem own_d_jdk_52_m21_7 : decode jdk_52_method_21_code 7 = .ok (.if_icmp .ge 37, 3) := by decide +kernel
theorem own_d_jdk_52_m21_10 : decode jdk_52_method_21_code 10 = .ok (.aload_n 0, 1) := by decide +kernel
theorem own_d_jdk_52_m21_11 : decode jdk_52_method_21_code 11 = .ok (.iload_n 1, 1) := by decide +kernel
theorem own_d_jdk_52_m21_12 : decode jdk_52_method_21_code 12 = .ok (.caload, 1) := by decide +kernel
theorem own_d_jdk_52_m21_13 : decode jdk_52_method_21_code 13 = .ok (.istore 6, 2) := by decide +kernel
theorem own_d_jdk_52_m21_15 : decode jdk_52_method_21_code 15 = .ok (.iload 6, 2) := by decide +kernel
theorem own_d_jdk_52_m21_17 : decode jdk_52_method_21_code 17 = .ok (.sipush 255, 3) := by decide +kernel
theorem own_d_jdk_52_m21_20 : decode jdk_52_method_21_code 20 = .ok (.if_icmp .le 6, 3) := by decide +kernel
theorem own_d_jdk_52_m21_23 : decode jdk_52_method_21_code 23 = .ok (.iload 5, 2) := by decide +kernel
theorem own_d_jdk_52_m21_25 : decode jdk_52_method_21_code 25 = .ok (.ireturn, 1) := by decide +kernel
theorem own_d_jdk_52_m21_26 : decode jdk_52_method_21_code 26 = .ok (.aload_n 2, 1) := by decide +kernel
theorem own_d_jdk_52_m21_27 : decode jdk_52_method_21_code 27 = .ok (.iload_n 3, 1) := by decide +kernel
theorem own_d_jdk_52_m21_28 : decode jdk_52_method_21_code 28 = .ok (.iload 6, 2) := by decide +kernel
theorem own_d_jdk_52_m21_30 : decode jdk_52_method_21_code 30 = .ok (.i2b, 1) := by decide +kernel
theorem own_d_jdk_52_m21_31 : decode jdk_52_method_21_code 31 = .ok (.bastore, 1) := by decide +kernel
theorem own_d_jdk_52_m21_32 : decode jdk_52_method_21_code 32 = .ok (.iinc 1 1, 3) := by decide +kernel
theorem own_d_jdk_52_m21_35 : decode jdk_52_method_21_code 35 = .ok (.iinc 3 1, 3) := by decide +kernel
theorem own_d_jdk_52_m21_38 : decode jdk_52_method_21_code 38 = .ok (.iinc 5 1, 3) := by decide +kernel
theorem own_d_jdk_52_m21_41 : decode jdk_52_method_21_code 41 = .ok (.goto (-38), 3) := by decide +kernel
set_option maxRecDepth 65536 in
set_option maxHeartbeats 40000000 in
theorem own_c5_turn {p : Program} {l : Launch} {e : Env} {s : State} {m : MethodId} {args : Array Value} {below : List Frame} {meth : Method} {c : Code} {Z : State} {a0 : Array Value} {locs : List Loc} {cells slots : Nat} {T0 : State} {h0 : Heap}  {hs : Heap} (a1 b : Addr) (i n : Nat) (f : Nat → Int32) (kb kc : ClassId) (s6 : Slot) (hx : p.tables.exec = Jvm.exec) (hZ : Z.Warmed39 s.vm) (hw : ∀ d ∈ tables_1, d.before a0 Z = true) (hby : c.code = jdk_52_method_21_code) (hml : c.maxLocals = 7) (hown : s.vm.findClass "java/lang/StringUTF16" = some m.cls) (X0 : Stand p l e ({ frames := 0, cells := 0, slots := 0, locals := 0 } : Room) s m args below meth c T0 locs cells slots) (e0 : T0.heap = h0) (N0 : Fr Z.heap.size locs) (O0 : Old Z Z.heap.size h0) (hret : meth.sig.returnType = some .int) (hlk : meth.locks = false) (hcs : cells ≤ 0) (hss : slots ≤ 0) (hs6 : One s6) (hi : i < n) (hn : n ≤ 10) (gb : Z.heap.size ≤ b) (hne : a1 ≠ b) (Ks : Keep hs h0 [b]) (hall : ∀ j, j < i → ¬ (255 : Int32) < f j) (Vc : Arv Z h0 a1 kc .char (Int32.ofNat n) (own_vals f n) (.int (0 : Int32))) (Vb : Arv Z h0 b kb .byte (Int32.ofNat n) (own_vals (fun j => own_lo (f j)) i) (.int (0 : Int32)))
    (k : ∀ (s6 : Slot) (T' : State) (h' : Heap) (locs' : List Loc), Stand p l e ({ frames := 0, cells := 0, slots := 0, locals := 0 } : Room) s m args below meth c T' locs' cells slots → T'.heap = h' → Fr Z.heap.size locs' → Old Z Z.heap.size h' → One s6 → Keep hs h' [b] → (∀ j, j < i + 1 → ¬ (255 : Int32) < f j) → Arv Z h' a1 kc .char (Int32.ofNat n) (own_vals f n) (.int (0 : Int32)) → Arv Z h' b kb .byte (Int32.ofNat n) (own_vals (fun j => own_lo (f j)) (i + 1)) (.int (0 : Int32)) → own_G p.tables e below (own_F s below (own_QC Z hs b kb f n) 0 0) (T'.setTop (mkF m 3 #[.val (.ref a1), .val (.int (Int32.ofNat (i + 1))), .val (.ref b), .val (.int (Int32.ofNat (i + 1))), .val (.int (Int32.ofNat n)), .val (.int (Int32.ofNat (i + 1))), s6] []))) :
    own_G p.tables e below (own_F s below (own_QC Z hs b kb f n) 0 0) (T0.setTop (mkF m 3 #[.val (.ref a1), .val (.int (Int32.ofNat (i))), .val (.ref b), .val (.int (Int32.ofNat (i))), .val (.int (Int32.ofNat n)), .val (.int (Int32.ofNat (i))), s6] [])) := by
  have z0 : Z.heap.size ≤ h0.size := O0.2.1
  have Kr := Keep.refl h0 [b]
  show own_G _ _ _ _ (T0.setTop (mkF m 3 #[.val (.ref a1), .val (.int (Int32.ofNat (i))), .val (.ref b), .val (.int (Int32.ofNat (i))), .val (.int (Int32.ofNat n)), .val (.int (Int32.ofNat (i))), s6] []))
  have ltc := own_ltN Vc.lt
  have ltb := own_ltN Vb.lt
  refine own_st (fun _ k => XS.iload X0.here hx rfl (hb hby own_d_jdk_52_m21_3) rfl k) ?_
  show own_G _ _ _ _ (T0.setTop (mkF m 5 #[.val (.ref a1), .val (.int (Int32.ofNat (i))), .val (.ref b), .val (.int (Int32.ofNat (i))), .val (.int (Int32.ofNat n)), .val (.int (Int32.ofNat (i))), s6] [(.int (Int32.ofNat (i)))]))
  refine own_st (fun _ k => XS.iload X0.here hx rfl (hb hby own_d_jdk_52_m21_5) rfl k) ?_
  show own_G _ _ _ _ (T0.setTop (mkF m 7 #[.val (.ref a1), .val (.int (Int32.ofNat (i))), .val (.ref b), .val (.int (Int32.ofNat (i))), .val (.int (Int32.ofNat n)), .val (.int (Int32.ofNat (i))), s6] [(.int (Int32.ofNat n)), (.int (Int32.ofNat (i)))]))
  refine own_st (fun _ k => XS.icmpNo X0.here hx rfl (hb hby own_d_jdk_52_m21_7) rfl (tlt (own_lt hi (by omega))).2.1 k) ?_
  show own_G _ _ _ _ (T0.setTop (mkF m 10 #[.val (.ref a1), .val (.int (Int32.ofNat (i))), .val (.ref b), .val (.int (Int32.ofNat (i))), .val (.int (Int32.ofNat n)), .val (.int (Int32.ofNat (i))), s6] []))
  refine own_st (fun _ k => XS.aloadN X0.here hx rfl (hb hby own_d_jdk_52_m21_10) rfl rfl k) ?_
  show own_G _ _ _ _ (T0.setTop (mkF m 11 #[.val (.ref a1), .val (.int (Int32.ofNat (i))), .val (.ref b), .val (.int (Int32.ofNat (i))), .val (.int (Int32.ofNat n)), .val (.int (Int32.ofNat (i))), s6] [(.ref a1)]))
  refine own_st (fun _ k => XS.iloadN X0.here hx rfl (hb hby own_d_jdk_52_m21_11) rfl k) ?_
  show own_G _ _ _ _ (T0.setTop (mkF m 12 #[.val (.ref a1), .val (.int (Int32.ofNat (i))), .val (.ref b), .val (.int (Int32.ofNat (i))), .val (.int (Int32.ofNat n)), .val (.int (Int32.ofNat (i))), s6] [(.int (Int32.ofNat (i))), (.ref a1)]))
  obtain ⟨cl1, Ar1, qk1, Sz1, Mz1, Hz1, Uz1⟩ := id Vc
  refine own_st (X0.caload hx (j := (Int32.ofNat (i))) (v := (.int (f i))) (by rw [e0]; exact Ar1.1) (State.isArrayOf_alike hZ.alike Ar1.2.1) Ar1.2.2 (own_in Sz1 hi (by omega)) (own_get Sz1 Hz1 hi (by omega)) (g := (mkF m 12 #[.val (.ref a1), .val (.int (Int32.ofNat (i))), .val (.ref b), .val (.int (Int32.ofNat (i))), .val (.int (Int32.ofNat n)), .val (.int (Int32.ofNat (i))), s6] [(.int (Int32.ofNat (i))), (.ref a1)])) rfl rfl (hb hby own_d_jdk_52_m21_12)) ?_
  show own_G _ _ _ _ (T0.setTop (mkF m 13 #[.val (.ref a1), .val (.int (Int32.ofNat (i))), .val (.ref b), .val (.int (Int32.ofNat (i))), .val (.int (Int32.ofNat n)), .val (.int (Int32.ofNat (i))), s6] [(.int (f i))]))
  refine own_st (fun _ k => XS.istoreS X0.here hx rfl (hb hby own_d_jdk_52_m21_13) rfl rfl hs6 k) ?_
  show own_G _ _ _ _ (T0.setTop (mkF m 15 #[.val (.ref a1), .val (.int (Int32.ofNat (i))), .val (.ref b), .val (.int (Int32.ofNat (i))), .val (.int (Int32.ofNat n)), .val (.int (Int32.ofNat (i))), .val (.int (f i))] []))
  refine own_st (fun _ k => XS.iload X0.here hx rfl (hb hby own_d_jdk_52_m21_15) rfl k) ?_
  show own_G _ _ _ _ (T0.setTop (mkF m 17 #[.val (.ref a1), .val (.int (Int32.ofNat (i))), .val (.ref b), .val (.int (Int32.ofNat (i))), .val (.int (Int32.ofNat n)), .val (.int (Int32.ofNat (i))), .val (.int (f i))] [(.int (f i))]))
  refine own_st (fun _ k => XS.sipush X0.here hx rfl (hb hby own_d_jdk_52_m21_17) k) ?_
  show own_G _ _ _ _ (T0.setTop (mkF m 20 #[.val (.ref a1), .val (.int (Int32.ofNat (i))), .val (.ref b), .val (.int (Int32.ofNat (i))), .val (.int (Int32.ofNat n)), .val (.int (Int32.ofNat (i))), .val (.int (f i))] [(.int (255 : Int32)), (.int (f i))]))
  by_cases hbig : (255 : Int32) < (f i)
  · show own_G _ _ _ _ (T0.setTop (mkF m 20 #[.val (.ref a1), .val (.int (Int32.ofNat (i))), .val (.ref b), .val (.int (Int32.ofNat (i))), .val (.int (Int32.ofNat n)), .val (.int (Int32.ofNat (i))), .val (.int (f i))] [(.int (255 : Int32)), (.int (f i))]))
    refine own_st (fun _ k => XS.icmpNo X0.here hx rfl (hb hby own_d_jdk_52_m21_20) rfl (tlt hbig).2.2.2 k) ?_
    show own_G _ _ _ _ (T0.setTop (mkF m 23 #[.val (.ref a1), .val (.int (Int32.ofNat (i))), .val (.ref b), .val (.int (Int32.ofNat (i))), .val (.int (Int32.ofNat n)), .val (.int (Int32.ofNat (i))), .val (.int (f i))] []))
    refine own_st (fun _ k => XS.iload X0.here hx rfl (hb hby own_d_jdk_52_m21_23) rfl k) ?_
    show own_G _ _ _ _ (T0.setTop (mkF m 25 #[.val (.ref a1), .val (.int (Int32.ofNat (i))), .val (.ref b), .val (.int (Int32.ofNat (i))), .val (.int (Int32.ofNat n)), .val (.int (Int32.ofNat (i))), .val (.int (f i))] [(.int (Int32.ofNat (i)))]))
    exact own_retI X0 hx hret hlk (hb hby own_d_jdk_52_m21_25) (by rw [e0]; exact ⟨i, rfl, N0, Ks, Or.inr ⟨hi, hbig⟩⟩) hcs hss
  · show own_G _ _ _ _ (T0.setTop (mkF m 20 #[.val (.ref a1), .val (.int (Int32.ofNat (i))), .val (.ref b), .val (.int (Int32.ofNat (i))), .val (.int (Int32.ofNat n)), .val (.int (Int32.ofNat (i))), .val (.int (f i))] [(.int (255 : Int32)), (.int (f i))]))
    refine own_st (fun _ k => XS.icmpYes X0.here hx rfl (pc0 := 20) (pc' := 26) rfl (hb hby own_d_jdk_52_m21_20) rfl (flt hbig).2.2.2 (by decide) (by decide) k) ?_
    show own_G _ _ _ _ (T0.setTop (mkF m 26 #[.val (.ref a1), .val (.int (Int32.ofNat (i))), .val (.ref b), .val (.int (Int32.ofNat (i))), .val (.int (Int32.ofNat n)), .val (.int (Int32.ofNat (i))), .val (.int (f i))] []))
    refine own_st (fun _ k => XS.aloadN X0.here hx rfl (hb hby own_d_jdk_52_m21_26) rfl rfl k) ?_
    show own_G _ _ _ _ (T0.setTop (mkF m 27 #[.val (.ref a1), .val (.int (Int32.ofNat (i))), .val (.ref b), .val (.int (Int32.ofNat (i))), .val (.int (Int32.ofNat n)), .val (.int (Int32.ofNat (i))), .val (.int (f i))] [(.ref b)]))
    refine own_st (fun _ k => XS.iloadN X0.here hx rfl (hb hby own_d_jdk_52_m21_27) rfl k) ?_
    show own_G _ _ _ _ (T0.setTop (mkF m 28 #[.val (.ref a1), .val (.int (Int32.ofNat (i))), .val (.ref b), .val (.int (Int32.ofNat (i))), .val (.int (Int32.ofNat n)), .val (.int (Int32.ofNat (i))), .val (.int (f i))] [(.int (Int32.ofNat (i))), (.ref b)]))
    refine own_st (fun _ k => XS.iload X0.here hx rfl (hb hby own_d_jdk_52_m21_28) rfl k) ?_
    show own_G _ _ _ _ (T0.setTop (mkF m 30 #[.val (.ref a1), .val (.int (Int32.ofNat (i))), .val (.ref b), .val (.int (Int32.ofNat (i))), .val (.int (Int32.ofNat n)), .val (.int (Int32.ofNat (i))), .val (.int (f i))] [(.int (f i)), (.int (Int32.ofNat (i))), (.ref b)]))
    refine own_st (fun _ k => XS.i2b X0.here hx rfl (hb hby own_d_jdk_52_m21_30) rfl k) ?_
    show own_G _ _ _ _ (T0.setTop (mkF m 31 #[.val (.ref a1), .val (.int (Int32.ofNat (i))), .val (.ref b), .val (.int (Int32.ofNat (i))), .val (.int (Int32.ofNat n)), .val (.int (Int32.ofNat (i))), .val (.int (f i))] [(.int ((f i).toInt8.toInt32)), (.int (Int32.ofNat (i))), (.ref b)]))
    have V2p : Arv Z h0 b kb .byte (Int32.ofNat n) ((own_vals (fun j => own_lo (f j)) i) ++ [(.int (0 : Int32))]) (.int (0 : Int32)) := Vb.pad (pad_rep (own_vals (fun j => own_lo (f j)) i) (.int (0 : Int32)) 1)
    obtain ⟨cl3, Ar3, qk3, Sz3, Mz3, Hz3, Uz3⟩ := id V2p
    obtain ⟨T4, h4, X4, e4, W4, st4⟩ := stB X0 hx hZ e0 Ar3 (j := (Int32.ofNat (i))) (own_in Sz3 hi (by omega)) (g := (mkF m 31 #[.val (.ref a1), .val (.int (Int32.ofNat (i))), .val (.ref b), .val (.int (Int32.ofNat (i))), .val (.int (Int32.ofNat n)), .val (.int (Int32.ofNat (i))), .val (.int (f i))] [(.int ((f i).toInt8.toInt32)), (.int (Int32.ofNat (i))), (.ref b)])) rfl rfl (hb hby own_d_jdk_52_m21_31)
    refine own_st st4 ?_
    have V4 := Arv.set Ar3 qk3 Sz3 Mz3 Hz3 Uz3 (fits_nar_byte _) W4 (own_vals (fun j => own_lo (f j)) i).length (by rw [own_clamp (by omega), own_len]) (by simp)
    have z5 : h4.size = h0.size := W4.size
    have O6 := Old.wr O0 W4 (by omega)
    have K7 : Keep h0 h4 [b] := Kr.wr W4 (Or.inl (by simp))
    have N4 := Fr.snoc X4 N0 (by omega : Z.heap.size ≤ b)
    have V4' : Arv Z h4 b kb .byte (Int32.ofNat n) (own_vals (fun j => own_lo (f j)) (i + 1)) (.int (0 : Int32)) := by have q := V4; rw [own_set] at q; rw [← own_next]; exact q
    show own_G _ _ _ _ (T4.setTop (mkF m 32 #[.val (.ref a1), .val (.int (Int32.ofNat (i))), .val (.ref b), .val (.int (Int32.ofNat (i))), .val (.int (Int32.ofNat n)), .val (.int (Int32.ofNat (i))), .val (.int (f i))] []))
    refine own_st (fun _ k => XS.iinc X4.here hx rfl (hb hby own_d_jdk_52_m21_32) rfl (l' := #[.val (.ref a1), .val (.int ((Int32.ofNat (i)) + (1 : Int32))), .val (.ref b), .val (.int (Int32.ofNat (i))), .val (.int (Int32.ofNat n)), .val (.int (Int32.ofNat (i))), .val (.int (f i))]) rfl k) ?_
    show own_G _ _ _ _ (T4.setTop (mkF m 35 #[.val (.ref a1), .val (.int ((Int32.ofNat (i)) + (1 : Int32))), .val (.ref b), .val (.int (Int32.ofNat (i))), .val (.int (Int32.ofNat n)), .val (.int (Int32.ofNat (i))), .val (.int (f i))] []))
    refine own_st (fun _ k => XS.iinc X4.here hx rfl (hb hby own_d_jdk_52_m21_35) rfl (l' := #[.val (.ref a1), .val (.int ((Int32.ofNat (i)) + (1 : Int32))), .val (.ref b), .val (.int ((Int32.ofNat (i)) + (1 : Int32))), .val (.int (Int32.ofNat n)), .val (.int (Int32.ofNat (i))), .val (.int (f i))]) rfl k) ?_
    show own_G _ _ _ _ (T4.setTop (mkF m 38 #[.val (.ref a1), .val (.int ((Int32.ofNat (i)) + (1 : Int32))), .val (.ref b), .val (.int ((Int32.ofNat (i)) + (1 : Int32))), .val (.int (Int32.ofNat n)), .val (.int (Int32.ofNat (i))), .val (.int (f i))] []))
    refine own_st (fun _ k => XS.iinc X4.here hx rfl (hb hby own_d_jdk_52_m21_38) rfl (l' := #[.val (.ref a1), .val (.int ((Int32.ofNat (i)) + (1 : Int32))), .val (.ref b), .val (.int ((Int32.ofNat (i)) + (1 : Int32))), .val (.int (Int32.ofNat n)), .val (.int ((Int32.ofNat (i)) + (1 : Int32))), .val (.int (f i))]) rfl k) ?_
    show own_G _ _ _ _ (T4.setTop (mkF m 41 #[.val (.ref a1), .val (.int ((Int32.ofNat (i)) + (1 : Int32))), .val (.ref b), .val (.int ((Int32.ofNat (i)) + (1 : Int32))), .val (.int (Int32.ofNat n)), .val (.int ((Int32.ofNat (i)) + (1 : Int32))), .val (.int (f i))] []))
    refine own_st (fun _ k => XS.goto X4.here hx rfl (pc0 := 41) (pc' := 3) rfl (hb hby own_d_jdk_52_m21_41) (by decide) (by decide) k) ?_
    show own_G _ _ _ _ (T4.setTop (mkF m 3 #[.val (.ref a1), .val (.int ((Int32.ofNat (i)) + (1 : Int32))), .val (.ref b), .val (.int ((Int32.ofNat (i)) + (1 : Int32))), .val (.int (Int32.ofNat n)), .val (.int ((Int32.ofNat (i)) + (1 : Int32))), .val (.int (f i))] []))
    rw [own_one]
    show own_G _ _ _ _ (T4.setTop (mkF m 3 #[.val (.ref a1), .val (.int (Int32.ofNat (i + 1))), .val (.ref b), .val (.int (Int32.ofNat (i + 1))), .val (.int (Int32.ofNat n)), .val (.int (Int32.ofNat (i + 1))), .val (.int (f i))] []))
    have q8 : Arv Z h4 a1 kc .char (Int32.ofNat n) (own_vals f n) (.int (0 : Int32)) := (Vc.other W4 (show @Ne Nat a1 b by omega))
    exact k _ _ _ _ X4 e4 N4 O6 (One.val rfl) (Ks.trans K7 (allS (Or.inl (by simp)) all0)) (fun j hj => by rcases Nat.lt_or_ge j i with q | q; exact hall j q; rw [show j = i by omega]; exact hbig) q8 V4'
theorem own_d_jdk_52_m21_44 : decode jdk_52_method_21_code 44 = .ok (.iload 4, 2) := by decide +kernel
theorem own_d_jdk_52_m21_46 : decode jdk_52_method_21_code 46 = .ok (.ireturn, 1) := by decide +kernel
set_option maxRecDepth 65536 in
set_option maxHeartbeats 40000000 in
theorem own_c5_exit {p : Program} {l : Launch} {e : Env} {s : State} {m : MethodId} {args : Array Value} {below : List Frame} {meth : Method} {c : Code} {Z : State} {a0 : Array Value} {locs : List Loc} {cells slots : Nat} {T0 : State} {h0 : Heap}  {hs : Heap} (a1 b : Addr) (n : Nat) (f : Nat → Int32) (kb : ClassId) (s6 : Slot) (hx : p.tables.exec = Jvm.exec) (hZ : Z.Warmed39 s.vm) (hw : ∀ d ∈ tables_1, d.before a0 Z = true) (hby : c.code = jdk_52_method_21_code) (hml : c.maxLocals = 7) (hown : s.vm.findClass "java/lang/StringUTF16" = some m.cls) (X0 : Stand p l e ({ frames := 0, cells := 0, slots := 0, locals := 0 } : Room) s m args below meth c T0 locs cells slots) (e0 : T0.heap = h0) (N0 : Fr Z.heap.size locs) (O0 : Old Z Z.heap.size h0) (hret : meth.sig.returnType = some .int) (hlk : meth.locks = false) (hcs : cells ≤ 0) (hss : slots ≤ 0) (Ks : Keep hs h0 [b]) (hall : ∀ j, j < n → ¬ (255 : Int32) < f j) (Vb : Arv Z h0 b kb .byte (Int32.ofNat n) (own_vals (fun j => own_lo (f j)) n) (.int (0 : Int32)))
     :
    own_G p.tables e below (own_F s below (own_QC Z hs b kb f n) 0 0) (T0.setTop (mkF m 3 #[.val (.ref a1), .val (.int (Int32.ofNat (n))), .val (.ref b), .val (.int (Int32.ofNat (n))), .val (.int (Int32.ofNat n)), .val (.int (Int32.ofNat (n))), s6] [])) := by
  have z0 : Z.heap.size ≤ h0.size := O0.2.1
  have Kr := Keep.refl h0 []
  show own_G _ _ _ _ (T0.setTop (mkF m 3 #[.val (.ref a1), .val (.int (Int32.ofNat (n))), .val (.ref b), .val (.int (Int32.ofNat (n))), .val (.int (Int32.ofNat n)), .val (.int (Int32.ofNat (n))), s6] []))
  refine own_st (fun _ k => XS.iload X0.here hx rfl (hb hby own_d_jdk_52_m21_3) rfl k) ?_
  show own_G _ _ _ _ (T0.setTop (mkF m 5 #[.val (.ref a1), .val (.int (Int32.ofNat (n))), .val (.ref b), .val (.int (Int32.ofNat (n))), .val (.int (Int32.ofNat n)), .val (.int (Int32.ofNat (n))), s6] [(.int (Int32.ofNat (n)))]))
  refine own_st (fun _ k => XS.iload X0.here hx rfl (hb hby own_d_jdk_52_m21_5) rfl k) ?_
  show own_G _ _ _ _ (T0.setTop (mkF m 7 #[.val (.ref a1), .val (.int (Int32.ofNat (n))), .val (.ref b), .val (.int (Int32.ofNat (n))), .val (.int (Int32.ofNat n)), .val (.int (Int32.ofNat (n))), s6] [(.int (Int32.ofNat n)), (.int (Int32.ofNat (n)))]))
  refine own_st (fun _ k => XS.icmpYes X0.here hx rfl (pc0 := 7) (pc' := 44) rfl (hb hby own_d_jdk_52_m21_7) rfl (flt Int32.lt_irrefl).2.1 (by decide) (by decide) k) ?_
  show own_G _ _ _ _ (T0.setTop (mkF m 44 #[.val (.ref a1), .val (.int (Int32.ofNat (n))), .val (.ref b), .val (.int (Int32.ofNat (n))), .val (.int (Int32.ofNat n)), .val (.int (Int32.ofNat (n))), s6] []))
  refine own_st (fun _ k => XS.iload X0.here hx rfl (hb hby own_d_jdk_52_m21_44) rfl k) ?_
  show own_G _ _ _ _ (T0.setTop (mkF m 46 #[.val (.ref a1), .val (.int (Int32.ofNat (n))), .val (.ref b), .val (.int (Int32.ofNat (n))), .val (.int (Int32.ofNat n)), .val (.int (Int32.ofNat (n))), s6] [(.int (Int32.ofNat n))]))
  exact own_retI X0 hx hret hlk (hb hby own_d_jdk_52_m21_46) (by rw [e0]; exact ⟨n, rfl, N0, Ks, Or.inl ⟨rfl, hall, Vb⟩⟩) hcs hss
theorem own_c5_loop {p : Program} {l : Launch} {e : Env} {s : State} {m : MethodId} {args : Array Value} {below : List Frame} {meth : Method} {c : Code} {Z : State} {a0 : Array Value} {cells slots : Nat} {hs : Heap} (a1 b : Addr) (n : Nat) (f : Nat → Int32) (kb kc : ClassId) (hx : p.tables.exec = Jvm.exec) (hZ : Z.Warmed39 s.vm) (hw : ∀ d ∈ tables_1, d.before a0 Z = true) (hby : c.code = jdk_52_method_21_code) (hml : c.maxLocals = 7) (hown : s.vm.findClass "java/lang/StringUTF16" = some m.cls) (hret : meth.sig.returnType = some .int) (hlk : meth.locks = false) (hcs : cells ≤ 0) (hss : slots ≤ 0) (hn : n ≤ 10) (gb : Z.heap.size ≤ b) (hne : a1 ≠ b) :
    ∀ (r i : Nat) (s6 : Slot) (T' : State) (h' : Heap) (locs' : List Loc), i + r = n → Stand p l e ({ frames := 0, cells := 0, slots := 0, locals := 0 } : Room) s m args below meth c T' locs' cells slots → T'.heap = h' → Fr Z.heap.size locs' → Old Z Z.heap.size h' → One s6 → Keep hs h' [b] → (∀ j, j < i → ¬ (255 : Int32) < f j) → Arv Z h' a1 kc .char (Int32.ofNat n) (own_vals f n) (.int (0 : Int32)) → Arv Z h' b kb .byte (Int32.ofNat n) (own_vals (fun j => own_lo (f j)) (i)) (.int (0 : Int32)) → own_G p.tables e below (own_F s below (own_QC Z hs b kb f n) 0 0) (T'.setTop (mkF m 3 #[.val (.ref a1), .val (.int (Int32.ofNat (i))), .val (.ref b), .val (.int (Int32.ofNat (i))), .val (.int (Int32.ofNat n)), .val (.int (Int32.ofNat (i))), s6] [])) := by
  intro r
  induction r with
  | zero =>
    intro i s6 T' h' locs' hi X e1 N O h6 K ha Vc Vb
    have hi' : i = n := by omega
    subst hi'
    exact own_c5_exit a1 b i f kb s6 hx hZ hw hby hml hown X e1 N O hret hlk hcs hss K ha Vb
  | succ r ih =>
    intro i s6 T' h' locs' hi X e1 N O h6 K ha Vc Vb
    exact own_c5_turn a1 b i n f kb kc s6 hx hZ hw hby hml hown X e1 N O hret hlk hcs hss h6 (by omega) hn gb hne K ha Vc Vb fun s7 T2 h2 L2 X2 e2 N2 O2 h62 K2 ha2 Vc2 Vb2 => ih (i + 1) s7 T2 h2 L2 (by omega) X2 e2 N2 O2 h62 K2 ha2 Vc2 Vb2
theorem own_pn23 : plainName "java/lang/StringUTF16" = true := by first | (simp [plainName, overriddenIn]; done) | decide +kernel
theorem own_d_jdk_52_m21_0 : decode jdk_52_method_21_code 0 = .ok (.iconst 0, 1) := by decide +kernel
theorem own_d_jdk_52_m21_1 : decode jdk_52_method_21_code 1 = .ok (.istore 5, 2) := by decide +kernel
set_option maxRecDepth 65536 in
set_option maxHeartbeats 40000000 in
theorem own_c5 (l : Launch) (Z : State) (a0 : Array Value) (hw : ∀ d ∈ tables_1, d.before a0 Z = true) (ws : List Jvm.Cond) (a1 : Addr) (b : Addr) (n : Nat) (f : Nat → Int32) (kb kc : ClassId) (h0 : Heap) (O0 : Old Z Z.heap.size h0) (hn : n ≤ 10) (gb : Z.heap.size ≤ b) (hne : a1 ≠ b) (Vc : Arv Z h0 a1 kc .char (Int32.ofNat n) (own_vals f n) (.int (0 : Int32))) (Vb : Arv Z h0 b kb .byte (Int32.ofNat n) [] (.int (0 : Int32))) :
    own_Met l Z (⟨"java/lang/StringUTF16", "compress", "([CI[BII)I"⟩ : MethodName) jdk_52_method_21_code 7 (some .int) ws ({ frames := 0, cells := 0, slots := 0, locals := 0 } : Room) #[(.ref a1), (.int (Int32.ofNat 0)), (.ref b), (.int (Int32.ofNat 0)), (.int (Int32.ofNat n))] h0 (own_QC Z h0 b kb f n) (({ frames := 0, cells := 0, slots := 0, locals := 0 } : Room)).cells (({ frames := 0, cells := 0, slots := 0, locals := 0 } : Room)).slots := by
  refine own_body (ef := fun m => mkF m 0 #[.val (.ref a1), .val (.int (Int32.ofNat 0)), .val (.ref b), .val (.int (Int32.ofNat 0)), .val (.int (Int32.ofNat n)), .unset, .unset] []) (plainFor_of_name own_pn23) (fun m => by first | rfl | (simp [entryFrame, mkF, argsToLocals, Value.category]; done)) ?_
  intro p e s m below meth c T0 hx hZ hby hml hown hnm hret hlk X0 e0
  have N0 := Fr.nil Z.heap.size
  have z0 : Z.heap.size ≤ h0.size := O0.2.1
  have Kr := Keep.refl h0 []
  show own_G _ _ _ _ (T0.setTop (mkF m 0 #[.val (.ref a1), .val (.int (Int32.ofNat 0)), .val (.ref b), .val (.int (Int32.ofNat 0)), .val (.int (Int32.ofNat n)), .unset, .unset] []))
  refine own_st (fun _ k => XS.iconst X0.here hx rfl (hb hby own_d_jdk_52_m21_0) k) ?_
  show own_G _ _ _ _ (T0.setTop (mkF m 1 #[.val (.ref a1), .val (.int (Int32.ofNat 0)), .val (.ref b), .val (.int (Int32.ofNat 0)), .val (.int (Int32.ofNat n)), .unset, .unset] [(.int (0 : Int32))]))
  refine own_st (fun _ k => XS.istore X0.here hx rfl (hb hby own_d_jdk_52_m21_1) rfl (l' := #[.val (.ref a1), .val (.int (Int32.ofNat 0)), .val (.ref b), .val (.int (Int32.ofNat 0)), .val (.int (Int32.ofNat n)), .val (.int (0 : Int32)), .unset]) rfl k) ?_
  show own_G _ _ _ _ (T0.setTop (mkF m 3 #[.val (.ref a1), .val (.int (Int32.ofNat 0)), .val (.ref b), .val (.int (Int32.ofNat 0)), .val (.int (Int32.ofNat n)), .val (.int (0 : Int32)), .unset] []))
  exact own_c5_loop a1 b n f kb kc hx hZ hw hby hml hown hret hlk (Nat.le_refl _) (Nat.le_refl _) hn gb hne n 0 .unset _ _ _ (by omega) X0 e0 N0 O0 One.u (Keep.refl _ _) (fun j hj => absurd hj (Nat.not_lt_zero j)) Vc Vb
theorem own_d_jdk_52_m15_0 : decode jdk_52_method_15_code 0 = .ok (.iload_n 1, 1) := by decide +kernel
theorem own_d_jdk_52_m15_1 : decode jdk_52_method_15_code 1 = .ok (.aload_n 0, 1) := by decide +kernel
theorem own_d_jdk_52_m15_2 : decode jdk_52_method_15_code 2 = .ok (.arraylength, 1) := by decide +kernel
theorem own_d_jdk_52_m15_3 : decode jdk_52_method_15_code 3 = .ok (.isub, 1) := by decide +kernel
theorem own_d_jdk_52_m15_4 : decode jdk_52_method_15_code 4 = .ok (.bipush 31, 2) := by decide +kernel
theorem own_d_jdk_52_m15_6 : decode jdk_52_method_15_code 6 = .ok (.iushr, 1) := by decide +kernel
theorem own_d_jdk_52_m15_7 : decode jdk_52_method_15_code 7 = .ok (.i2b, 1) := by decide +kernel
theorem own_d_jdk_52_m15_8 : decode jdk_52_method_15_code 8 = .ok (.ireturn, 1) := by decide +kernel
set_option maxRecDepth 65536 in
set_option maxHeartbeats 40000000 in
theorem own_cod (l : Launch) (Z : State) (a0 : Array Value) (hw : ∀ d ∈ tables_1, d.before a0 Z = true) (ws : List Jvm.Cond) (a1 : Addr) (n : Nat) (N cd : Int32) (vs : List Value) (kb : ClassId) (h0 : Heap) (O0 : Old Z Z.heap.size h0) (V1 : Arv Z h0 a1 kb .byte N vs (.int (0 : Int32))) (hcd : nar .byte (((((Int32.ofNat n) - N).toUInt32 >>> ((31 : Int32) &&& 31).toUInt32).toInt32).toInt8.toInt32) = cd) :
    own_Met l Z (⟨"java/lang/StringUTF16", "coderFromArrayLen", "([BI)B"⟩ : MethodName) jdk_52_method_15_code 2 (some .byte) ws ({ frames := 0, cells := 0, slots := 0, locals := 0 } : Room) #[(.ref a1), (.int (Int32.ofNat n))] h0 (fun v h L => v = some (.int cd) ∧ Fr Z.heap.size L ∧ h = h0) (({ frames := 0, cells := 0, slots := 0, locals := 0 } : Room)).cells (({ frames := 0, cells := 0, slots := 0, locals := 0 } : Room)).slots := by
  refine own_body (ef := fun m => mkF m 0 #[.val (.ref a1), .val (.int (Int32.ofNat n))] []) (plainFor_of_name own_pn23) (fun m => by first | rfl | (simp [entryFrame, mkF, argsToLocals, Value.category]; done)) ?_
  intro p e s m below meth c T0 hx hZ hby hml hown hnm hret hlk X0 e0
  have N0 := Fr.nil Z.heap.size
  have z0 : Z.heap.size ≤ h0.size := O0.2.1
  have Kr := Keep.refl h0 []
  show own_G _ _ _ _ (T0.setTop (mkF m 0 #[.val (.ref a1), .val (.int (Int32.ofNat n))] []))
  refine own_st (fun _ k => XS.iloadN X0.here hx rfl (hb hby own_d_jdk_52_m15_0) rfl k) ?_
  show own_G _ _ _ _ (T0.setTop (mkF m 1 #[.val (.ref a1), .val (.int (Int32.ofNat n))] [(.int (Int32.ofNat n))]))
  refine own_st (fun _ k => XS.aloadN X0.here hx rfl (hb hby own_d_jdk_52_m15_1) rfl rfl k) ?_
  show own_G _ _ _ _ (T0.setTop (mkF m 2 #[.val (.ref a1), .val (.int (Int32.ofNat n))] [(.ref a1), (.int (Int32.ofNat n))]))
  obtain ⟨cl1, Ar1, qk1, Sz1, Mz1, Hz1, Uz1⟩ := id V1
  refine own_st (X0.arraylength hx (by rw [e0]; exact Ar1.1) (State.isArrayOf_alike hZ.alike Ar1.2.1) (g := (mkF m 2 #[.val (.ref a1), .val (.int (Int32.ofNat n))] [(.ref a1), (.int (Int32.ofNat n))])) rfl rfl (hb hby own_d_jdk_52_m15_2)) ?_
  rw [len_of Sz1 Mz1]
  show own_G _ _ _ _ (T0.setTop (mkF m 3 #[.val (.ref a1), .val (.int (Int32.ofNat n))] [(.int N), (.int (Int32.ofNat n))]))
  refine own_st (fun _ k => XS.isub X0.here hx rfl (hb hby own_d_jdk_52_m15_3) rfl k) ?_
  show own_G _ _ _ _ (T0.setTop (mkF m 4 #[.val (.ref a1), .val (.int (Int32.ofNat n))] [(.int ((Int32.ofNat n) - N))]))
  refine own_st (fun _ k => XS.bipush X0.here hx rfl (hb hby own_d_jdk_52_m15_4) k) ?_
  show own_G _ _ _ _ (T0.setTop (mkF m 6 #[.val (.ref a1), .val (.int (Int32.ofNat n))] [(.int (31 : Int32)), (.int ((Int32.ofNat n) - N))]))
  refine own_st (fun _ k => XS.iushr X0.here hx rfl (hb hby own_d_jdk_52_m15_6) rfl k) ?_
  show own_G _ _ _ _ (T0.setTop (mkF m 7 #[.val (.ref a1), .val (.int (Int32.ofNat n))] [(.int ((((Int32.ofNat n) - N).toUInt32 >>> ((31 : Int32) &&& 31).toUInt32).toInt32))]))
  refine own_st (fun _ k => XS.i2b X0.here hx rfl (hb hby own_d_jdk_52_m15_7) rfl k) ?_
  show own_G _ _ _ _ (T0.setTop (mkF m 8 #[.val (.ref a1), .val (.int (Int32.ofNat n))] [(.int (((((Int32.ofNat n) - N).toUInt32 >>> ((31 : Int32) &&& 31).toUInt32).toInt32).toInt8.toInt32))]))
  exact own_retN X0 hx hret hlk (by simp) (hb hby own_d_jdk_52_m15_8) (by rw [e0]; exact ⟨by rw [hcd], N0, rfl⟩) (by decide) (by decide)
theorem own_d_jdk_52_m16_0 : decode jdk_52_method_16_code 0 = .ok (.iload_n 2, 1) := by decide +kernel
theorem own_d_jdk_52_m16_1 : decode jdk_52_method_16_code 1 = .ok (.newarray .byte, 2) := by decide +kernel
theorem own_d_jdk_52_m16_3 : decode jdk_52_method_16_code 3 = .ok (.astore_n 3, 1) := by decide +kernel
theorem own_d_jdk_52_m16_4 : decode jdk_52_method_16_code 4 = .ok (.aload_n 0, 1) := by decide +kernel
theorem own_d_jdk_52_m16_5 : decode jdk_52_method_16_code 5 = .ok (.iload_n 1, 1) := by decide +kernel
theorem own_d_jdk_52_m16_6 : decode jdk_52_method_16_code 6 = .ok (.aload_n 3, 1) := by decide +kernel
theorem own_d_jdk_52_m16_7 : decode jdk_52_method_16_code 7 = .ok (.iconst 0, 1) := by decide +kernel
theorem own_d_jdk_52_m16_8 : decode jdk_52_method_16_code 8 = .ok (.iload_n 2, 1) := by decide +kernel
theorem own_d_jdk_52_m16_9 : decode jdk_52_method_16_code 9 = .ok (.invokestatic 115, 3) := by decide +kernel
theorem own_pd43 : parseMethodDescriptor "([CI[BII)I" = some ⟨[(.array .char), .int, (.array .byte), .int, .int], some .int⟩ := by decide +kernel
theorem own_d_jdk_52_m16_12 : decode jdk_52_method_16_code 12 = .ok (.istore 4, 2) := by decide +kernel
theorem own_d_jdk_52_m16_14 : decode jdk_52_method_16_code 14 = .ok (.iload 4, 2) := by decide +kernel
theorem own_d_jdk_52_m16_16 : decode jdk_52_method_16_code 16 = .ok (.iload_n 2, 1) := by decide +kernel
theorem own_d_jdk_52_m16_17 : decode jdk_52_method_16_code 17 = .ok (.if_icmp .eq 40, 3) := by decide +kernel
theorem own_d_jdk_52_m16_57 : decode jdk_52_method_16_code 57 = .ok (.aload_n 3, 1) := by decide +kernel
theorem own_d_jdk_52_m16_58 : decode jdk_52_method_16_code 58 = .ok (.areturn, 1) := by decide +kernel
set_option maxRecDepth 65536 in
set_option maxHeartbeats 40000000 in
theorem own_c3 (l : Launch) (Z : State) (a0 : Array Value) (hw : ∀ d ∈ tables_1, d.before a0 Z = true) (ws : List Jvm.Cond) (a1 : Addr) (n : Nat) (f : Nat → Int32) (kc : ClassId) (h0 : Heap) (O0 : Old Z Z.heap.size h0) (hn : n ≤ 10) (hf : ∀ j, j < n → ¬ (255 : Int32) < f j) (Vc : Arv Z h0 a1 kc .char (Int32.ofNat n) (own_vals f n) (.int (0 : Int32))) :
    own_Met l Z (⟨"java/lang/StringUTF16", "compress", "([CII)[B"⟩ : MethodName) jdk_52_method_16_code 6 (some (.array .byte)) ws ({ frames := 3, cells := 2, slots := 30, locals := 40 } : Room) #[(.ref a1), (.int (Int32.ofNat 0)), (.int (Int32.ofNat n))] h0 (fun v h L => ∃ t kt, v = some (.ref t) ∧ Fr Z.heap.size L ∧ Keep h0 h [] ∧ h0.size ≤ t ∧ t < h.size ∧ Arv Z h t kt .byte (Int32.ofNat n) (own_vals (fun j => own_lo (f j)) n) (.int (0 : Int32))) (({ frames := 3, cells := 2, slots := 30, locals := 40 } : Room)).cells (({ frames := 3, cells := 2, slots := 30, locals := 40 } : Room)).slots := by
  refine own_body (ef := fun m => mkF m 0 #[.val (.ref a1), .val (.int (Int32.ofNat 0)), .val (.int (Int32.ofNat n)), .unset, .unset, .unset] []) (plainFor_of_name own_pn23) (fun m => by first | rfl | (simp [entryFrame, mkF, argsToLocals, Value.category]; done)) ?_
  intro p e s m below meth c T0 hx hZ hby hml hown hnm hret hlk X0 e0
  have N0 := Fr.nil Z.heap.size
  have z0 : Z.heap.size ≤ h0.size := O0.2.1
  have Kr := Keep.refl h0 []
  show own_G _ _ _ _ (T0.setTop (mkF m 0 #[.val (.ref a1), .val (.int (Int32.ofNat 0)), .val (.int (Int32.ofNat n)), .unset, .unset, .unset] []))
  have ltc := own_ltN Vc.lt
  refine own_st (fun _ k => XS.iloadN X0.here hx rfl (hb hby own_d_jdk_52_m16_0) rfl k) ?_
  show own_G _ _ _ _ (T0.setTop (mkF m 1 #[.val (.ref a1), .val (.int (Int32.ofNat 0)), .val (.int (Int32.ofNat n)), .unset, .unset, .unset] [(.int (Int32.ofNat n))]))
  obtain ⟨T1, h1, k1, X1, e1, E1, A1, st1⟩ := newP X0 hx hZ (hw _ (List.mem_of_getElem? (i := 23) rfl)) e0 (g := (mkF m 1 #[.val (.ref a1), .val (.int (Int32.ofNat 0)), .val (.int (Int32.ofNat n)), .unset, .unset, .unset] [(.int (Int32.ofNat n))])) rfl (hb hby own_d_jdk_52_m16_1) rfl (own_nn (by omega)) (cap := 10) (by rw [own_clamp (by omega)]; omega) (by decide) (by decide) (by decide)
  obtain ⟨b1, g1⟩ : ∃ z, z = h0.size := ⟨_, rfl⟩
  rw [← g1] at A1 st1
  refine own_st st1 ?_
  have z2 : h0.size ≤ h1.size := E1.1
  have O3 := Old.ext O0 E1
  have K4 : Keep h0 h1 [] := Kr.ext E1
  have V1 : Arv Z h1 b1 k1 .byte (Int32.ofNat n) [] (.int (0 : Int32)) := Arv.new A1 (own_nn (by omega))
  have lt1 := own_ltN A1.lt
  show own_G _ _ _ _ (T1.setTop (mkF m 3 #[.val (.ref a1), .val (.int (Int32.ofNat 0)), .val (.int (Int32.ofNat n)), .unset, .unset, .unset] [(.ref b1)]))
  refine own_st (fun _ k => XS.astoreN X1.here hx rfl (hb hby own_d_jdk_52_m16_3) rfl rfl (l' := #[.val (.ref a1), .val (.int (Int32.ofNat 0)), .val (.int (Int32.ofNat n)), .val (.ref b1), .unset, .unset]) rfl k) ?_
  show own_G _ _ _ _ (T1.setTop (mkF m 4 #[.val (.ref a1), .val (.int (Int32.ofNat 0)), .val (.int (Int32.ofNat n)), .val (.ref b1), .unset, .unset] []))
  refine own_st (fun _ k => XS.aloadN X1.here hx rfl (hb hby own_d_jdk_52_m16_4) rfl rfl k) ?_
  show own_G _ _ _ _ (T1.setTop (mkF m 5 #[.val (.ref a1), .val (.int (Int32.ofNat 0)), .val (.int (Int32.ofNat n)), .val (.ref b1), .unset, .unset] [(.ref a1)]))
  refine own_st (fun _ k => XS.iloadN X1.here hx rfl (hb hby own_d_jdk_52_m16_5) rfl k) ?_
  show own_G _ _ _ _ (T1.setTop (mkF m 6 #[.val (.ref a1), .val (.int (Int32.ofNat 0)), .val (.int (Int32.ofNat n)), .val (.ref b1), .unset, .unset] [(.int (Int32.ofNat 0)), (.ref a1)]))
  refine own_st (fun _ k => XS.aloadN X1.here hx rfl (hb hby own_d_jdk_52_m16_6) rfl rfl k) ?_
  show own_G _ _ _ _ (T1.setTop (mkF m 7 #[.val (.ref a1), .val (.int (Int32.ofNat 0)), .val (.int (Int32.ofNat n)), .val (.ref b1), .unset, .unset] [(.ref b1), (.int (Int32.ofNat 0)), (.ref a1)]))
  refine own_st (fun _ k => XS.iconst X1.here hx rfl (hb hby own_d_jdk_52_m16_7) k) ?_
  show own_G _ _ _ _ (T1.setTop (mkF m 8 #[.val (.ref a1), .val (.int (Int32.ofNat 0)), .val (.int (Int32.ofNat n)), .val (.ref b1), .unset, .unset] [(.int (0 : Int32)), (.ref b1), (.int (Int32.ofNat 0)), (.ref a1)]))
  refine own_st (fun _ k => XS.iloadN X1.here hx rfl (hb hby own_d_jdk_52_m16_8) rfl k) ?_
  show own_G _ _ _ _ (T1.setTop (mkF m 9 #[.val (.ref a1), .val (.int (Int32.ofNat 0)), .val (.int (Int32.ofNat n)), .val (.ref b1), .unset, .unset] [(.int (Int32.ofNat n)), (.int (0 : Int32)), (.ref b1), (.int (Int32.ofNat 0)), (.ref a1)]))
  have q5 : Arv Z h1 a1 kc .char (Int32.ofNat n) (own_vals f n) (.int (0 : Int32)) := (Vc.ext E1)
  obtain ⟨_, _, ⟨T6, L6, k6, n6⟩, -, X6, ⟨Lc6, hQ6, l6, y6, z6⟩, st6⟩ := Jvm.LawKit.callS X1 hx (y := (⟨"java/lang/StringUTF16", "compress", "([CI[BII)I"⟩ : MethodName)) hown (mvT hZ (hw _ (List.mem_of_getElem? (i := 24) rfl))) (mvT hZ (hw _ (List.mem_of_getElem? (i := 25) rfl))) (mvT hZ (hw _ (List.mem_of_getElem? (i := 21) rfl))) (mvT hZ (hw _ (List.mem_of_getElem? (i := 26) rfl))) (by decide) (own_back (rm := ({ frames := 0, cells := 0, slots := 0, locals := 0 } : Room)) (W := 0) (own_c5 l Z a0 hw [] a1 b1 n f k1 kc h1 O3 hn (by omega) (show @Ne Nat a1 b1 by omega) q5 V1) hZ (hw _ (List.mem_of_getElem? (i := 26) rfl)) (hw _ (List.mem_of_getElem? (i := 21) rfl)) (by decide) (by decide)) (g := (mkF m 9 #[.val (.ref a1), .val (.int (Int32.ofNat 0)), .val (.int (Int32.ofNat n)), .val (.ref b1), .unset, .unset] [(.int (Int32.ofNat n)), (.int (0 : Int32)), (.ref b1), (.int (Int32.ofNat 0)), (.ref a1)])) rfl (by rw [hml]; rfl) (argsL := [(.ref a1), (.int (Int32.ofNat 0)), (.ref b1), (.int (0 : Int32)), (.int (Int32.ofNat n))]) (rest := []) (lenOf own_pd43 rfl) rfl (by show 2 * 0 + _ ≤ _; exact Nat.le_of_eq rfl) (hb hby own_d_jdk_52_m16_9) (fun _ _ => ⟨rfl, e1, (by decide : 0 + 1 + 0 ≤ _), (by decide : 0 + 10 + 0 ≤ _)⟩)
  dsimp only [Pt.U, Pt.locs, Pt.cells, Pt.slots] at X6 l6 y6 z6 st6 hQ6
  subst l6 y6 z6
  obtain ⟨r, rfl, N6q, K6_, c6⟩ := hQ6
  have N6 := Fr.app N0 N6q
  refine own_st st6 ?_
  have z7 : h1.size ≤ T6.heap.size := K6_.1
  have O8 := Old.keep O3 K6_ (allS (by omega) all0)
  have K9 : Keep h0 T6.heap [] := K4.trans K6_ (allS (Or.inr (by omega)) all0)
  show own_G _ _ _ _ (T6.setTop (mkF m 12 #[.val (.ref a1), .val (.int (Int32.ofNat 0)), .val (.int (Int32.ofNat n)), .val (.ref b1), .unset, .unset] [(.int (Int32.ofNat r))]))
  refine own_st (fun _ k => XS.istore X6.here hx rfl (hb hby own_d_jdk_52_m16_12) rfl (l' := #[.val (.ref a1), .val (.int (Int32.ofNat 0)), .val (.int (Int32.ofNat n)), .val (.ref b1), .val (.int (Int32.ofNat r)), .unset]) rfl k) ?_
  show own_G _ _ _ _ (T6.setTop (mkF m 14 #[.val (.ref a1), .val (.int (Int32.ofNat 0)), .val (.int (Int32.ofNat n)), .val (.ref b1), .val (.int (Int32.ofNat r)), .unset] []))
  refine own_st (fun _ k => XS.iload X6.here hx rfl (hb hby own_d_jdk_52_m16_14) rfl k) ?_
  show own_G _ _ _ _ (T6.setTop (mkF m 16 #[.val (.ref a1), .val (.int (Int32.ofNat 0)), .val (.int (Int32.ofNat n)), .val (.ref b1), .val (.int (Int32.ofNat r)), .unset] [(.int (Int32.ofNat r))]))
  refine own_st (fun _ k => XS.iloadN X6.here hx rfl (hb hby own_d_jdk_52_m16_16) rfl k) ?_
  show own_G _ _ _ _ (T6.setTop (mkF m 17 #[.val (.ref a1), .val (.int (Int32.ofNat 0)), .val (.int (Int32.ofNat n)), .val (.ref b1), .val (.int (Int32.ofNat r)), .unset] [(.int (Int32.ofNat n)), (.int (Int32.ofNat r))]))
  rcases c6 with ⟨hrn, hall, Vl⟩ | ⟨hr, hbig⟩
  · skip
    refine own_st (fun _ k => XS.icmpYes X6.here hx rfl (pc0 := 17) (pc' := 57) rfl (hb hby own_d_jdk_52_m16_17) rfl (teq (by rw [hrn])).1 (by decide) (by decide) k) ?_
    show own_G _ _ _ _ (T6.setTop (mkF m 57 #[.val (.ref a1), .val (.int (Int32.ofNat 0)), .val (.int (Int32.ofNat n)), .val (.ref b1), .val (.int (Int32.ofNat r)), .unset] []))
    refine own_st (fun _ k => XS.aloadN X6.here hx rfl (hb hby own_d_jdk_52_m16_57) rfl rfl k) ?_
    show own_G _ _ _ _ (T6.setTop (mkF m 58 #[.val (.ref a1), .val (.int (Int32.ofNat 0)), .val (.int (Int32.ofNat n)), .val (.ref b1), .val (.int (Int32.ofNat r)), .unset] [(.ref b1)]))
    exact own_retA X6 hx hret rfl rfl hlk (hb hby own_d_jdk_52_m16_58) ⟨b1, k1, rfl, N6, K9, by omega, Vl.lt, Vl⟩ (by decide) (by decide)
  · skip
    exact absurd hbig (hf r hr)
theorem own_pn50 : plainName "java/lang/String" = true := by first | (simp [plainName, overriddenIn]; done) | decide +kernel
theorem own_d_jdk_42_m149_0 : decode jdk_42_method_149_code 0 = .ok (.aload_n 0, 1) := by decide +kernel
theorem own_d_jdk_42_m149_1 : decode jdk_42_method_149_code 1 = .ok (.invokespecial 1, 3) := by decide +kernel
theorem own_d_jdk_42_m149_4 : decode jdk_42_method_149_code 4 = .ok (.iload_n 3, 1) := by decide +kernel
theorem own_d_jdk_42_m149_5 : decode jdk_42_method_149_code 5 = .ok (.ifCond .ne 22, 3) := by decide +kernel
theorem own_d_jdk_42_m149_27 : decode jdk_42_method_149_code 27 = .ok (.getstatic 38, 3) := by decide +kernel
theorem own_d_jdk_42_m149_30 : decode jdk_42_method_149_code 30 = .ok (.ifCond .eq 28, 3) := by decide +kernel
theorem own_d_jdk_42_m149_33 : decode jdk_42_method_149_code 33 = .ok (.aload_n 1, 1) := by decide +kernel
theorem own_d_jdk_42_m149_34 : decode jdk_42_method_149_code 34 = .ok (.iload_n 2, 1) := by decide +kernel
theorem own_d_jdk_42_m149_35 : decode jdk_42_method_149_code 35 = .ok (.iload_n 3, 1) := by decide +kernel
theorem own_d_jdk_42_m149_36 : decode jdk_42_method_149_code 36 = .ok (.invokestatic 177, 3) := by decide +kernel
theorem own_pd61 : parseMethodDescriptor "([CII)[B" = some ⟨[(.array .char), .int, .int], some (.array .byte)⟩ := by decide +kernel
theorem own_d_jdk_42_m149_39 : decode jdk_42_method_149_code 39 = .ok (.astore 5, 2) := by decide +kernel
theorem own_d_jdk_42_m149_41 : decode jdk_42_method_149_code 41 = .ok (.aload_n 0, 1) := by decide +kernel
theorem own_d_jdk_42_m149_42 : decode jdk_42_method_149_code 42 = .ok (.aload 5, 2) := by decide +kernel
theorem own_d_jdk_42_m149_44 : decode jdk_42_method_149_code 44 = .ok (.iload_n 3, 1) := by decide +kernel
theorem own_d_jdk_42_m149_45 : decode jdk_42_method_149_code 45 = .ok (.invokestatic 47, 3) := by decide +kernel
theorem own_pd67 : parseMethodDescriptor "([BI)B" = some ⟨[(.array .byte), .int], some .byte⟩ := by decide +kernel
theorem own_d_jdk_42_m149_48 : decode jdk_42_method_149_code 48 = .ok (.putfield 15, 3) := by decide +kernel
theorem own_d_jdk_42_m149_51 : decode jdk_42_method_149_code 51 = .ok (.aload_n 0, 1) := by decide +kernel
theorem own_d_jdk_42_m149_52 : decode jdk_42_method_149_code 52 = .ok (.aload 5, 2) := by decide +kernel
theorem own_d_jdk_42_m149_54 : decode jdk_42_method_149_code 54 = .ok (.putfield 9, 3) := by decide +kernel
theorem own_d_jdk_42_m149_57 : decode jdk_42_method_149_code 57 = .ok (.return_, 1) := by decide +kernel
set_option maxRecDepth 65536 in
set_option maxHeartbeats 40000000 in
theorem own_i4 (l : Launch) (Z : State) (a0 : Array Value) (hw : ∀ d ∈ tables_1, d.before a0 Z = true) (ws : List Jvm.Cond) (a1 : Addr) (a2 : Addr) (n : Nat) (f : Nat → Int32) (kc : ClassId) (w1 : Int32) (u1 u2 : Value) (h0 : Heap) (O0 : Old Z Z.heap.size h0) (hn1 : 1 ≤ n) (hn : n ≤ 10) (hf : ∀ j, j < n → ¬ (255 : Int32) < f j) (S1 : Sta Z Z.heap "java/lang/String" "COMPACT_STRINGS" "Z" (.int w1)) (hw1 : ¬ (w1 = (0 : Int32))) (ga : Z.heap.size ≤ a1) (hne : a1 ≠ a2) (Ea : Exa Z h0 a1 "java/lang/String") (Fv : Fld Z h0 a1 "java/lang/String" "value" "[B" u1) (Fc : Fld Z h0 a1 "java/lang/String" "coder" "B" u2) (Vc : Arv Z h0 a2 kc .char (Int32.ofNat n) (own_vals f n) (.int (0 : Int32))) :
    own_Met l Z (⟨"java/lang/String", "<init>", "([CIILjava/lang/Void;)V"⟩ : MethodName) jdk_42_method_149_code 6 none ws ({ frames := 4, cells := 2, slots := 30, locals := 57 } : Room) #[(.ref a1), (.ref a2), (.int (Int32.ofNat 0)), (.int (Int32.ofNat n)), .null] h0 (fun v h L => v = none ∧ Fr Z.heap.size L ∧ Keep h0 h [a1] ∧ ∃ t kt, h0.size ≤ t ∧ own_StrL Z h a1 t kt (fun j => own_lo (f j)) n) (({ frames := 4, cells := 2, slots := 30, locals := 57 } : Room)).cells (({ frames := 4, cells := 2, slots := 30, locals := 57 } : Room)).slots := by
  refine own_body (ef := fun m => mkF m 0 #[.val (.ref a1), .val (.ref a2), .val (.int (Int32.ofNat 0)), .val (.int (Int32.ofNat n)), .val .null, .unset] []) (plainFor_of_name own_pn50) (fun m => by first | rfl | (simp [entryFrame, mkF, argsToLocals, Value.category]; done)) ?_
  intro p e s m below meth c T0 hx hZ hby hml hown hnm hret hlk X0 e0
  have N0 := Fr.nil Z.heap.size
  have z0 : Z.heap.size ≤ h0.size := O0.2.1
  have Kr := Keep.refl h0 [a1]
  show own_G _ _ _ _ (T0.setTop (mkF m 0 #[.val (.ref a1), .val (.ref a2), .val (.int (Int32.ofNat 0)), .val (.int (Int32.ofNat n)), .val .null, .unset] []))
  have ltc := own_ltN Vc.lt
  have lta := own_ltN Ea.lt
  refine own_st (fun _ k => XS.aloadN X0.here hx rfl (hb hby own_d_jdk_42_m149_0) rfl rfl k) ?_
  show own_G _ _ _ _ (T0.setTop (mkF m 1 #[.val (.ref a1), .val (.ref a2), .val (.int (Int32.ofNat 0)), .val (.int (Int32.ofNat n)), .val .null, .unset] [(.ref a1)]))
  obtain ⟨T1, X1, e1, st1⟩ := initO X0 hx hZ hown (hw _ (List.mem_of_getElem? (i := 15) rfl)) (hw _ (List.mem_of_getElem? (i := 16) rfl)) (hw _ (List.mem_of_getElem? (i := 17) rfl)) e0 (g := (mkF m 1 #[.val (.ref a1), .val (.ref a2), .val (.int (Int32.ofNat 0)), .val (.int (Int32.ofNat n)), .val .null, .unset] [(.ref a1)])) rfl (by rw [hml]; rfl) rfl (hb hby own_d_jdk_42_m149_1) (by decide) (W := 0) (by show 2 * 0 + _ ≤ _; exact Nat.le_of_eq rfl) (by decide)
  refine own_st st1 ?_
  show own_G _ _ _ _ (T1.setTop (mkF m 4 #[.val (.ref a1), .val (.ref a2), .val (.int (Int32.ofNat 0)), .val (.int (Int32.ofNat n)), .val .null, .unset] []))
  refine own_st (fun _ k => XS.iloadN X1.here hx rfl (hb hby own_d_jdk_42_m149_4) rfl k) ?_
  show own_G _ _ _ _ (T1.setTop (mkF m 5 #[.val (.ref a1), .val (.ref a2), .val (.int (Int32.ofNat 0)), .val (.int (Int32.ofNat n)), .val .null, .unset] [(.int (Int32.ofNat n))]))
  refine own_st (fun _ k => XS.ifYes X1.here hx rfl (pc0 := 5) (pc' := 27) rfl (hb hby own_d_jdk_42_m149_5) rfl ((if0 _ _).trans (feq (fun q => by have := congrArg Int32.toInt q; rw [own_nat (by omega), show (0 : Int32).toInt = 0 from rfl] at this; omega)).2) (by decide) (by decide) k) ?_
  show own_G _ _ _ _ (T1.setTop (mkF m 27 #[.val (.ref a1), .val (.ref a2), .val (.int (Int32.ofNat 0)), .val (.int (Int32.ofNat n)), .val .null, .unset] []))
  obtain ⟨T2, X2, e2, st2⟩ := getS2 X1 hx hZ hown (host := "") (Or.inl (hw _ (List.mem_of_getElem? (i := 18) rfl))) Via.refl e1 (Sta.ext O0.2 S1) (g := (mkF m 27 #[.val (.ref a1), .val (.ref a2), .val (.int (Int32.ofNat 0)), .val (.int (Int32.ofNat n)), .val .null, .unset] [])) rfl (hb hby own_d_jdk_42_m149_27)
  refine own_st st2 ?_
  show own_G _ _ _ _ (T2.setTop (mkF m 30 #[.val (.ref a1), .val (.ref a2), .val (.int (Int32.ofNat 0)), .val (.int (Int32.ofNat n)), .val .null, .unset] [(.int w1)]))
  refine own_st (fun _ k => XS.ifNo X2.here hx rfl (hb hby own_d_jdk_42_m149_30) rfl ((if0 _ _).trans (feq hw1).1) k) ?_
  show own_G _ _ _ _ (T2.setTop (mkF m 33 #[.val (.ref a1), .val (.ref a2), .val (.int (Int32.ofNat 0)), .val (.int (Int32.ofNat n)), .val .null, .unset] []))
  refine own_st (fun _ k => XS.aloadN X2.here hx rfl (hb hby own_d_jdk_42_m149_33) rfl rfl k) ?_
  show own_G _ _ _ _ (T2.setTop (mkF m 34 #[.val (.ref a1), .val (.ref a2), .val (.int (Int32.ofNat 0)), .val (.int (Int32.ofNat n)), .val .null, .unset] [(.ref a2)]))
  refine own_st (fun _ k => XS.iloadN X2.here hx rfl (hb hby own_d_jdk_42_m149_34) rfl k) ?_
  show own_G _ _ _ _ (T2.setTop (mkF m 35 #[.val (.ref a1), .val (.ref a2), .val (.int (Int32.ofNat 0)), .val (.int (Int32.ofNat n)), .val .null, .unset] [(.int (Int32.ofNat 0)), (.ref a2)]))
  refine own_st (fun _ k => XS.iloadN X2.here hx rfl (hb hby own_d_jdk_42_m149_35) rfl k) ?_
  show own_G _ _ _ _ (T2.setTop (mkF m 36 #[.val (.ref a1), .val (.ref a2), .val (.int (Int32.ofNat 0)), .val (.int (Int32.ofNat n)), .val .null, .unset] [(.int (Int32.ofNat n)), (.int (Int32.ofNat 0)), (.ref a2)]))
  obtain ⟨_, _, ⟨T3, L3, k3, n3⟩, -, X3, ⟨Lc3, hQ3, l3, y3, z3⟩, st3⟩ := Jvm.LawKit.callS X2 hx (y := (⟨"java/lang/StringUTF16", "compress", "([CII)[B"⟩ : MethodName)) hown (mvT hZ (hw _ (List.mem_of_getElem? (i := 19) rfl))) (mvT hZ (hw _ (List.mem_of_getElem? (i := 20) rfl))) (mvT hZ (hw _ (List.mem_of_getElem? (i := 21) rfl))) (mvT hZ (hw _ (List.mem_of_getElem? (i := 22) rfl))) (by decide) (own_back (rm := ({ frames := 3, cells := 2, slots := 30, locals := 40 } : Room)) (W := 0) (own_c3 l Z a0 hw [] a2 n f kc h0 O0 hn hf  Vc) hZ (hw _ (List.mem_of_getElem? (i := 22) rfl)) (hw _ (List.mem_of_getElem? (i := 21) rfl)) (by decide) (by decide)) (g := (mkF m 36 #[.val (.ref a1), .val (.ref a2), .val (.int (Int32.ofNat 0)), .val (.int (Int32.ofNat n)), .val .null, .unset] [(.int (Int32.ofNat n)), (.int (Int32.ofNat 0)), (.ref a2)])) rfl (by rw [hml]; rfl) (argsL := [(.ref a2), (.int (Int32.ofNat 0)), (.int (Int32.ofNat n))]) (rest := []) (lenOf own_pd61 rfl) rfl (by show 2 * 0 + _ ≤ _; exact Nat.le_of_eq rfl) (hb hby own_d_jdk_42_m149_36) (fun _ _ => ⟨rfl, e2, (by decide : 0 + 2 ≤ _), (by decide : 0 + 30 ≤ _)⟩)
  dsimp only [Pt.U, Pt.locs, Pt.cells, Pt.slots] at X3 l3 y3 z3 st3 hQ3
  subst l3 y3 z3
  obtain ⟨t, kt, rfl, N3q, K3_, gt, ltt, c3⟩ := hQ3
  have N3 := Fr.app N0 N3q
  refine own_st st3 ?_
  have z4 : h0.size ≤ T3.heap.size := K3_.1
  have O5 := Old.keep O0 K3_ all0
  have K6 : Keep h0 T3.heap [a1] := Kr.trans K3_ all0
  show own_G _ _ _ _ (T3.setTop (mkF m 39 #[.val (.ref a1), .val (.ref a2), .val (.int (Int32.ofNat 0)), .val (.int (Int32.ofNat n)), .val .null, .unset] [(.ref t)]))
  refine own_st (fun _ k => XS.astore X3.here hx rfl (hb hby own_d_jdk_42_m149_39) rfl rfl (l' := #[.val (.ref a1), .val (.ref a2), .val (.int (Int32.ofNat 0)), .val (.int (Int32.ofNat n)), .val .null, .val (.ref t)]) rfl k) ?_
  show own_G _ _ _ _ (T3.setTop (mkF m 41 #[.val (.ref a1), .val (.ref a2), .val (.int (Int32.ofNat 0)), .val (.int (Int32.ofNat n)), .val .null, .val (.ref t)] []))
  refine own_st (fun _ k => XS.aloadN X3.here hx rfl (hb hby own_d_jdk_42_m149_41) rfl rfl k) ?_
  show own_G _ _ _ _ (T3.setTop (mkF m 42 #[.val (.ref a1), .val (.ref a2), .val (.int (Int32.ofNat 0)), .val (.int (Int32.ofNat n)), .val .null, .val (.ref t)] [(.ref a1)]))
  refine own_st (fun _ k => XS.aload X3.here hx rfl (hb hby own_d_jdk_42_m149_42) rfl rfl k) ?_
  show own_G _ _ _ _ (T3.setTop (mkF m 44 #[.val (.ref a1), .val (.ref a2), .val (.int (Int32.ofNat 0)), .val (.int (Int32.ofNat n)), .val .null, .val (.ref t)] [(.ref t), (.ref a1)]))
  refine own_st (fun _ k => XS.iloadN X3.here hx rfl (hb hby own_d_jdk_42_m149_44) rfl k) ?_
  show own_G _ _ _ _ (T3.setTop (mkF m 45 #[.val (.ref a1), .val (.ref a2), .val (.int (Int32.ofNat 0)), .val (.int (Int32.ofNat n)), .val .null, .val (.ref t)] [(.int (Int32.ofNat n)), (.ref t), (.ref a1)]))
  obtain ⟨_, _, ⟨T7, L7, k7, n7⟩, -, X7, ⟨Lc7, hQ7, l7, y7, z7⟩, st7⟩ := Jvm.LawKit.callS X3 hx (y := (⟨"java/lang/StringUTF16", "coderFromArrayLen", "([BI)B"⟩ : MethodName)) hown (mvT hZ (hw _ (List.mem_of_getElem? (i := 27) rfl))) (mvT hZ (hw _ (List.mem_of_getElem? (i := 28) rfl))) (mvT hZ (hw _ (List.mem_of_getElem? (i := 21) rfl))) (mvT hZ (hw _ (List.mem_of_getElem? (i := 29) rfl))) (by decide) (own_back (rm := ({ frames := 0, cells := 0, slots := 0, locals := 0 } : Room)) (W := 1) (own_cod l Z a0 hw [] t n (Int32.ofNat n) (0 : Int32) (own_vals (fun j => own_lo (f j)) n) kt T3.heap O5 c3 (by rw [Int32.sub_self]; rfl)) hZ (hw _ (List.mem_of_getElem? (i := 29) rfl)) (hw _ (List.mem_of_getElem? (i := 21) rfl)) (by decide) (by decide)) (g := (mkF m 45 #[.val (.ref a1), .val (.ref a2), .val (.int (Int32.ofNat 0)), .val (.int (Int32.ofNat n)), .val .null, .val (.ref t)] [(.int (Int32.ofNat n)), (.ref t), (.ref a1)])) rfl (by rw [hml]; rfl) (argsL := [(.ref t), (.int (Int32.ofNat n))]) (rest := [(.ref a1)]) (lenOf own_pd67 rfl) rfl (by show 2 * 0 + _ ≤ _; exact Nat.le_of_eq rfl) (hb hby own_d_jdk_42_m149_45) (fun _ _ => ⟨rfl, rfl, (by decide : 0 + 2 + 0 ≤ _), (by decide : 0 + 30 + 0 ≤ _)⟩)
  dsimp only [Pt.U, Pt.locs, Pt.cells, Pt.slots] at X7 l7 y7 z7 st7 hQ7
  subst l7 y7 z7
  obtain ⟨rfl, N7q, eh7⟩ := hQ7
  have N7 := Fr.app N3 N7q
  refine own_st st7 ?_
  show own_G _ _ _ _ (T7.setTop (mkF m 48 #[.val (.ref a1), .val (.ref a2), .val (.int (Int32.ofNat 0)), .val (.int (Int32.ofNat n)), .val .null, .val (.ref t)] [(.int (0 : Int32)), (.ref a1)]))
  have q8 : Exa Z T3.heap a1 "java/lang/String" := (Ea.keep K3_)
  have q9 : Fld Z T3.heap a1 "java/lang/String" "coder" "B" u2 := (Fc.keep K3_ nin0)
  obtain ⟨T10, h10, X10, e10, W10, st10⟩ := putFN X7 hx hZ hown (hw _ (List.mem_of_getElem? (i := 30) rfl)) Via.refl eh7 q9 q8 (Or.inr ⟨(hw _ (List.mem_of_getElem? (i := 31) rfl)), rfl, hnm⟩) (hw _ (List.mem_of_getElem? (i := 6) rfl)) (ty := .byte) (v' := (.int (nar .byte (0 : Int32)))) (by decide) rfl (fits_nar_byte _) (g := (mkF m 48 #[.val (.ref a1), .val (.ref a2), .val (.int (Int32.ofNat 0)), .val (.int (Int32.ofNat n)), .val .null, .val (.ref t)] [(.int (0 : Int32)), (.ref a1)])) rfl rfl (hb hby own_d_jdk_42_m149_48)
  refine own_st st10 ?_
  have z11 : h10.size = T3.heap.size := W10.size
  have O12 := Old.wr O5 W10 (by omega)
  have K13 : Keep h0 h10 [a1] := K6.wr W10 (Or.inl (by simp))
  have N10 := Fr.snoc X10 N7 (by omega : Z.heap.size ≤ a1)
  have F10 := q9.same W10
  show own_G _ _ _ _ (T10.setTop (mkF m 51 #[.val (.ref a1), .val (.ref a2), .val (.int (Int32.ofNat 0)), .val (.int (Int32.ofNat n)), .val .null, .val (.ref t)] []))
  refine own_st (fun _ k => XS.aloadN X10.here hx rfl (hb hby own_d_jdk_42_m149_51) rfl rfl k) ?_
  show own_G _ _ _ _ (T10.setTop (mkF m 52 #[.val (.ref a1), .val (.ref a2), .val (.int (Int32.ofNat 0)), .val (.int (Int32.ofNat n)), .val .null, .val (.ref t)] [(.ref a1)]))
  refine own_st (fun _ k => XS.aload X10.here hx rfl (hb hby own_d_jdk_42_m149_52) rfl rfl k) ?_
  show own_G _ _ _ _ (T10.setTop (mkF m 54 #[.val (.ref a1), .val (.ref a2), .val (.int (Int32.ofNat 0)), .val (.int (Int32.ofNat n)), .val .null, .val (.ref t)] [(.ref t), (.ref a1)]))
  have q14 : Exa Z h10 a1 "java/lang/String" := (q8.wr W10)
  have q15 : Fld Z h10 a1 "java/lang/String" "value" "[B" u1 := ((Fv.keep K3_ nin0).other W10 (Or.inr (slot_ne (Or.inr (hw _ (List.mem_of_getElem? (i := 33) rfl))) (Or.inr (hw _ (List.mem_of_getElem? (i := 31) rfl))) (by decide) (t := (.array .byte)) (t' := .byte) (by decide) (by decide))))
  obtain ⟨T16, h16, X16, e16, W16, st16⟩ := putF X10 hx hZ hown (host := "") (Or.inl (hw _ (List.mem_of_getElem? (i := 32) rfl))) Via.refl e10 q15 q14 (Or.inr ⟨(hw _ (List.mem_of_getElem? (i := 33) rfl)), rfl, hnm⟩) (hw _ (List.mem_of_getElem? (i := 6) rfl)) (ty := (.array .byte)) (by decide) rfl rfl (g := (mkF m 54 #[.val (.ref a1), .val (.ref a2), .val (.int (Int32.ofNat 0)), .val (.int (Int32.ofNat n)), .val .null, .val (.ref t)] [(.ref t), (.ref a1)])) rfl rfl (hb hby own_d_jdk_42_m149_54)
  refine own_st st16 ?_
  have z17 : h16.size = h10.size := W16.size
  have O18 := Old.wr O12 W16 (by omega)
  have K19 : Keep h0 h16 [a1] := K13.wr W16 (Or.inl (by simp))
  have N16 := Fr.snoc X16 N10 (by omega : Z.heap.size ≤ a1)
  have F16 := q15.same W16
  show own_G _ _ _ _ (T16.setTop (mkF m 57 #[.val (.ref a1), .val (.ref a2), .val (.int (Int32.ofNat 0)), .val (.int (Int32.ofNat n)), .val .null, .val (.ref t)] []))
  have q20 : Exa Z h16 a1 "java/lang/String" := (q14.wr W16)
  have q21 : Fld Z h16 a1 "java/lang/String" "coder" "B" (.int (nar .byte (0 : Int32))) := (F10.other W16 (Or.inr (slot_ne (Or.inr (hw _ (List.mem_of_getElem? (i := 31) rfl))) (Or.inr (hw _ (List.mem_of_getElem? (i := 33) rfl))) (by decide) (t := .byte) (t' := (.array .byte)) (by decide) (by decide))))
  have q22 : Arv Z h16 t kt .byte (Int32.ofNat n) (own_vals (fun j => own_lo (f j)) n) (.int (0 : Int32)) := ((c3.other W10 (show @Ne Nat t a1 by omega)).other W16 (show @Ne Nat t a1 by omega))
  exact own_ret0 X16 hx hret hlk (hb hby own_d_jdk_42_m149_57) (by rw [e16]; exact ⟨rfl, N16, K19, t, kt, by omega, ⟨q20, q21, F16, q22⟩⟩) (by decide) (by decide)
theorem own_d_jdk_42_m3_0 : decode jdk_42_method_3_code 0 = .ok (.aload_n 0, 1) := by decide +kernel
theorem own_d_jdk_42_m3_1 : decode jdk_42_method_3_code 1 = .ok (.aload_n 1, 1) := by decide +kernel
theorem own_d_jdk_42_m3_2 : decode jdk_42_method_3_code 2 = .ok (.iconst 0, 1) := by decide +kernel
theorem own_d_jdk_42_m3_3 : decode jdk_42_method_3_code 3 = .ok (.aload_n 1, 1) := by decide +kernel
theorem own_d_jdk_42_m3_4 : decode jdk_42_method_3_code 4 = .ok (.arraylength, 1) := by decide +kernel
theorem own_d_jdk_42_m3_5 : decode jdk_42_method_3_code 5 = .ok (.aconst_null, 1) := by decide +kernel
theorem own_d_jdk_42_m3_6 : decode jdk_42_method_3_code 6 = .ok (.invokespecial 27, 3) := by decide +kernel
theorem own_pd80 : parseMethodDescriptor "([CIILjava/lang/Void;)V" = some ⟨[(.array .char), .int, .int, (.object "java/lang/Void")], none⟩ := by decide +kernel
theorem own_d_jdk_42_m3_9 : decode jdk_42_method_3_code 9 = .ok (.return_, 1) := by decide +kernel
set_option maxRecDepth 65536 in
set_option maxHeartbeats 40000000 in
theorem own_newS (l : Launch) (Z : State) (a0 : Array Value) (hw : ∀ d ∈ tables_1, d.before a0 Z = true) (ws : List Jvm.Cond) (a1 : Addr) (a2 : Addr) (n : Nat) (f : Nat → Int32) (kc : ClassId) (w1 : Int32) (u1 u2 : Value) (h0 : Heap) (O0 : Old Z Z.heap.size h0) (hn1 : 1 ≤ n) (hn : n ≤ 10) (hf : ∀ j, j < n → ¬ (255 : Int32) < f j) (S1 : Sta Z Z.heap "java/lang/String" "COMPACT_STRINGS" "Z" (.int w1)) (hw1 : ¬ (w1 = (0 : Int32))) (ga : Z.heap.size ≤ a1) (hne : a1 ≠ a2) (Ea : Exa Z h0 a1 "java/lang/String") (Fv : Fld Z h0 a1 "java/lang/String" "value" "[B" u1) (Fc : Fld Z h0 a1 "java/lang/String" "coder" "B" u2) (Vc : Arv Z h0 a2 kc .char (Int32.ofNat n) (own_vals f n) (.int (0 : Int32))) :
    own_Met l Z (⟨"java/lang/String", "<init>", "([C)V"⟩ : MethodName) jdk_42_method_3_code 2 none ws ({ frames := 5, cells := 2, slots := 30, locals := 74 } : Room) #[(.ref a1), (.ref a2)] h0 (fun v h L => v = none ∧ Fr Z.heap.size L ∧ Keep h0 h [a1] ∧ ∃ t kt, h0.size ≤ t ∧ own_StrL Z h a1 t kt (fun j => own_lo (f j)) n) (({ frames := 5, cells := 2, slots := 30, locals := 74 } : Room)).cells (({ frames := 5, cells := 2, slots := 30, locals := 74 } : Room)).slots := by
  refine own_body (ef := fun m => mkF m 0 #[.val (.ref a1), .val (.ref a2)] []) (plainFor_of_name own_pn50) (fun m => by first | rfl | (simp [entryFrame, mkF, argsToLocals, Value.category]; done)) ?_
  intro p e s m below meth c T0 hx hZ hby hml hown hnm hret hlk X0 e0
  have N0 := Fr.nil Z.heap.size
  have z0 : Z.heap.size ≤ h0.size := O0.2.1
  have Kr := Keep.refl h0 [a1]
  show own_G _ _ _ _ (T0.setTop (mkF m 0 #[.val (.ref a1), .val (.ref a2)] []))
  have lta := own_ltN Ea.lt
  refine own_st (fun _ k => XS.aloadN X0.here hx rfl (hb hby own_d_jdk_42_m3_0) rfl rfl k) ?_
  show own_G _ _ _ _ (T0.setTop (mkF m 1 #[.val (.ref a1), .val (.ref a2)] [(.ref a1)]))
  refine own_st (fun _ k => XS.aloadN X0.here hx rfl (hb hby own_d_jdk_42_m3_1) rfl rfl k) ?_
  show own_G _ _ _ _ (T0.setTop (mkF m 2 #[.val (.ref a1), .val (.ref a2)] [(.ref a2), (.ref a1)]))
  refine own_st (fun _ k => XS.iconst X0.here hx rfl (hb hby own_d_jdk_42_m3_2) k) ?_
  show own_G _ _ _ _ (T0.setTop (mkF m 3 #[.val (.ref a1), .val (.ref a2)] [(.int (0 : Int32)), (.ref a2), (.ref a1)]))
  refine own_st (fun _ k => XS.aloadN X0.here hx rfl (hb hby own_d_jdk_42_m3_3) rfl rfl k) ?_
  show own_G _ _ _ _ (T0.setTop (mkF m 4 #[.val (.ref a1), .val (.ref a2)] [(.ref a2), (.int (0 : Int32)), (.ref a2), (.ref a1)]))
  obtain ⟨cl1, Ar1, qk1, Sz1, Mz1, Hz1, Uz1⟩ := id Vc
  refine own_st (X0.arraylength hx (by rw [e0]; exact Ar1.1) (State.isArrayOf_alike hZ.alike Ar1.2.1) (g := (mkF m 4 #[.val (.ref a1), .val (.ref a2)] [(.ref a2), (.int (0 : Int32)), (.ref a2), (.ref a1)])) rfl rfl (hb hby own_d_jdk_42_m3_4)) ?_
  rw [len_of Sz1 Mz1]
  show own_G _ _ _ _ (T0.setTop (mkF m 5 #[.val (.ref a1), .val (.ref a2)] [(.int (Int32.ofNat n)), (.int (0 : Int32)), (.ref a2), (.ref a1)]))
  refine own_st (fun _ k => XS.aconstNull X0.here hx rfl (hb hby own_d_jdk_42_m3_5) k) ?_
  show own_G _ _ _ _ (T0.setTop (mkF m 6 #[.val (.ref a1), .val (.ref a2)] [.null, (.int (Int32.ofNat n)), (.int (0 : Int32)), (.ref a2), (.ref a1)]))
  obtain ⟨_, _, ⟨T2, L2, k2, n2⟩, -, X2, ⟨Lc2, hQ2, l2, y2, z2⟩, st2⟩ := X0.specialBack hx (y := (⟨"java/lang/String", "<init>", "([CIILjava/lang/Void;)V"⟩ : MethodName)) rfl hown (mvT hZ (hw _ (List.mem_of_getElem? (i := 11) rfl))) (mvT hZ (hw _ (List.mem_of_getElem? (i := 12) rfl))) (mvT hZ (hw _ (List.mem_of_getElem? (i := 14) rfl))) (by decide) (own_back (rm := ({ frames := 4, cells := 2, slots := 30, locals := 57 } : Room)) (W := 0) (own_i4 l Z a0 hw [] a1 a2 n f kc w1 u1 u2 h0 O0 hn1 hn hf  S1 hw1 ga hne Ea Fv Fc Vc) hZ (hw _ (List.mem_of_getElem? (i := 14) rfl)) (hw _ (List.mem_of_getElem? (i := 7) rfl)) (by decide) (by decide)) (g := (mkF m 6 #[.val (.ref a1), .val (.ref a2)] [.null, (.int (Int32.ofNat n)), (.int (0 : Int32)), (.ref a2), (.ref a1)])) rfl (by rw [hml]; rfl) (Steps.refl _) (a := a1) (argsL := [(.ref a2), (.int (0 : Int32)), (.int (Int32.ofNat n)), .null]) (rest := []) (lenOf own_pd80 rfl) rfl (by show 2 * 0 + _ ≤ _; exact Nat.le_of_eq rfl) (hb hby own_d_jdk_42_m3_6) (fun _ _ => ⟨rfl, e0, (by decide : 0 + 2 ≤ _), (by decide : 0 + 30 ≤ _)⟩)
  dsimp only [Pt.U, Pt.locs, Pt.cells, Pt.slots] at X2 l2 y2 z2 st2 hQ2
  subst l2 y2 z2
  obtain ⟨rfl, N2q, K2_, Q2⟩ := hQ2
  have N2 := Fr.app N0 N2q
  refine own_tr st2 ?_
  have z3 : h0.size ≤ T2.heap.size := K2_.1
  have O4 := Old.keep O0 K2_ (allS (by omega) all0)
  have K5 : Keep h0 T2.heap [a1] := Kr.trans K2_ (allS (Or.inl (by simp)) all0)
  show own_G _ _ _ _ (T2.setTop (mkF m 9 #[.val (.ref a1), .val (.ref a2)] []))
  exact own_ret0 X2 hx hret hlk (hb hby own_d_jdk_42_m3_9) ⟨rfl, N2, K5, Q2⟩ (by decide) (by decide)
theorem own_d_jdk_42_m152_0 : decode jdk_42_method_152_code 0 = .ok (.getstatic 38, 3) := by decide +kernel
theorem own_d_jdk_42_m152_3 : decode jdk_42_method_152_code 3 = .ok (.ifCond .eq 10, 3) := by decide +kernel
theorem own_d_jdk_42_m152_6 : decode jdk_42_method_152_code 6 = .ok (.aload_n 0, 1) := by decide +kernel
theorem own_d_jdk_42_m152_7 : decode jdk_42_method_152_code 7 = .ok (.getfield 15, 3) := by decide +kernel
theorem own_d_jdk_42_m152_10 : decode jdk_42_method_152_code 10 = .ok (.goto 4, 3) := by decide +kernel
theorem own_d_jdk_42_m152_14 : decode jdk_42_method_152_code 14 = .ok (.ireturn, 1) := by decide +kernel
set_option maxRecDepth 65536 in
set_option maxHeartbeats 40000000 in
theorem own_coder (l : Launch) (Z : State) (a0 : Array Value) (hw : ∀ d ∈ tables_1, d.before a0 Z = true) (ws : List Jvm.Cond) (a1 : Addr) (w1 : Int32) (h0 : Heap) (O0 : Old Z Z.heap.size h0) (S1 : Sta Z Z.heap "java/lang/String" "COMPACT_STRINGS" "Z" (.int w1)) (hw1 : ¬ (w1 = (0 : Int32))) (Fc : Fld Z h0 a1 "java/lang/String" "coder" "B" (.int (0 : Int32))) :
    own_Met l Z (⟨"java/lang/String", "coder", "()B"⟩ : MethodName) jdk_42_method_152_code 1 (some .byte) ws ({ frames := 0, cells := 0, slots := 0, locals := 0 } : Room) #[(.ref a1)] h0 (fun v h L => v = some (.int (0 : Int32)) ∧ Fr Z.heap.size L ∧ h = h0) (({ frames := 0, cells := 0, slots := 0, locals := 0 } : Room)).cells (({ frames := 0, cells := 0, slots := 0, locals := 0 } : Room)).slots := by
  refine own_body (ef := fun m => mkF m 0 #[.val (.ref a1)] []) (plainFor_of_name own_pn50) (fun m => by first | rfl | (simp [entryFrame, mkF, argsToLocals, Value.category]; done)) ?_
  intro p e s m below meth c T0 hx hZ hby hml hown hnm hret hlk X0 e0
  have N0 := Fr.nil Z.heap.size
  have z0 : Z.heap.size ≤ h0.size := O0.2.1
  have Kr := Keep.refl h0 []
  show own_G _ _ _ _ (T0.setTop (mkF m 0 #[.val (.ref a1)] []))
  obtain ⟨T1, X1, e1, st1⟩ := getS2 X0 hx hZ hown (host := "") (Or.inl (hw _ (List.mem_of_getElem? (i := 18) rfl))) Via.refl e0 (Sta.ext O0.2 S1) (g := (mkF m 0 #[.val (.ref a1)] [])) rfl (hb hby own_d_jdk_42_m152_0)
  refine own_st st1 ?_
  show own_G _ _ _ _ (T1.setTop (mkF m 3 #[.val (.ref a1)] [(.int w1)]))
  refine own_st (fun _ k => XS.ifNo X1.here hx rfl (hb hby own_d_jdk_42_m152_3) rfl ((if0 _ _).trans (feq hw1).1) k) ?_
  show own_G _ _ _ _ (T1.setTop (mkF m 6 #[.val (.ref a1)] []))
  refine own_st (fun _ k => XS.aloadN X1.here hx rfl (hb hby own_d_jdk_42_m152_6) rfl rfl k) ?_
  show own_G _ _ _ _ (T1.setTop (mkF m 7 #[.val (.ref a1)] [(.ref a1)]))
  obtain ⟨T2, X2, e2, st2⟩ := getF X1 hx hZ hown (host := "") (Or.inl (hw _ (List.mem_of_getElem? (i := 30) rfl))) Via.refl e1 Fc (g := (mkF m 7 #[.val (.ref a1)] [(.ref a1)])) rfl rfl (hb hby own_d_jdk_42_m152_7)
  refine own_st st2 ?_
  show own_G _ _ _ _ (T2.setTop (mkF m 10 #[.val (.ref a1)] [(.int (0 : Int32))]))
  refine own_st (fun _ k => XS.goto X2.here hx rfl (pc0 := 10) (pc' := 14) rfl (hb hby own_d_jdk_42_m152_10) (by decide) (by decide) k) ?_
  show own_G _ _ _ _ (T2.setTop (mkF m 14 #[.val (.ref a1)] [(.int (0 : Int32))]))
  exact own_retN X2 hx hret hlk (by simp) (hb hby own_d_jdk_42_m152_14) (by rw [e2]; exact ⟨rfl, N0, rfl⟩) (by decide) (by decide)
theorem own_shr0 {n : Nat} (h : n < 1000000) : Int32.ofNat n >>> ((0 : Int32) &&& 31) = Int32.ofNat n := by
  apply Int32.toInt_inj.mp
  rw [c_ishr _ 0 0 rfl, own_nat (by omega)]
  omega
theorem own_d_jdk_42_m54_0 : decode jdk_42_method_54_code 0 = .ok (.aload_n 0, 1) := by decide +kernel
theorem own_d_jdk_42_m54_1 : decode jdk_42_method_54_code 1 = .ok (.getfield 9, 3) := by decide +kernel
theorem own_d_jdk_42_m54_4 : decode jdk_42_method_54_code 4 = .ok (.arraylength, 1) := by decide +kernel
theorem own_d_jdk_42_m54_5 : decode jdk_42_method_54_code 5 = .ok (.aload_n 0, 1) := by decide +kernel
theorem own_d_jdk_42_m54_6 : decode jdk_42_method_54_code 6 = .ok (.invokevirtual 335, 3) := by decide +kernel
theorem own_pd93 : parseMethodDescriptor "()B" = some ⟨[], some .byte⟩ := by decide +kernel
theorem own_d_jdk_42_m54_9 : decode jdk_42_method_54_code 9 = .ok (.ishr, 1) := by decide +kernel
theorem own_d_jdk_42_m54_10 : decode jdk_42_method_54_code 10 = .ok (.ireturn, 1) := by decide +kernel
set_option maxRecDepth 65536 in
set_option maxHeartbeats 40000000 in
theorem own_length (l : Launch) (Z : State) (a0 : Array Value) (hw : ∀ d ∈ tables_1, d.before a0 Z = true) (ws : List Jvm.Cond) (a1 : Addr) (t : Addr) (kt : ClassId) (n : Nat) (g : Nat → Int32) (w1 : Int32) (h0 : Heap) (O0 : Old Z Z.heap.size h0) (hn : n ≤ 10) (S1 : Sta Z Z.heap "java/lang/String" "COMPACT_STRINGS" "Z" (.int w1)) (hw1 : ¬ (w1 = (0 : Int32))) (Hs : own_StrL Z h0 a1 t kt g n) :
    own_Met l Z (⟨"java/lang/String", "length", "()I"⟩ : MethodName) jdk_42_method_54_code 1 (some .int) ws ({ frames := 1, cells := 0, slots := 0, locals := 13 } : Room) #[(.ref a1)] h0 (fun v h L => v = some (.int (Int32.ofNat n)) ∧ Fr Z.heap.size L ∧ h = h0) (({ frames := 1, cells := 0, slots := 0, locals := 13 } : Room)).cells (({ frames := 1, cells := 0, slots := 0, locals := 13 } : Room)).slots := by
  refine own_body (ef := fun m => mkF m 0 #[.val (.ref a1)] []) (plainFor_of_name own_pn50) (fun m => by first | rfl | (simp [entryFrame, mkF, argsToLocals, Value.category]; done)) ?_
  intro p e s m below meth c T0 hx hZ hby hml hown hnm hret hlk X0 e0
  have N0 := Fr.nil Z.heap.size
  have z0 : Z.heap.size ≤ h0.size := O0.2.1
  have Kr := Keep.refl h0 []
  show own_G _ _ _ _ (T0.setTop (mkF m 0 #[.val (.ref a1)] []))
  obtain ⟨Ea, Fc, Fv, Vt⟩ := Hs
  refine own_st (fun _ k => XS.aloadN X0.here hx rfl (hb hby own_d_jdk_42_m54_0) rfl rfl k) ?_
  show own_G _ _ _ _ (T0.setTop (mkF m 1 #[.val (.ref a1)] [(.ref a1)]))
  obtain ⟨T1, X1, e1, st1⟩ := getF X0 hx hZ hown (host := "") (Or.inl (hw _ (List.mem_of_getElem? (i := 32) rfl))) Via.refl e0 Fv (g := (mkF m 1 #[.val (.ref a1)] [(.ref a1)])) rfl rfl (hb hby own_d_jdk_42_m54_1)
  refine own_st st1 ?_
  show own_G _ _ _ _ (T1.setTop (mkF m 4 #[.val (.ref a1)] [(.ref t)]))
  obtain ⟨cl2, Ar2, qk2, Sz2, Mz2, Hz2, Uz2⟩ := id Vt
  refine own_st (X1.arraylength hx (by rw [e1]; exact Ar2.1) (State.isArrayOf_alike hZ.alike Ar2.2.1) (g := (mkF m 4 #[.val (.ref a1)] [(.ref t)])) rfl rfl (hb hby own_d_jdk_42_m54_4)) ?_
  rw [len_of Sz2 Mz2]
  show own_G _ _ _ _ (T1.setTop (mkF m 5 #[.val (.ref a1)] [(.int (Int32.ofNat n))]))
  refine own_st (fun _ k => XS.aloadN X1.here hx rfl (hb hby own_d_jdk_42_m54_5) rfl rfl k) ?_
  show own_G _ _ _ _ (T1.setTop (mkF m 6 #[.val (.ref a1)] [(.ref a1), (.int (Int32.ofNat n))]))
  obtain ⟨cq3, kq3, q3a, q3b, q3c⟩ := isOf hZ e1 Ea
  obtain ⟨_, _, ⟨T3, L3, k3, n3⟩, -, X3, ⟨Lc3, hQ3, l3, y3, z3⟩, st3⟩ := X1.virtualBack hx (y := (⟨"java/lang/String", "coder", "()B"⟩ : MethodName)) (z := (⟨"java/lang/String", "coder", "()B"⟩ : MethodName)) hown (mvT hZ (hw _ (List.mem_of_getElem? (i := 67) rfl))) (mvT hZ (hw _ (List.mem_of_getElem? (i := 68) rfl))) (notFace_of_selects (args := #[]) (mvT hZ (hw _ (List.mem_of_getElem? (i := 70) rfl)))) (mvT hZ (hw _ (List.mem_of_getElem? (i := 70) rfl))) (mvT hZ (hw _ (List.mem_of_getElem? (i := 69) rfl))) (by decide) (own_back (rm := ({ frames := 0, cells := 0, slots := 0, locals := 0 } : Room)) (W := 1) (own_coder l Z a0 hw [] a1 w1 h0 O0 S1 hw1 Fc) hZ (hw _ (List.mem_of_getElem? (i := 71) rfl)) (hw _ (List.mem_of_getElem? (i := 7) rfl)) (by decide) (by decide)) q3a q3c (g := (mkF m 6 #[.val (.ref a1)] [(.ref a1), (.int (Int32.ofNat n))])) rfl (by rw [hml]; rfl) (Steps.refl _) (argsL := []) (rest := [(.int (Int32.ofNat n))]) (lenOf own_pd93 rfl) rfl (by show 2 * 0 + _ ≤ _; exact Nat.le_of_eq rfl) (hb hby own_d_jdk_42_m54_6) (fun _ _ => ⟨rfl, e1, (by decide : 0 + 0 ≤ _), (by decide : 0 + 0 ≤ _)⟩)
  dsimp only [Pt.U, Pt.locs, Pt.cells, Pt.slots] at X3 l3 y3 z3 st3 hQ3
  subst l3 y3 z3
  obtain ⟨rfl, N3q, eh3⟩ := hQ3
  have N3 := Fr.app N0 N3q
  refine own_tr st3 ?_
  show own_G _ _ _ _ (T3.setTop (mkF m 9 #[.val (.ref a1)] [(.int (0 : Int32)), (.int (Int32.ofNat n))]))
  refine own_st (fun _ k => XS.ishr X3.here hx rfl (hb hby own_d_jdk_42_m54_9) rfl k) ?_
  show own_G _ _ _ _ (T3.setTop (mkF m 10 #[.val (.ref a1)] [(.int ((Int32.ofNat n) >>> ((0 : Int32) &&& 31)))]))
  exact own_retI X3 hx hret hlk (hb hby own_d_jdk_42_m54_10) (by rw [eh3]; exact ⟨by rw [own_shr0 (by omega)], N3, rfl⟩) (by decide) (by decide)
/-- the two bytes are one letter, but for its case -/
def own_eic (x y : Int32) : Prop := x = y ∨ (x &&& (223 : Int32) = y &&& (223 : Int32) ∧ ¬ x &&& (223 : Int32) < 65 ∧ ¬ 90 < x &&& (223 : Int32))
theorem own_ofne {a b : Nat} (h : a ≠ b) (ha : a < 1000) (hb : b < 1000) : ¬ Int32.ofNat a = Int32.ofNat b := fun q => by
  have := congrArg Int32.toInt q
  rw [own_nat (by omega), own_nat (by omega)] at this
  omega
theorem own_pn96 : plainName "com/example/limpet/limpet/jdbc/DialectOfProductPinLaw" = true := by first | (simp [plainName, overriddenIn]; done) | decide +kernel
theorem own_d_m3_0 : decode method_3_code 0 = .ok (.iload_n 1, 1) := by decide +kernel
theorem own_d_m3_1 : decode method_3_code 1 = .ok (.iload_n 2, 1) := by decide +kernel
theorem own_d_m3_2 : decode method_3_code 2 = .ok (.iushr, 1) := by decide +kernel
theorem own_d_m3_3 : decode method_3_code 3 = .ok (.iconst 1, 1) := by decide +kernel
theorem own_d_m3_4 : decode method_3_code 4 = .ok (.iand, 1) := by decide +kernel
theorem own_d_m3_5 : decode method_3_code 5 = .ok (.ifCond .ne 5, 3) := by decide +kernel
theorem own_d_m3_8 : decode method_3_code 8 = .ok (.iload_n 0, 1) := by decide +kernel
theorem own_d_m3_9 : decode method_3_code 9 = .ok (.ireturn, 1) := by decide +kernel
theorem own_d_m3_10 : decode method_3_code 10 = .ok (.iload_n 0, 1) := by decide +kernel
theorem own_d_m3_11 : decode method_3_code 11 = .ok (.bipush 97, 2) := by decide +kernel
theorem own_d_m3_13 : decode method_3_code 13 = .ok (.if_icmp .lt 15, 3) := by decide +kernel
theorem own_d_m3_16 : decode method_3_code 16 = .ok (.iload_n 0, 1) := by decide +kernel
theorem own_d_m3_17 : decode method_3_code 17 = .ok (.bipush 122, 2) := by decide +kernel
theorem own_d_m3_19 : decode method_3_code 19 = .ok (.if_icmp .gt 9, 3) := by decide +kernel
theorem own_d_m3_22 : decode method_3_code 22 = .ok (.iload_n 0, 1) := by decide +kernel
theorem own_d_m3_23 : decode method_3_code 23 = .ok (.bipush 32, 2) := by decide +kernel
theorem own_d_m3_25 : decode method_3_code 25 = .ok (.isub, 1) := by decide +kernel
theorem own_d_m3_26 : decode method_3_code 26 = .ok (.i2c, 1) := by decide +kernel
theorem own_d_m3_27 : decode method_3_code 27 = .ok (.ireturn, 1) := by decide +kernel
theorem own_d_m3_28 : decode method_3_code 28 = .ok (.iload_n 0, 1) := by decide +kernel
theorem own_d_m3_29 : decode method_3_code 29 = .ok (.bipush 65, 2) := by decide +kernel
theorem own_d_m3_31 : decode method_3_code 31 = .ok (.if_icmp .lt 15, 3) := by decide +kernel
theorem own_d_m3_34 : decode method_3_code 34 = .ok (.iload_n 0, 1) := by decide +kernel
theorem own_d_m3_35 : decode method_3_code 35 = .ok (.bipush 90, 2) := by decide +kernel
theorem own_d_m3_37 : decode method_3_code 37 = .ok (.if_icmp .gt 9, 3) := by decide +kernel
theorem own_d_m3_40 : decode method_3_code 40 = .ok (.iload_n 0, 1) := by decide +kernel
theorem own_d_m3_41 : decode method_3_code 41 = .ok (.bipush 32, 2) := by decide +kernel
theorem own_d_m3_43 : decode method_3_code 43 = .ok (.iadd, 1) := by decide +kernel
theorem own_d_m3_44 : decode method_3_code 44 = .ok (.i2c, 1) := by decide +kernel
theorem own_d_m3_45 : decode method_3_code 45 = .ok (.ireturn, 1) := by decide +kernel
set_option maxRecDepth 65536 in
set_option maxHeartbeats 40000000 in
theorem own_c (l : Launch) (Z : State) (a0 : Array Value) (hw : ∀ d ∈ tables_1, d.before a0 Z = true) (ws : List Jvm.Cond) (ch : Int32) (bits : Int32) (ix : Int32) (ch2 : Int32) (h0 : Heap) (O0 : Old Z Z.heap.size h0) (hch : nar .char ch = ch) (hcase : (¬ ch < (97 : Int32) ∧ ¬ (122 : Int32) < ch ∧ nar .char ((ch - (32 : Int32)).toUInt32.toUInt16.toUInt32.toInt32) = ch2) ∨ (ch < (97 : Int32) ∧ ¬ ch < (65 : Int32) ∧ ¬ (90 : Int32) < ch ∧ nar .char ((ch + (32 : Int32)).toUInt32.toUInt16.toUInt32.toInt32) = ch2)) :
    own_Met l Z (⟨"com/example/limpet/limpet/jdbc/DialectOfProductPinLaw", "c", "(CII)C"⟩ : MethodName) method_3_code 3 (some .char) ws ({ frames := 0, cells := 0, slots := 0, locals := 0 } : Room) #[(.int ch), (.int bits), (.int ix)] h0 (fun v h L => ∃ r : Int32, v = some (.int r) ∧ Fr Z.heap.size L ∧ h = h0 ∧ (r = ch ∨ r = ch2)) (({ frames := 0, cells := 0, slots := 0, locals := 0 } : Room)).cells (({ frames := 0, cells := 0, slots := 0, locals := 0 } : Room)).slots := by
  refine own_body (ef := fun m => mkF m 0 #[.val (.int ch), .val (.int bits), .val (.int ix)] []) (plainFor_of_name own_pn96) (fun m => by first | rfl | (simp [entryFrame, mkF, argsToLocals, Value.category]; done)) ?_
  intro p e s m below meth c T0 hx hZ hby hml hown hnm hret hlk X0 e0
  have N0 := Fr.nil Z.heap.size
  have z0 : Z.heap.size ≤ h0.size := O0.2.1
  have Kr := Keep.refl h0 []
  show own_G _ _ _ _ (T0.setTop (mkF m 0 #[.val (.int ch), .val (.int bits), .val (.int ix)] []))
  refine own_st (fun _ k => XS.iloadN X0.here hx rfl (hb hby own_d_m3_0) rfl k) ?_
  show own_G _ _ _ _ (T0.setTop (mkF m 1 #[.val (.int ch), .val (.int bits), .val (.int ix)] [(.int bits)]))
  refine own_st (fun _ k => XS.iloadN X0.here hx rfl (hb hby own_d_m3_1) rfl k) ?_
  show own_G _ _ _ _ (T0.setTop (mkF m 2 #[.val (.int ch), .val (.int bits), .val (.int ix)] [(.int ix), (.int bits)]))
  refine own_st (fun _ k => XS.iushr X0.here hx rfl (hb hby own_d_m3_2) rfl k) ?_
  show own_G _ _ _ _ (T0.setTop (mkF m 3 #[.val (.int ch), .val (.int bits), .val (.int ix)] [(.int ((bits.toUInt32 >>> (ix &&& 31).toUInt32).toInt32))]))
  refine own_st (fun _ k => XS.iconst X0.here hx rfl (hb hby own_d_m3_3) k) ?_
  show own_G _ _ _ _ (T0.setTop (mkF m 4 #[.val (.int ch), .val (.int bits), .val (.int ix)] [(.int (1 : Int32)), (.int ((bits.toUInt32 >>> (ix &&& 31).toUInt32).toInt32))]))
  refine own_st (fun _ k => XS.iand X0.here hx rfl (hb hby own_d_m3_4) rfl k) ?_
  show own_G _ _ _ _ (T0.setTop (mkF m 5 #[.val (.int ch), .val (.int bits), .val (.int ix)] [(.int (((bits.toUInt32 >>> (ix &&& 31).toUInt32).toInt32) &&& (1 : Int32)))]))
  by_cases h1 : (((bits.toUInt32 >>> (ix &&& 31).toUInt32).toInt32) &&& (1 : Int32)) = (0 : Int32)
  · show own_G _ _ _ _ (T0.setTop (mkF m 5 #[.val (.int ch), .val (.int bits), .val (.int ix)] [(.int (((bits.toUInt32 >>> (ix &&& 31).toUInt32).toInt32) &&& (1 : Int32)))]))
    refine own_st (fun _ k => XS.ifNo X0.here hx rfl (hb hby own_d_m3_5) rfl ((if0 _ _).trans (teq h1).2) k) ?_
    show own_G _ _ _ _ (T0.setTop (mkF m 8 #[.val (.int ch), .val (.int bits), .val (.int ix)] []))
    refine own_st (fun _ k => XS.iloadN X0.here hx rfl (hb hby own_d_m3_8) rfl k) ?_
    show own_G _ _ _ _ (T0.setTop (mkF m 9 #[.val (.int ch), .val (.int bits), .val (.int ix)] [(.int ch)]))
    exact own_retN X0 hx hret hlk (by simp) (hb hby own_d_m3_9) (by rw [e0]; exact ⟨_, rfl, N0, rfl, Or.inl hch⟩) (by decide) (by decide)
  · show own_G _ _ _ _ (T0.setTop (mkF m 5 #[.val (.int ch), .val (.int bits), .val (.int ix)] [(.int (((bits.toUInt32 >>> (ix &&& 31).toUInt32).toInt32) &&& (1 : Int32)))]))
    refine own_st (fun _ k => XS.ifYes X0.here hx rfl (pc0 := 5) (pc' := 10) rfl (hb hby own_d_m3_5) rfl ((if0 _ _).trans (feq h1).2) (by decide) (by decide) k) ?_
    show own_G _ _ _ _ (T0.setTop (mkF m 10 #[.val (.int ch), .val (.int bits), .val (.int ix)] []))
    refine own_st (fun _ k => XS.iloadN X0.here hx rfl (hb hby own_d_m3_10) rfl k) ?_
    show own_G _ _ _ _ (T0.setTop (mkF m 11 #[.val (.int ch), .val (.int bits), .val (.int ix)] [(.int ch)]))
    refine own_st (fun _ k => XS.bipush X0.here hx rfl (hb hby own_d_m3_11) k) ?_
    show own_G _ _ _ _ (T0.setTop (mkF m 13 #[.val (.int ch), .val (.int bits), .val (.int ix)] [(.int (97 : Int32)), (.int ch)]))
    rcases hcase with ⟨h2, h3, h4⟩ | ⟨h2, h3, h4, h5⟩
    · skip
      refine own_st (fun _ k => XS.icmpNo X0.here hx rfl (hb hby own_d_m3_13) rfl (flt h2).1 k) ?_
      show own_G _ _ _ _ (T0.setTop (mkF m 16 #[.val (.int ch), .val (.int bits), .val (.int ix)] []))
      refine own_st (fun _ k => XS.iloadN X0.here hx rfl (hb hby own_d_m3_16) rfl k) ?_
      show own_G _ _ _ _ (T0.setTop (mkF m 17 #[.val (.int ch), .val (.int bits), .val (.int ix)] [(.int ch)]))
      refine own_st (fun _ k => XS.bipush X0.here hx rfl (hb hby own_d_m3_17) k) ?_
      show own_G _ _ _ _ (T0.setTop (mkF m 19 #[.val (.int ch), .val (.int bits), .val (.int ix)] [(.int (122 : Int32)), (.int ch)]))
      refine own_st (fun _ k => XS.icmpNo X0.here hx rfl (hb hby own_d_m3_19) rfl (flt h3).2.2.1 k) ?_
      show own_G _ _ _ _ (T0.setTop (mkF m 22 #[.val (.int ch), .val (.int bits), .val (.int ix)] []))
      refine own_st (fun _ k => XS.iloadN X0.here hx rfl (hb hby own_d_m3_22) rfl k) ?_
      show own_G _ _ _ _ (T0.setTop (mkF m 23 #[.val (.int ch), .val (.int bits), .val (.int ix)] [(.int ch)]))
      refine own_st (fun _ k => XS.bipush X0.here hx rfl (hb hby own_d_m3_23) k) ?_
      show own_G _ _ _ _ (T0.setTop (mkF m 25 #[.val (.int ch), .val (.int bits), .val (.int ix)] [(.int (32 : Int32)), (.int ch)]))
      refine own_st (fun _ k => XS.isub X0.here hx rfl (hb hby own_d_m3_25) rfl k) ?_
      show own_G _ _ _ _ (T0.setTop (mkF m 26 #[.val (.int ch), .val (.int bits), .val (.int ix)] [(.int (ch - (32 : Int32)))]))
      refine own_st (fun _ k => XS.i2c X0.here hx rfl (hb hby own_d_m3_26) rfl k) ?_
      show own_G _ _ _ _ (T0.setTop (mkF m 27 #[.val (.int ch), .val (.int bits), .val (.int ix)] [(.int ((ch - (32 : Int32)).toUInt32.toUInt16.toUInt32.toInt32))]))
      exact own_retN X0 hx hret hlk (by simp) (hb hby own_d_m3_27) (by rw [e0]; exact ⟨_, rfl, N0, rfl, Or.inr h4⟩) (by decide) (by decide)
    · skip
      refine own_st (fun _ k => XS.icmpYes X0.here hx rfl (pc0 := 13) (pc' := 28) rfl (hb hby own_d_m3_13) rfl (tlt h2).1 (by decide) (by decide) k) ?_
      show own_G _ _ _ _ (T0.setTop (mkF m 28 #[.val (.int ch), .val (.int bits), .val (.int ix)] []))
      refine own_st (fun _ k => XS.iloadN X0.here hx rfl (hb hby own_d_m3_28) rfl k) ?_
      show own_G _ _ _ _ (T0.setTop (mkF m 29 #[.val (.int ch), .val (.int bits), .val (.int ix)] [(.int ch)]))
      refine own_st (fun _ k => XS.bipush X0.here hx rfl (hb hby own_d_m3_29) k) ?_
      show own_G _ _ _ _ (T0.setTop (mkF m 31 #[.val (.int ch), .val (.int bits), .val (.int ix)] [(.int (65 : Int32)), (.int ch)]))
      refine own_st (fun _ k => XS.icmpNo X0.here hx rfl (hb hby own_d_m3_31) rfl (flt h3).1 k) ?_
      show own_G _ _ _ _ (T0.setTop (mkF m 34 #[.val (.int ch), .val (.int bits), .val (.int ix)] []))
      refine own_st (fun _ k => XS.iloadN X0.here hx rfl (hb hby own_d_m3_34) rfl k) ?_
      show own_G _ _ _ _ (T0.setTop (mkF m 35 #[.val (.int ch), .val (.int bits), .val (.int ix)] [(.int ch)]))
      refine own_st (fun _ k => XS.bipush X0.here hx rfl (hb hby own_d_m3_35) k) ?_
      show own_G _ _ _ _ (T0.setTop (mkF m 37 #[.val (.int ch), .val (.int bits), .val (.int ix)] [(.int (90 : Int32)), (.int ch)]))
      refine own_st (fun _ k => XS.icmpNo X0.here hx rfl (hb hby own_d_m3_37) rfl (flt h4).2.2.1 k) ?_
      show own_G _ _ _ _ (T0.setTop (mkF m 40 #[.val (.int ch), .val (.int bits), .val (.int ix)] []))
      refine own_st (fun _ k => XS.iloadN X0.here hx rfl (hb hby own_d_m3_40) rfl k) ?_
      show own_G _ _ _ _ (T0.setTop (mkF m 41 #[.val (.int ch), .val (.int bits), .val (.int ix)] [(.int ch)]))
      refine own_st (fun _ k => XS.bipush X0.here hx rfl (hb hby own_d_m3_41) k) ?_
      show own_G _ _ _ _ (T0.setTop (mkF m 43 #[.val (.int ch), .val (.int bits), .val (.int ix)] [(.int (32 : Int32)), (.int ch)]))
      refine own_st (fun _ k => XS.iadd X0.here hx rfl (hb hby own_d_m3_43) rfl k) ?_
      show own_G _ _ _ _ (T0.setTop (mkF m 44 #[.val (.int ch), .val (.int bits), .val (.int ix)] [(.int (ch + (32 : Int32)))]))
      refine own_st (fun _ k => XS.i2c X0.here hx rfl (hb hby own_d_m3_44) rfl k) ?_
      show own_G _ _ _ _ (T0.setTop (mkF m 45 #[.val (.int ch), .val (.int bits), .val (.int ix)] [(.int ((ch + (32 : Int32)).toUInt32.toUInt16.toUInt32.toInt32))]))
      exact own_retN X0 hx hret hlk (by simp) (hb hby own_d_m3_45) (by rw [e0]; exact ⟨_, rfl, N0, rfl, Or.inr h5⟩) (by decide) (by decide)
theorem own_pn127 : plainName "java/lang/CharacterDataLatin1" = true := by first | (simp [plainName, overriddenIn]; done) | decide +kernel
theorem own_d_jdk_116_m22_0 : decode jdk_116_method_22_code 0 = .ok (.iload_n 0, 1) := by decide +kernel
theorem own_d_jdk_116_m22_1 : decode jdk_116_method_22_code 1 = .ok (.iload_n 1, 1) := by decide +kernel
theorem own_d_jdk_116_m22_2 : decode jdk_116_method_22_code 2 = .ok (.if_icmp .ne 5, 3) := by decide +kernel
theorem own_d_jdk_116_m22_5 : decode jdk_116_method_22_code 5 = .ok (.iconst 1, 1) := by decide +kernel
theorem own_d_jdk_116_m22_6 : decode jdk_116_method_22_code 6 = .ok (.ireturn, 1) := by decide +kernel
theorem own_d_jdk_116_m22_7 : decode jdk_116_method_22_code 7 = .ok (.iload_n 0, 1) := by decide +kernel
theorem own_d_jdk_116_m22_8 : decode jdk_116_method_22_code 8 = .ok (.sipush 223, 3) := by decide +kernel
theorem own_d_jdk_116_m22_11 : decode jdk_116_method_22_code 11 = .ok (.iand, 1) := by decide +kernel
theorem own_d_jdk_116_m22_12 : decode jdk_116_method_22_code 12 = .ok (.istore_n 2, 1) := by decide +kernel
theorem own_d_jdk_116_m22_13 : decode jdk_116_method_22_code 13 = .ok (.iload_n 2, 1) := by decide +kernel
theorem own_d_jdk_116_m22_14 : decode jdk_116_method_22_code 14 = .ok (.bipush 65, 2) := by decide +kernel
theorem own_d_jdk_116_m22_16 : decode jdk_116_method_22_code 16 = .ok (.if_icmp .ge 5, 3) := by decide +kernel
theorem own_d_jdk_116_m22_21 : decode jdk_116_method_22_code 21 = .ok (.iload_n 2, 1) := by decide +kernel
theorem own_d_jdk_116_m22_22 : decode jdk_116_method_22_code 22 = .ok (.bipush 90, 2) := by decide +kernel
theorem own_d_jdk_116_m22_24 : decode jdk_116_method_22_code 24 = .ok (.if_icmp .le 24, 3) := by decide +kernel
theorem own_d_jdk_116_m22_48 : decode jdk_116_method_22_code 48 = .ok (.iload_n 2, 1) := by decide +kernel
theorem own_d_jdk_116_m22_49 : decode jdk_116_method_22_code 49 = .ok (.iload_n 1, 1) := by decide +kernel
theorem own_d_jdk_116_m22_50 : decode jdk_116_method_22_code 50 = .ok (.sipush 223, 3) := by decide +kernel
theorem own_d_jdk_116_m22_53 : decode jdk_116_method_22_code 53 = .ok (.iand, 1) := by decide +kernel
theorem own_d_jdk_116_m22_54 : decode jdk_116_method_22_code 54 = .ok (.if_icmp .ne 7, 3) := by decide +kernel
theorem own_d_jdk_116_m22_57 : decode jdk_116_method_22_code 57 = .ok (.iconst 1, 1) := by decide +kernel
theorem own_d_jdk_116_m22_58 : decode jdk_116_method_22_code 58 = .ok (.goto 4, 3) := by decide +kernel
theorem own_d_jdk_116_m22_62 : decode jdk_116_method_22_code 62 = .ok (.ireturn, 1) := by decide +kernel
set_option maxRecDepth 65536 in
set_option maxHeartbeats 40000000 in
theorem own_cdl (l : Launch) (Z : State) (a0 : Array Value) (hw : ∀ d ∈ tables_1, d.before a0 Z = true) (ws : List Jvm.Cond) (x1 : Int32) (x2 : Int32)  (h0 : Heap) (O0 : Old Z Z.heap.size h0) (he : own_eic x1 x2) :
    own_Met l Z (⟨"java/lang/CharacterDataLatin1", "equalsIgnoreCase", "(BB)Z"⟩ : MethodName) jdk_116_method_22_code 3 (some .boolean) ws ({ frames := 0, cells := 0, slots := 0, locals := 0 } : Room) #[(.int x1), (.int x2)] h0 (fun v h L => v = some (.int 1) ∧ Fr Z.heap.size L ∧ h = h0) (({ frames := 0, cells := 0, slots := 0, locals := 0 } : Room)).cells (({ frames := 0, cells := 0, slots := 0, locals := 0 } : Room)).slots := by
  refine own_body (ef := fun m => mkF m 0 #[.val (.int x1), .val (.int x2), .unset] []) (plainFor_of_name own_pn127) (fun m => by first | rfl | (simp [entryFrame, mkF, argsToLocals, Value.category]; done)) ?_
  intro p e s m below meth c T0 hx hZ hby hml hown hnm hret hlk X0 e0
  have N0 := Fr.nil Z.heap.size
  have z0 : Z.heap.size ≤ h0.size := O0.2.1
  have Kr := Keep.refl h0 []
  show own_G _ _ _ _ (T0.setTop (mkF m 0 #[.val (.int x1), .val (.int x2), .unset] []))
  refine own_st (fun _ k => XS.iloadN X0.here hx rfl (hb hby own_d_jdk_116_m22_0) rfl k) ?_
  show own_G _ _ _ _ (T0.setTop (mkF m 1 #[.val (.int x1), .val (.int x2), .unset] [(.int x1)]))
  refine own_st (fun _ k => XS.iloadN X0.here hx rfl (hb hby own_d_jdk_116_m22_1) rfl k) ?_
  show own_G _ _ _ _ (T0.setTop (mkF m 2 #[.val (.int x1), .val (.int x2), .unset] [(.int x2), (.int x1)]))
  by_cases h1 : x1 = x2
  · show own_G _ _ _ _ (T0.setTop (mkF m 2 #[.val (.int x1), .val (.int x2), .unset] [(.int x2), (.int x1)]))
    refine own_st (fun _ k => XS.icmpNo X0.here hx rfl (hb hby own_d_jdk_116_m22_2) rfl (teq h1).2 k) ?_
    show own_G _ _ _ _ (T0.setTop (mkF m 5 #[.val (.int x1), .val (.int x2), .unset] []))
    refine own_st (fun _ k => XS.iconst X0.here hx rfl (hb hby own_d_jdk_116_m22_5) k) ?_
    show own_G _ _ _ _ (T0.setTop (mkF m 6 #[.val (.int x1), .val (.int x2), .unset] [(.int (1 : Int32))]))
    exact own_retN X0 hx hret hlk (by simp) (hb hby own_d_jdk_116_m22_6) (by rw [e0]; exact ⟨rfl, N0, rfl⟩) (by decide) (by decide)
  · show own_G _ _ _ _ (T0.setTop (mkF m 2 #[.val (.int x1), .val (.int x2), .unset] [(.int x2), (.int x1)]))
    refine own_st (fun _ k => XS.icmpYes X0.here hx rfl (pc0 := 2) (pc' := 7) rfl (hb hby own_d_jdk_116_m22_2) rfl (feq h1).2 (by decide) (by decide) k) ?_
    show own_G _ _ _ _ (T0.setTop (mkF m 7 #[.val (.int x1), .val (.int x2), .unset] []))
    obtain ⟨e1, e2, e3⟩ := he.resolve_left h1
    refine own_st (fun _ k => XS.iloadN X0.here hx rfl (hb hby own_d_jdk_116_m22_7) rfl k) ?_
    show own_G _ _ _ _ (T0.setTop (mkF m 8 #[.val (.int x1), .val (.int x2), .unset] [(.int x1)]))
    refine own_st (fun _ k => XS.sipush X0.here hx rfl (hb hby own_d_jdk_116_m22_8) k) ?_
    show own_G _ _ _ _ (T0.setTop (mkF m 11 #[.val (.int x1), .val (.int x2), .unset] [(.int (223 : Int32)), (.int x1)]))
    refine own_st (fun _ k => XS.iand X0.here hx rfl (hb hby own_d_jdk_116_m22_11) rfl k) ?_
    show own_G _ _ _ _ (T0.setTop (mkF m 12 #[.val (.int x1), .val (.int x2), .unset] [(.int (x1 &&& (223 : Int32)))]))
    refine own_st (fun _ k => XS.istoreN X0.here hx rfl (hb hby own_d_jdk_116_m22_12) rfl (l' := #[.val (.int x1), .val (.int x2), .val (.int (x1 &&& (223 : Int32)))]) rfl k) ?_
    show own_G _ _ _ _ (T0.setTop (mkF m 13 #[.val (.int x1), .val (.int x2), .val (.int (x1 &&& (223 : Int32)))] []))
    refine own_st (fun _ k => XS.iloadN X0.here hx rfl (hb hby own_d_jdk_116_m22_13) rfl k) ?_
    show own_G _ _ _ _ (T0.setTop (mkF m 14 #[.val (.int x1), .val (.int x2), .val (.int (x1 &&& (223 : Int32)))] [(.int (x1 &&& (223 : Int32)))]))
    refine own_st (fun _ k => XS.bipush X0.here hx rfl (hb hby own_d_jdk_116_m22_14) k) ?_
    show own_G _ _ _ _ (T0.setTop (mkF m 16 #[.val (.int x1), .val (.int x2), .val (.int (x1 &&& (223 : Int32)))] [(.int (65 : Int32)), (.int (x1 &&& (223 : Int32)))]))
    refine own_st (fun _ k => XS.icmpYes X0.here hx rfl (pc0 := 16) (pc' := 21) rfl (hb hby own_d_jdk_116_m22_16) rfl (flt e2).2.1 (by decide) (by decide) k) ?_
    show own_G _ _ _ _ (T0.setTop (mkF m 21 #[.val (.int x1), .val (.int x2), .val (.int (x1 &&& (223 : Int32)))] []))
    refine own_st (fun _ k => XS.iloadN X0.here hx rfl (hb hby own_d_jdk_116_m22_21) rfl k) ?_
    show own_G _ _ _ _ (T0.setTop (mkF m 22 #[.val (.int x1), .val (.int x2), .val (.int (x1 &&& (223 : Int32)))] [(.int (x1 &&& (223 : Int32)))]))
    refine own_st (fun _ k => XS.bipush X0.here hx rfl (hb hby own_d_jdk_116_m22_22) k) ?_
    show own_G _ _ _ _ (T0.setTop (mkF m 24 #[.val (.int x1), .val (.int x2), .val (.int (x1 &&& (223 : Int32)))] [(.int (90 : Int32)), (.int (x1 &&& (223 : Int32)))]))
    refine own_st (fun _ k => XS.icmpYes X0.here hx rfl (pc0 := 24) (pc' := 48) rfl (hb hby own_d_jdk_116_m22_24) rfl (flt e3).2.2.2 (by decide) (by decide) k) ?_
    show own_G _ _ _ _ (T0.setTop (mkF m 48 #[.val (.int x1), .val (.int x2), .val (.int (x1 &&& (223 : Int32)))] []))
    refine own_st (fun _ k => XS.iloadN X0.here hx rfl (hb hby own_d_jdk_116_m22_48) rfl k) ?_
    show own_G _ _ _ _ (T0.setTop (mkF m 49 #[.val (.int x1), .val (.int x2), .val (.int (x1 &&& (223 : Int32)))] [(.int (x1 &&& (223 : Int32)))]))
    refine own_st (fun _ k => XS.iloadN X0.here hx rfl (hb hby own_d_jdk_116_m22_49) rfl k) ?_
    show own_G _ _ _ _ (T0.setTop (mkF m 50 #[.val (.int x1), .val (.int x2), .val (.int (x1 &&& (223 : Int32)))] [(.int x2), (.int (x1 &&& (223 : Int32)))]))
    refine own_st (fun _ k => XS.sipush X0.here hx rfl (hb hby own_d_jdk_116_m22_50) k) ?_
    show own_G _ _ _ _ (T0.setTop (mkF m 53 #[.val (.int x1), .val (.int x2), .val (.int (x1 &&& (223 : Int32)))] [(.int (223 : Int32)), (.int x2), (.int (x1 &&& (223 : Int32)))]))
    refine own_st (fun _ k => XS.iand X0.here hx rfl (hb hby own_d_jdk_116_m22_53) rfl k) ?_
    show own_G _ _ _ _ (T0.setTop (mkF m 54 #[.val (.int x1), .val (.int x2), .val (.int (x1 &&& (223 : Int32)))] [(.int (x2 &&& (223 : Int32))), (.int (x1 &&& (223 : Int32)))]))
    refine own_st (fun _ k => XS.icmpNo X0.here hx rfl (hb hby own_d_jdk_116_m22_54) rfl (teq e1).2 k) ?_
    show own_G _ _ _ _ (T0.setTop (mkF m 57 #[.val (.int x1), .val (.int x2), .val (.int (x1 &&& (223 : Int32)))] []))
    refine own_st (fun _ k => XS.iconst X0.here hx rfl (hb hby own_d_jdk_116_m22_57) k) ?_
    show own_G _ _ _ _ (T0.setTop (mkF m 58 #[.val (.int x1), .val (.int x2), .val (.int (x1 &&& (223 : Int32)))] [(.int (1 : Int32))]))
    refine own_st (fun _ k => XS.goto X0.here hx rfl (pc0 := 58) (pc' := 62) rfl (hb hby own_d_jdk_116_m22_58) (by decide) (by decide) k) ?_
    show own_G _ _ _ _ (T0.setTop (mkF m 62 #[.val (.int x1), .val (.int x2), .val (.int (x1 &&& (223 : Int32)))] [(.int (1 : Int32))]))
    exact own_retN X0 hx hret hlk (by simp) (hb hby own_d_jdk_116_m22_62) (by rw [e0]; exact ⟨rfl, N0, rfl⟩) (by decide) (by decide)
theorem own_d_jdk_43_m30_6 : decode jdk_43_method_30_code 6 = .ok (.iload_n 1, 1) := by decide +kernel
theorem own_d_jdk_43_m30_7 : decode jdk_43_method_30_code 7 = .ok (.iload 5, 2) := by decide +kernel
theorem own_d_jdk_43_m30_9 : decode jdk_43_method_30_code 9 = .ok (.if_icmp .ge 34, 3) := by decide +kernel
theorem own_d_jdk_43_m30_12 : decode jdk_43_method_30_code 12 = .ok (.aload_n 0, 1) := by decide +kernel
theorem own_d_jdk_43_m30_13 : decode jdk_43_method_30_code 13 = .ok (.iload_n 1, 1) := by decide +kernel
theorem own_d_jdk_43_m30_14 : decode jdk_43_method_30_code 14 = .ok (.iinc 1 1, 3) := by decide +kernel
theorem own_d_jdk_43_m30_17 : decode jdk_43_method_30_code 17 = .ok (.baload, 1) := by decide +kernel
theorem own_d_jdk_43_m30_18 : decode jdk_43_method_30_code 18 = .ok (.istore 6, 2) := by decide +kernel
theorem own_d_jdk_43_m30_20 : decode jdk_43_method_30_code 20 = .ok (.aload_n 2, 1) := by decide +kernel
theorem own_d_jdk_43_m30_21 : decode jdk_43_method_30_code 21 = .ok (.iload_n 3, 1) := by decide +kernel
theorem own_d_jdk_43_m30_22 : decode jdk_43_method_30_code 22 = .ok (.iinc 3 1, 3) := by decide +kernel
theorem own_d_jdk_43_m30_25 : decode jdk_43_method_30_code 25 = .ok (.baload, 1) := by decide +kernel
theorem own_d_jdk_43_m30_26 : decode jdk_43_method_30_code 26 = .ok (.istore 7, 2) := by decide +kernel
theorem own_d_jdk_43_m30_28 : decode jdk_43_method_30_code 28 = .ok (.iload 6, 2) := by decide +kernel
theorem own_d_jdk_43_m30_30 : decode jdk_43_method_30_code 30 = .ok (.iload 7, 2) := by decide +kernel
theorem own_d_jdk_43_m30_32 : decode jdk_43_method_30_code 32 = .ok (.invokestatic 153, 3) := by decide +kernel
theorem own_pd167 : parseMethodDescriptor "(BB)Z" = some ⟨[.byte, .byte], some .boolean⟩ := by decide +kernel
theorem own_d_jdk_43_m30_35 : decode jdk_43_method_30_code 35 = .ok (.ifCond .eq 6, 3) := by decide +kernel
theorem own_d_jdk_43_m30_38 : decode jdk_43_method_30_code 38 = .ok (.goto (-32), 3) := by decide +kernel
set_option maxRecDepth 65536 in
set_option maxHeartbeats 40000000 in
theorem own_rm_turn {p : Program} {l : Launch} {e : Env} {s : State} {m : MethodId} {args : Array Value} {below : List Frame} {meth : Method} {c : Code} {Z : State} {a0 : Array Value} {locs : List Loc} {cells slots : Nat} {T0 : State} {h0 : Heap}  (t1 t2 : Addr) (k1 k2 : ClassId) (i n : Nat) (g b : Nat → Int32) (s6 s7 : Slot) (hx : p.tables.exec = Jvm.exec) (hZ : Z.Warmed39 s.vm) (hw : ∀ d ∈ tables_1, d.before a0 Z = true) (hby : c.code = jdk_43_method_30_code) (hml : c.maxLocals = 8) (hown : s.vm.findClass "java/lang/StringLatin1" = some m.cls) (X0 : Stand p l e ({ frames := 1, cells := 0, slots := 0, locals := 14 } : Room) s m args below meth c T0 locs cells slots) (e0 : T0.heap = h0) (N0 : Fr Z.heap.size locs) (O0 : Old Z Z.heap.size h0) (hret : meth.sig.returnType = some .boolean) (hlk : meth.locks = false) (hcs : cells ≤ 0) (hss : slots ≤ 0) (hn : n ≤ 10) (V1 : Arv Z h0 t1 k1 .byte (Int32.ofNat n) (own_vals g n) (.int (0 : Int32))) (V2 : Arv Z h0 t2 k2 .byte (Int32.ofNat n) (own_vals b n) (.int (0 : Int32))) (he : ∀ j, j < n → own_eic (g j) (b j)) (hs6 : One s6) (hs7 : One s7) (hi : i < n)
    (k : ∀ (s6 s7 : Slot) (T' : State) (locs' : List Loc), Stand p l e ({ frames := 1, cells := 0, slots := 0, locals := 14 } : Room) s m args below meth c T' locs' cells slots → T'.heap = h0 → Fr Z.heap.size locs' → One s6 → One s7 → own_G p.tables e below (own_F s below (fun v h L => v = some (.int 1) ∧ Fr Z.heap.size L ∧ h = h0) 0 0) (T'.setTop (mkF m 6 #[.val (.ref t1), .val (.int (Int32.ofNat (i + 1))), .val (.ref t2), .val (.int (Int32.ofNat (i + 1))), .val (.int (Int32.ofNat n)), .val (.int (Int32.ofNat n)), s6, s7] []))) :
    own_G p.tables e below (own_F s below (fun v h L => v = some (.int 1) ∧ Fr Z.heap.size L ∧ h = h0) 0 0) (T0.setTop (mkF m 6 #[.val (.ref t1), .val (.int (Int32.ofNat i)), .val (.ref t2), .val (.int (Int32.ofNat i)), .val (.int (Int32.ofNat n)), .val (.int (Int32.ofNat n)), s6, s7] [])) := by
  have z0 : Z.heap.size ≤ h0.size := O0.2.1
  have Kr := Keep.refl h0 []
  show own_G _ _ _ _ (T0.setTop (mkF m 6 #[.val (.ref t1), .val (.int (Int32.ofNat i)), .val (.ref t2), .val (.int (Int32.ofNat i)), .val (.int (Int32.ofNat n)), .val (.int (Int32.ofNat n)), s6, s7] []))
  refine own_st (fun _ k => XS.iloadN X0.here hx rfl (hb hby own_d_jdk_43_m30_6) rfl k) ?_
  show own_G _ _ _ _ (T0.setTop (mkF m 7 #[.val (.ref t1), .val (.int (Int32.ofNat i)), .val (.ref t2), .val (.int (Int32.ofNat i)), .val (.int (Int32.ofNat n)), .val (.int (Int32.ofNat n)), s6, s7] [(.int (Int32.ofNat i))]))
  refine own_st (fun _ k => XS.iload X0.here hx rfl (hb hby own_d_jdk_43_m30_7) rfl k) ?_
  show own_G _ _ _ _ (T0.setTop (mkF m 9 #[.val (.ref t1), .val (.int (Int32.ofNat i)), .val (.ref t2), .val (.int (Int32.ofNat i)), .val (.int (Int32.ofNat n)), .val (.int (Int32.ofNat n)), s6, s7] [(.int (Int32.ofNat n)), (.int (Int32.ofNat i))]))
  refine own_st (fun _ k => XS.icmpNo X0.here hx rfl (hb hby own_d_jdk_43_m30_9) rfl (tlt (own_lt hi (by omega))).2.1 k) ?_
  show own_G _ _ _ _ (T0.setTop (mkF m 12 #[.val (.ref t1), .val (.int (Int32.ofNat i)), .val (.ref t2), .val (.int (Int32.ofNat i)), .val (.int (Int32.ofNat n)), .val (.int (Int32.ofNat n)), s6, s7] []))
  refine own_st (fun _ k => XS.aloadN X0.here hx rfl (hb hby own_d_jdk_43_m30_12) rfl rfl k) ?_
  show own_G _ _ _ _ (T0.setTop (mkF m 13 #[.val (.ref t1), .val (.int (Int32.ofNat i)), .val (.ref t2), .val (.int (Int32.ofNat i)), .val (.int (Int32.ofNat n)), .val (.int (Int32.ofNat n)), s6, s7] [(.ref t1)]))
  refine own_st (fun _ k => XS.iloadN X0.here hx rfl (hb hby own_d_jdk_43_m30_13) rfl k) ?_
  show own_G _ _ _ _ (T0.setTop (mkF m 14 #[.val (.ref t1), .val (.int (Int32.ofNat i)), .val (.ref t2), .val (.int (Int32.ofNat i)), .val (.int (Int32.ofNat n)), .val (.int (Int32.ofNat n)), s6, s7] [(.int (Int32.ofNat i)), (.ref t1)]))
  refine own_st (fun _ k => XS.iinc X0.here hx rfl (hb hby own_d_jdk_43_m30_14) rfl (l' := #[.val (.ref t1), .val (.int ((Int32.ofNat i) + (1 : Int32))), .val (.ref t2), .val (.int (Int32.ofNat i)), .val (.int (Int32.ofNat n)), .val (.int (Int32.ofNat n)), s6, s7]) rfl k) ?_
  show own_G _ _ _ _ (T0.setTop (mkF m 17 #[.val (.ref t1), .val (.int ((Int32.ofNat i) + (1 : Int32))), .val (.ref t2), .val (.int (Int32.ofNat i)), .val (.int (Int32.ofNat n)), .val (.int (Int32.ofNat n)), s6, s7] [(.int (Int32.ofNat i)), (.ref t1)]))
  obtain ⟨cl1, Ar1, qk1, Sz1, Mz1, Hz1, Uz1⟩ := id V1
  refine own_st (X0.baloadBytes hx (j := (Int32.ofNat i)) (v := (.int (g i))) (by rw [e0]; exact Ar1.1) (State.isArrayOf_alike hZ.alike Ar1.2.1) Ar1.2.2 (own_in Sz1 hi (by omega)) (own_get Sz1 Hz1 hi (by omega)) (g := (mkF m 17 #[.val (.ref t1), .val (.int ((Int32.ofNat i) + (1 : Int32))), .val (.ref t2), .val (.int (Int32.ofNat i)), .val (.int (Int32.ofNat n)), .val (.int (Int32.ofNat n)), s6, s7] [(.int (Int32.ofNat i)), (.ref t1)])) rfl rfl (hb hby own_d_jdk_43_m30_17)) ?_
  show own_G _ _ _ _ (T0.setTop (mkF m 18 #[.val (.ref t1), .val (.int ((Int32.ofNat i) + (1 : Int32))), .val (.ref t2), .val (.int (Int32.ofNat i)), .val (.int (Int32.ofNat n)), .val (.int (Int32.ofNat n)), s6, s7] [(.int (g i))]))
  refine own_st (fun _ k => XS.istoreS X0.here hx rfl (hb hby own_d_jdk_43_m30_18) rfl rfl hs6 k) ?_
  show own_G _ _ _ _ (T0.setTop (mkF m 20 #[.val (.ref t1), .val (.int ((Int32.ofNat i) + (1 : Int32))), .val (.ref t2), .val (.int (Int32.ofNat i)), .val (.int (Int32.ofNat n)), .val (.int (Int32.ofNat n)), .val (.int (g i)), s7] []))
  refine own_st (fun _ k => XS.aloadN X0.here hx rfl (hb hby own_d_jdk_43_m30_20) rfl rfl k) ?_
  show own_G _ _ _ _ (T0.setTop (mkF m 21 #[.val (.ref t1), .val (.int ((Int32.ofNat i) + (1 : Int32))), .val (.ref t2), .val (.int (Int32.ofNat i)), .val (.int (Int32.ofNat n)), .val (.int (Int32.ofNat n)), .val (.int (g i)), s7] [(.ref t2)]))
  refine own_st (fun _ k => XS.iloadN X0.here hx rfl (hb hby own_d_jdk_43_m30_21) rfl k) ?_
  show own_G _ _ _ _ (T0.setTop (mkF m 22 #[.val (.ref t1), .val (.int ((Int32.ofNat i) + (1 : Int32))), .val (.ref t2), .val (.int (Int32.ofNat i)), .val (.int (Int32.ofNat n)), .val (.int (Int32.ofNat n)), .val (.int (g i)), s7] [(.int (Int32.ofNat i)), (.ref t2)]))
  refine own_st (fun _ k => XS.iinc X0.here hx rfl (hb hby own_d_jdk_43_m30_22) rfl (l' := #[.val (.ref t1), .val (.int ((Int32.ofNat i) + (1 : Int32))), .val (.ref t2), .val (.int ((Int32.ofNat i) + (1 : Int32))), .val (.int (Int32.ofNat n)), .val (.int (Int32.ofNat n)), .val (.int (g i)), s7]) rfl k) ?_
  show own_G _ _ _ _ (T0.setTop (mkF m 25 #[.val (.ref t1), .val (.int ((Int32.ofNat i) + (1 : Int32))), .val (.ref t2), .val (.int ((Int32.ofNat i) + (1 : Int32))), .val (.int (Int32.ofNat n)), .val (.int (Int32.ofNat n)), .val (.int (g i)), s7] [(.int (Int32.ofNat i)), (.ref t2)]))
  obtain ⟨cl2, Ar2, qk2, Sz2, Mz2, Hz2, Uz2⟩ := id V2
  refine own_st (X0.baloadBytes hx (j := (Int32.ofNat i)) (v := (.int (b i))) (by rw [e0]; exact Ar2.1) (State.isArrayOf_alike hZ.alike Ar2.2.1) Ar2.2.2 (own_in Sz2 hi (by omega)) (own_get Sz2 Hz2 hi (by omega)) (g := (mkF m 25 #[.val (.ref t1), .val (.int ((Int32.ofNat i) + (1 : Int32))), .val (.ref t2), .val (.int ((Int32.ofNat i) + (1 : Int32))), .val (.int (Int32.ofNat n)), .val (.int (Int32.ofNat n)), .val (.int (g i)), s7] [(.int (Int32.ofNat i)), (.ref t2)])) rfl rfl (hb hby own_d_jdk_43_m30_25)) ?_
  show own_G _ _ _ _ (T0.setTop (mkF m 26 #[.val (.ref t1), .val (.int ((Int32.ofNat i) + (1 : Int32))), .val (.ref t2), .val (.int ((Int32.ofNat i) + (1 : Int32))), .val (.int (Int32.ofNat n)), .val (.int (Int32.ofNat n)), .val (.int (g i)), s7] [(.int (b i))]))
  refine own_st (fun _ k => XS.istoreS X0.here hx rfl (hb hby own_d_jdk_43_m30_26) rfl rfl hs7 k) ?_
  show own_G _ _ _ _ (T0.setTop (mkF m 28 #[.val (.ref t1), .val (.int ((Int32.ofNat i) + (1 : Int32))), .val (.ref t2), .val (.int ((Int32.ofNat i) + (1 : Int32))), .val (.int (Int32.ofNat n)), .val (.int (Int32.ofNat n)), .val (.int (g i)), .val (.int (b i))] []))
  refine own_st (fun _ k => XS.iload X0.here hx rfl (hb hby own_d_jdk_43_m30_28) rfl k) ?_
  show own_G _ _ _ _ (T0.setTop (mkF m 30 #[.val (.ref t1), .val (.int ((Int32.ofNat i) + (1 : Int32))), .val (.ref t2), .val (.int ((Int32.ofNat i) + (1 : Int32))), .val (.int (Int32.ofNat n)), .val (.int (Int32.ofNat n)), .val (.int (g i)), .val (.int (b i))] [(.int (g i))]))
  refine own_st (fun _ k => XS.iload X0.here hx rfl (hb hby own_d_jdk_43_m30_30) rfl k) ?_
  show own_G _ _ _ _ (T0.setTop (mkF m 32 #[.val (.ref t1), .val (.int ((Int32.ofNat i) + (1 : Int32))), .val (.ref t2), .val (.int ((Int32.ofNat i) + (1 : Int32))), .val (.int (Int32.ofNat n)), .val (.int (Int32.ofNat n)), .val (.int (g i)), .val (.int (b i))] [(.int (b i)), (.int (g i))]))
  obtain ⟨_, _, ⟨T3, L3, k3, n3⟩, -, X3, ⟨Lc3, hQ3, l3, y3, z3⟩, st3⟩ := Jvm.LawKit.callS X0 hx (y := (⟨"java/lang/CharacterDataLatin1", "equalsIgnoreCase", "(BB)Z"⟩ : MethodName)) hown (mvT hZ (hw _ (List.mem_of_getElem? (i := 81) rfl))) (mvT hZ (hw _ (List.mem_of_getElem? (i := 82) rfl))) (mvT hZ (hw _ (List.mem_of_getElem? (i := 83) rfl))) (mvT hZ (hw _ (List.mem_of_getElem? (i := 84) rfl))) (by decide) (own_back (rm := ({ frames := 0, cells := 0, slots := 0, locals := 0 } : Room)) (W := 0) (own_cdl l Z a0 hw [] (g i) (b i) h0 O0 (he i hi)) hZ (hw _ (List.mem_of_getElem? (i := 84) rfl)) (hw _ (List.mem_of_getElem? (i := 83) rfl)) (by decide) (by decide)) (g := (mkF m 32 #[.val (.ref t1), .val (.int ((Int32.ofNat i) + (1 : Int32))), .val (.ref t2), .val (.int ((Int32.ofNat i) + (1 : Int32))), .val (.int (Int32.ofNat n)), .val (.int (Int32.ofNat n)), .val (.int (g i)), .val (.int (b i))] [(.int (b i)), (.int (g i))])) rfl (by rw [hml]; rfl) (argsL := [(.int (g i)), (.int (b i))]) (rest := []) (lenOf own_pd167 rfl) rfl (by show 2 * 0 + _ ≤ _; exact Nat.le_of_eq rfl) (hb hby own_d_jdk_43_m30_32) (fun _ _ => ⟨rfl, e0, hcs, hss⟩)
  dsimp only [Pt.U, Pt.locs, Pt.cells, Pt.slots] at X3 l3 y3 z3 st3 hQ3
  subst l3 y3 z3
  obtain ⟨rfl, N3q, eh3⟩ := hQ3
  have N3 := Fr.app N0 N3q
  refine own_st st3 ?_
  show own_G _ _ _ _ (T3.setTop (mkF m 35 #[.val (.ref t1), .val (.int ((Int32.ofNat i) + (1 : Int32))), .val (.ref t2), .val (.int ((Int32.ofNat i) + (1 : Int32))), .val (.int (Int32.ofNat n)), .val (.int (Int32.ofNat n)), .val (.int (g i)), .val (.int (b i))] [(.int (1 : Int32))]))
  refine own_st (fun _ k => XS.ifNo X3.here hx rfl (hb hby own_d_jdk_43_m30_35) rfl ((if0 _ _).trans (feq (by decide)).1) k) ?_
  show own_G _ _ _ _ (T3.setTop (mkF m 38 #[.val (.ref t1), .val (.int ((Int32.ofNat i) + (1 : Int32))), .val (.ref t2), .val (.int ((Int32.ofNat i) + (1 : Int32))), .val (.int (Int32.ofNat n)), .val (.int (Int32.ofNat n)), .val (.int (g i)), .val (.int (b i))] []))
  refine own_st (fun _ k => XS.goto X3.here hx rfl (pc0 := 38) (pc' := 6) rfl (hb hby own_d_jdk_43_m30_38) (by decide) (by decide) k) ?_
  show own_G _ _ _ _ (T3.setTop (mkF m 6 #[.val (.ref t1), .val (.int ((Int32.ofNat i) + (1 : Int32))), .val (.ref t2), .val (.int ((Int32.ofNat i) + (1 : Int32))), .val (.int (Int32.ofNat n)), .val (.int (Int32.ofNat n)), .val (.int (g i)), .val (.int (b i))] []))
  rw [own_one]
  show own_G _ _ _ _ (T3.setTop (mkF m 6 #[.val (.ref t1), .val (.int (Int32.ofNat (i + 1))), .val (.ref t2), .val (.int (Int32.ofNat (i + 1))), .val (.int (Int32.ofNat n)), .val (.int (Int32.ofNat n)), .val (.int (g i)), .val (.int (b i))] []))
  exact k _ _ _ _ X3 eh3 N3 (One.val rfl) (One.val rfl)
theorem own_d_jdk_43_m30_43 : decode jdk_43_method_30_code 43 = .ok (.iconst 1, 1) := by decide +kernel
theorem own_d_jdk_43_m30_44 : decode jdk_43_method_30_code 44 = .ok (.ireturn, 1) := by decide +kernel
set_option maxRecDepth 65536 in
set_option maxHeartbeats 40000000 in
theorem own_rm_exit {p : Program} {l : Launch} {e : Env} {s : State} {m : MethodId} {args : Array Value} {below : List Frame} {meth : Method} {c : Code} {Z : State} {a0 : Array Value} {locs : List Loc} {cells slots : Nat} {T0 : State} {h0 : Heap}  (t1 t2 : Addr) (n : Nat) (s6 s7 : Slot) (hx : p.tables.exec = Jvm.exec) (hZ : Z.Warmed39 s.vm) (hw : ∀ d ∈ tables_1, d.before a0 Z = true) (hby : c.code = jdk_43_method_30_code) (hml : c.maxLocals = 8) (hown : s.vm.findClass "java/lang/StringLatin1" = some m.cls) (X0 : Stand p l e ({ frames := 1, cells := 0, slots := 0, locals := 14 } : Room) s m args below meth c T0 locs cells slots) (e0 : T0.heap = h0) (N0 : Fr Z.heap.size locs) (O0 : Old Z Z.heap.size h0) (hret : meth.sig.returnType = some .boolean) (hlk : meth.locks = false) (hcs : cells ≤ 0) (hss : slots ≤ 0)
     :
    own_G p.tables e below (own_F s below (fun v h L => v = some (.int 1) ∧ Fr Z.heap.size L ∧ h = h0) 0 0) (T0.setTop (mkF m 6 #[.val (.ref t1), .val (.int (Int32.ofNat n)), .val (.ref t2), .val (.int (Int32.ofNat n)), .val (.int (Int32.ofNat n)), .val (.int (Int32.ofNat n)), s6, s7] [])) := by
  have z0 : Z.heap.size ≤ h0.size := O0.2.1
  have Kr := Keep.refl h0 []
  show own_G _ _ _ _ (T0.setTop (mkF m 6 #[.val (.ref t1), .val (.int (Int32.ofNat n)), .val (.ref t2), .val (.int (Int32.ofNat n)), .val (.int (Int32.ofNat n)), .val (.int (Int32.ofNat n)), s6, s7] []))
  refine own_st (fun _ k => XS.iloadN X0.here hx rfl (hb hby own_d_jdk_43_m30_6) rfl k) ?_
  show own_G _ _ _ _ (T0.setTop (mkF m 7 #[.val (.ref t1), .val (.int (Int32.ofNat n)), .val (.ref t2), .val (.int (Int32.ofNat n)), .val (.int (Int32.ofNat n)), .val (.int (Int32.ofNat n)), s6, s7] [(.int (Int32.ofNat n))]))
  refine own_st (fun _ k => XS.iload X0.here hx rfl (hb hby own_d_jdk_43_m30_7) rfl k) ?_
  show own_G _ _ _ _ (T0.setTop (mkF m 9 #[.val (.ref t1), .val (.int (Int32.ofNat n)), .val (.ref t2), .val (.int (Int32.ofNat n)), .val (.int (Int32.ofNat n)), .val (.int (Int32.ofNat n)), s6, s7] [(.int (Int32.ofNat n)), (.int (Int32.ofNat n))]))
  refine own_st (fun _ k => XS.icmpYes X0.here hx rfl (pc0 := 9) (pc' := 43) rfl (hb hby own_d_jdk_43_m30_9) rfl (flt Int32.lt_irrefl).2.1 (by decide) (by decide) k) ?_
  show own_G _ _ _ _ (T0.setTop (mkF m 43 #[.val (.ref t1), .val (.int (Int32.ofNat n)), .val (.ref t2), .val (.int (Int32.ofNat n)), .val (.int (Int32.ofNat n)), .val (.int (Int32.ofNat n)), s6, s7] []))
  refine own_st (fun _ k => XS.iconst X0.here hx rfl (hb hby own_d_jdk_43_m30_43) k) ?_
  show own_G _ _ _ _ (T0.setTop (mkF m 44 #[.val (.ref t1), .val (.int (Int32.ofNat n)), .val (.ref t2), .val (.int (Int32.ofNat n)), .val (.int (Int32.ofNat n)), .val (.int (Int32.ofNat n)), s6, s7] [(.int (1 : Int32))]))
  exact own_retN X0 hx hret hlk (by simp) (hb hby own_d_jdk_43_m30_44) (by rw [e0]; exact ⟨rfl, N0, rfl⟩) hcs hss
theorem own_rm_loop {p : Program} {l : Launch} {e : Env} {s : State} {m : MethodId} {args : Array Value} {below : List Frame} {meth : Method} {c : Code} {Z : State} {a0 : Array Value} {h0 : Heap} {cells slots : Nat} (t1 t2 : Addr) (k1 k2 : ClassId) (n : Nat) (g b : Nat → Int32) (hx : p.tables.exec = Jvm.exec) (hZ : Z.Warmed39 s.vm) (hw : ∀ d ∈ tables_1, d.before a0 Z = true) (hby : c.code = jdk_43_method_30_code) (hml : c.maxLocals = 8) (hown : s.vm.findClass "java/lang/StringLatin1" = some m.cls) (O0 : Old Z Z.heap.size h0) (hret : meth.sig.returnType = some .boolean) (hlk : meth.locks = false) (hcs : cells ≤ 0) (hss : slots ≤ 0) (hn : n ≤ 10) (V1 : Arv Z h0 t1 k1 .byte (Int32.ofNat n) (own_vals g n) (.int (0 : Int32))) (V2 : Arv Z h0 t2 k2 .byte (Int32.ofNat n) (own_vals b n) (.int (0 : Int32))) (he : ∀ j, j < n → own_eic (g j) (b j)) :
    ∀ (r i : Nat) (s6 s7 : Slot) (T' : State) (locs' : List Loc), i + r = n → Stand p l e ({ frames := 1, cells := 0, slots := 0, locals := 14 } : Room) s m args below meth c T' locs' cells slots → T'.heap = h0 → Fr Z.heap.size locs' → One s6 → One s7 → own_G p.tables e below (own_F s below (fun v h L => v = some (.int 1) ∧ Fr Z.heap.size L ∧ h = h0) 0 0) (T'.setTop (mkF m 6 #[.val (.ref t1), .val (.int (Int32.ofNat i)), .val (.ref t2), .val (.int (Int32.ofNat i)), .val (.int (Int32.ofNat n)), .val (.int (Int32.ofNat n)), s6, s7] [])) := by
  intro r
  induction r with
  | zero =>
    intro i s6 s7 T' locs' hi X e1 N h6 h7
    have hi' : i = n := by omega
    subst hi'
    exact own_rm_exit t1 t2 i s6 s7 hx hZ hw hby hml hown X e1 N O0 hret hlk hcs hss
  | succ r ih =>
    intro i s6 s7 T' locs' hi X e1 N h6 h7
    exact own_rm_turn t1 t2 k1 k2 i n g b s6 s7 hx hZ hw hby hml hown X e1 N O0 hret hlk hcs hss hn V1 V2 he h6 h7 (by omega) (fun s8 s9 T2 L2 X2 e2 N2 h8 h9 => ih (i + 1) s8 s9 T2 L2 (by omega) X2 e2 N2 h8 h9)
theorem own_pn172 : plainName "java/lang/StringLatin1" = true := by first | (simp [plainName, overriddenIn]; done) | decide +kernel
theorem own_d_jdk_43_m30_0 : decode jdk_43_method_30_code 0 = .ok (.iload_n 1, 1) := by decide +kernel
theorem own_d_jdk_43_m30_1 : decode jdk_43_method_30_code 1 = .ok (.iload 4, 2) := by decide +kernel
theorem own_d_jdk_43_m30_3 : decode jdk_43_method_30_code 3 = .ok (.iadd, 1) := by decide +kernel
theorem own_d_jdk_43_m30_4 : decode jdk_43_method_30_code 4 = .ok (.istore 5, 2) := by decide +kernel
set_option maxRecDepth 65536 in
set_option maxHeartbeats 40000000 in
theorem own_rmci (l : Launch) (Z : State) (a0 : Array Value) (hw : ∀ d ∈ tables_1, d.before a0 Z = true) (ws : List Jvm.Cond) (t1 : Addr) (t2 : Addr) (k1 k2 : ClassId) (n : Nat) (g b : Nat → Int32) (h0 : Heap) (O0 : Old Z Z.heap.size h0) (hn : n ≤ 10) (V1 : Arv Z h0 t1 k1 .byte (Int32.ofNat n) (own_vals g n) (.int (0 : Int32))) (V2 : Arv Z h0 t2 k2 .byte (Int32.ofNat n) (own_vals b n) (.int (0 : Int32))) (he : ∀ j, j < n → own_eic (g j) (b j)) :
    own_Met l Z (⟨"java/lang/StringLatin1", "regionMatchesCI", "([BI[BII)Z"⟩ : MethodName) jdk_43_method_30_code 8 (some .boolean) ws ({ frames := 1, cells := 0, slots := 0, locals := 14 } : Room) #[(.ref t1), (.int (0 : Int32)), (.ref t2), (.int (0 : Int32)), (.int (Int32.ofNat n))] h0 (fun v h L => v = some (.int 1) ∧ Fr Z.heap.size L ∧ h = h0) (({ frames := 1, cells := 0, slots := 0, locals := 14 } : Room)).cells (({ frames := 1, cells := 0, slots := 0, locals := 14 } : Room)).slots := by
  refine own_body (ef := fun m => mkF m 0 #[.val (.ref t1), .val (.int (0 : Int32)), .val (.ref t2), .val (.int (0 : Int32)), .val (.int (Int32.ofNat n)), .unset, .unset, .unset] []) (plainFor_of_name own_pn172) (fun m => by first | rfl | (simp [entryFrame, mkF, argsToLocals, Value.category]; done)) ?_
  intro p e s m below meth c T0 hx hZ hby hml hown hnm hret hlk X0 e0
  have N0 := Fr.nil Z.heap.size
  have z0 : Z.heap.size ≤ h0.size := O0.2.1
  have Kr := Keep.refl h0 []
  show own_G _ _ _ _ (T0.setTop (mkF m 0 #[.val (.ref t1), .val (.int (0 : Int32)), .val (.ref t2), .val (.int (0 : Int32)), .val (.int (Int32.ofNat n)), .unset, .unset, .unset] []))
  refine own_st (fun _ k => XS.iloadN X0.here hx rfl (hb hby own_d_jdk_43_m30_0) rfl k) ?_
  show own_G _ _ _ _ (T0.setTop (mkF m 1 #[.val (.ref t1), .val (.int (0 : Int32)), .val (.ref t2), .val (.int (0 : Int32)), .val (.int (Int32.ofNat n)), .unset, .unset, .unset] [(.int (0 : Int32))]))
  refine own_st (fun _ k => XS.iload X0.here hx rfl (hb hby own_d_jdk_43_m30_1) rfl k) ?_
  show own_G _ _ _ _ (T0.setTop (mkF m 3 #[.val (.ref t1), .val (.int (0 : Int32)), .val (.ref t2), .val (.int (0 : Int32)), .val (.int (Int32.ofNat n)), .unset, .unset, .unset] [(.int (Int32.ofNat n)), (.int (0 : Int32))]))
  refine own_st (fun _ k => XS.iadd X0.here hx rfl (hb hby own_d_jdk_43_m30_3) rfl k) ?_
  show own_G _ _ _ _ (T0.setTop (mkF m 4 #[.val (.ref t1), .val (.int (0 : Int32)), .val (.ref t2), .val (.int (0 : Int32)), .val (.int (Int32.ofNat n)), .unset, .unset, .unset] [(.int ((0 : Int32) + (Int32.ofNat n)))]))
  rw [Int32.zero_add]
  show own_G _ _ _ _ (T0.setTop (mkF m 4 #[.val (.ref t1), .val (.int (0 : Int32)), .val (.ref t2), .val (.int (0 : Int32)), .val (.int (Int32.ofNat n)), .unset, .unset, .unset] [(.int (Int32.ofNat n))]))
  refine own_st (fun _ k => XS.istore X0.here hx rfl (hb hby own_d_jdk_43_m30_4) rfl (l' := #[.val (.ref t1), .val (.int (0 : Int32)), .val (.ref t2), .val (.int (0 : Int32)), .val (.int (Int32.ofNat n)), .val (.int (Int32.ofNat n)), .unset, .unset]) rfl k) ?_
  show own_G _ _ _ _ (T0.setTop (mkF m 6 #[.val (.ref t1), .val (.int (0 : Int32)), .val (.ref t2), .val (.int (0 : Int32)), .val (.int (Int32.ofNat n)), .val (.int (Int32.ofNat n)), .unset, .unset] []))
  exact own_rm_loop t1 t2 k1 k2 n g b hx hZ hw hby hml hown O0 hret hlk (Nat.le_refl _) (Nat.le_refl _) hn V1 V2 he n 0 .unset .unset _ _ (by omega) X0 e0 N0 One.u One.u
theorem own_d_jdk_42_m74_0 : decode jdk_42_method_74_code 0 = .ok (.iload_n 1, 1) := by decide +kernel
theorem own_d_jdk_42_m74_1 : decode jdk_42_method_74_code 1 = .ok (.ifCond .ne 14, 3) := by decide +kernel
theorem own_d_jdk_42_m74_15 : decode jdk_42_method_74_code 15 = .ok (.iload 4, 2) := by decide +kernel
theorem own_d_jdk_42_m74_17 : decode jdk_42_method_74_code 17 = .ok (.ifCond .lt 38, 3) := by decide +kernel
theorem own_d_jdk_42_m74_20 : decode jdk_42_method_74_code 20 = .ok (.iload_n 2, 1) := by decide +kernel
theorem own_d_jdk_42_m74_21 : decode jdk_42_method_74_code 21 = .ok (.ifCond .lt 34, 3) := by decide +kernel
theorem own_d_jdk_42_m74_24 : decode jdk_42_method_74_code 24 = .ok (.iload_n 2, 1) := by decide +kernel
theorem own_d_jdk_42_m74_25 : decode jdk_42_method_74_code 25 = .ok (.i2l, 1) := by decide +kernel
theorem own_d_jdk_42_m74_26 : decode jdk_42_method_74_code 26 = .ok (.aload_n 0, 1) := by decide +kernel
theorem own_d_jdk_42_m74_27 : decode jdk_42_method_74_code 27 = .ok (.invokevirtual 505, 3) := by decide +kernel
theorem own_pd187 : parseMethodDescriptor "()I" = some ⟨[], some .int⟩ := by decide +kernel
theorem own_d_jdk_42_m74_30 : decode jdk_42_method_74_code 30 = .ok (.i2l, 1) := by decide +kernel
theorem own_d_jdk_42_m74_31 : decode jdk_42_method_74_code 31 = .ok (.iload 5, 2) := by decide +kernel
theorem own_d_jdk_42_m74_33 : decode jdk_42_method_74_code 33 = .ok (.i2l, 1) := by decide +kernel
theorem own_d_jdk_42_m74_34 : decode jdk_42_method_74_code 34 = .ok (.lsub, 1) := by decide +kernel
theorem own_d_jdk_42_m74_35 : decode jdk_42_method_74_code 35 = .ok (.lcmp, 1) := by decide +kernel
theorem own_d_jdk_42_m74_36 : decode jdk_42_method_74_code 36 = .ok (.ifCond .gt 19, 3) := by decide +kernel
theorem own_d_jdk_42_m74_39 : decode jdk_42_method_74_code 39 = .ok (.iload 4, 2) := by decide +kernel
theorem own_d_jdk_42_m74_41 : decode jdk_42_method_74_code 41 = .ok (.i2l, 1) := by decide +kernel
theorem own_d_jdk_42_m74_42 : decode jdk_42_method_74_code 42 = .ok (.aload_n 3, 1) := by decide +kernel
theorem own_d_jdk_42_m74_43 : decode jdk_42_method_74_code 43 = .ok (.invokevirtual 505, 3) := by decide +kernel
theorem own_d_jdk_42_m74_46 : decode jdk_42_method_74_code 46 = .ok (.i2l, 1) := by decide +kernel
theorem own_d_jdk_42_m74_47 : decode jdk_42_method_74_code 47 = .ok (.iload 5, 2) := by decide +kernel
theorem own_d_jdk_42_m74_49 : decode jdk_42_method_74_code 49 = .ok (.i2l, 1) := by decide +kernel
theorem own_d_jdk_42_m74_50 : decode jdk_42_method_74_code 50 = .ok (.lsub, 1) := by decide +kernel
theorem own_d_jdk_42_m74_51 : decode jdk_42_method_74_code 51 = .ok (.lcmp, 1) := by decide +kernel
theorem own_d_jdk_42_m74_52 : decode jdk_42_method_74_code 52 = .ok (.ifCond .le 5, 3) := by decide +kernel
theorem own_d_jdk_42_m74_57 : decode jdk_42_method_74_code 57 = .ok (.aload_n 0, 1) := by decide +kernel
theorem own_d_jdk_42_m74_58 : decode jdk_42_method_74_code 58 = .ok (.getfield 9, 3) := by decide +kernel
theorem own_d_jdk_42_m74_61 : decode jdk_42_method_74_code 61 = .ok (.astore 6, 2) := by decide +kernel
theorem own_d_jdk_42_m74_63 : decode jdk_42_method_74_code 63 = .ok (.aload_n 3, 1) := by decide +kernel
theorem own_d_jdk_42_m74_64 : decode jdk_42_method_74_code 64 = .ok (.getfield 9, 3) := by decide +kernel
theorem own_d_jdk_42_m74_67 : decode jdk_42_method_74_code 67 = .ok (.astore 7, 2) := by decide +kernel
theorem own_d_jdk_42_m74_69 : decode jdk_42_method_74_code 69 = .ok (.aload_n 0, 1) := by decide +kernel
theorem own_d_jdk_42_m74_70 : decode jdk_42_method_74_code 70 = .ok (.invokevirtual 335, 3) := by decide +kernel
theorem own_d_jdk_42_m74_73 : decode jdk_42_method_74_code 73 = .ok (.istore 8, 2) := by decide +kernel
theorem own_d_jdk_42_m74_75 : decode jdk_42_method_74_code 75 = .ok (.iload 8, 2) := by decide +kernel
theorem own_d_jdk_42_m74_77 : decode jdk_42_method_74_code 77 = .ok (.aload_n 3, 1) := by decide +kernel
theorem own_d_jdk_42_m74_78 : decode jdk_42_method_74_code 78 = .ok (.invokevirtual 335, 3) := by decide +kernel
theorem own_d_jdk_42_m74_81 : decode jdk_42_method_74_code 81 = .ok (.if_icmp .ne 36, 3) := by decide +kernel
theorem own_d_jdk_42_m74_84 : decode jdk_42_method_74_code 84 = .ok (.iload 8, 2) := by decide +kernel
theorem own_d_jdk_42_m74_86 : decode jdk_42_method_74_code 86 = .ok (.ifCond .ne 18, 3) := by decide +kernel
theorem own_d_jdk_42_m74_89 : decode jdk_42_method_74_code 89 = .ok (.aload 6, 2) := by decide +kernel
theorem own_d_jdk_42_m74_91 : decode jdk_42_method_74_code 91 = .ok (.iload_n 2, 1) := by decide +kernel
theorem own_d_jdk_42_m74_92 : decode jdk_42_method_74_code 92 = .ok (.aload 7, 2) := by decide +kernel
theorem own_d_jdk_42_m74_94 : decode jdk_42_method_74_code 94 = .ok (.iload 4, 2) := by decide +kernel
theorem own_d_jdk_42_m74_96 : decode jdk_42_method_74_code 96 = .ok (.iload 5, 2) := by decide +kernel
theorem own_d_jdk_42_m74_98 : decode jdk_42_method_74_code 98 = .ok (.invokestatic 613, 3) := by decide +kernel
theorem own_pd225 : parseMethodDescriptor "([BI[BII)Z" = some ⟨[(.array .byte), .int, (.array .byte), .int, .int], some .boolean⟩ := by decide +kernel
theorem own_d_jdk_42_m74_101 : decode jdk_42_method_74_code 101 = .ok (.goto 15, 3) := by decide +kernel
theorem own_d_jdk_42_m74_116 : decode jdk_42_method_74_code 116 = .ok (.ireturn, 1) := by decide +kernel
set_option maxRecDepth 65536 in
set_option maxHeartbeats 40000000 in
theorem own_rmz (l : Launch) (Z : State) (a0 : Array Value) (hw : ∀ d ∈ tables_1, d.before a0 Z = true) (ws : List Jvm.Cond) (a1 : Addr) (a2 : Addr) (t1 t2 : Addr) (k1 k2 : ClassId) (n : Nat) (g b : Nat → Int32) (w1 : Int32) (h0 : Heap) (O0 : Old Z Z.heap.size h0) (hn : n ≤ 10) (S1 : Sta Z Z.heap "java/lang/String" "COMPACT_STRINGS" "Z" (.int w1)) (hw1 : ¬ (w1 = (0 : Int32))) (H1 : own_StrL Z h0 a1 t1 k1 g n) (H2 : own_StrL Z h0 a2 t2 k2 b n) (he : ∀ j, j < n → own_eic (g j) (b j)) :
    own_Met l Z (⟨"java/lang/String", "regionMatches", "(ZILjava/lang/String;II)Z"⟩ : MethodName) jdk_42_method_74_code 9 (some .boolean) ws ({ frames := 2, cells := 0, slots := 0, locals := 34 } : Room) #[(.ref a1), (.int (1 : Int32)), (.int (0 : Int32)), (.ref a2), (.int (0 : Int32)), (.int (Int32.ofNat n))] h0 (fun v h L => v = some (.int 1) ∧ Fr Z.heap.size L ∧ h = h0) (({ frames := 2, cells := 0, slots := 0, locals := 34 } : Room)).cells (({ frames := 2, cells := 0, slots := 0, locals := 34 } : Room)).slots := by
  refine own_body (ef := fun m => mkF m 0 #[.val (.ref a1), .val (.int (1 : Int32)), .val (.int (0 : Int32)), .val (.ref a2), .val (.int (0 : Int32)), .val (.int (Int32.ofNat n)), .unset, .unset, .unset] []) (plainFor_of_name own_pn50) (fun m => by first | rfl | (simp [entryFrame, mkF, argsToLocals, Value.category]; done)) ?_
  intro p e s m below meth c T0 hx hZ hby hml hown hnm hret hlk X0 e0
  have N0 := Fr.nil Z.heap.size
  have z0 : Z.heap.size ≤ h0.size := O0.2.1
  have Kr := Keep.refl h0 []
  show own_G _ _ _ _ (T0.setTop (mkF m 0 #[.val (.ref a1), .val (.int (1 : Int32)), .val (.int (0 : Int32)), .val (.ref a2), .val (.int (0 : Int32)), .val (.int (Int32.ofNat n)), .unset, .unset, .unset] []))
  refine own_st (fun _ k => XS.iloadN X0.here hx rfl (hb hby own_d_jdk_42_m74_0) rfl k) ?_
  show own_G _ _ _ _ (T0.setTop (mkF m 1 #[.val (.ref a1), .val (.int (1 : Int32)), .val (.int (0 : Int32)), .val (.ref a2), .val (.int (0 : Int32)), .val (.int (Int32.ofNat n)), .unset, .unset, .unset] [(.int (1 : Int32))]))
  refine own_st (fun _ k => XS.ifYes X0.here hx rfl (pc0 := 1) (pc' := 15) rfl (hb hby own_d_jdk_42_m74_1) rfl ((if0 _ _).trans (feq (by decide)).2) (by decide) (by decide) k) ?_
  show own_G _ _ _ _ (T0.setTop (mkF m 15 #[.val (.ref a1), .val (.int (1 : Int32)), .val (.int (0 : Int32)), .val (.ref a2), .val (.int (0 : Int32)), .val (.int (Int32.ofNat n)), .unset, .unset, .unset] []))
  refine own_st (fun _ k => XS.iload X0.here hx rfl (hb hby own_d_jdk_42_m74_15) rfl k) ?_
  show own_G _ _ _ _ (T0.setTop (mkF m 17 #[.val (.ref a1), .val (.int (1 : Int32)), .val (.int (0 : Int32)), .val (.ref a2), .val (.int (0 : Int32)), .val (.int (Int32.ofNat n)), .unset, .unset, .unset] [(.int (0 : Int32))]))
  refine own_st (fun _ k => XS.ifNo X0.here hx rfl (hb hby own_d_jdk_42_m74_17) rfl ((if0 _ _).trans (flt (by decide)).1) k) ?_
  show own_G _ _ _ _ (T0.setTop (mkF m 20 #[.val (.ref a1), .val (.int (1 : Int32)), .val (.int (0 : Int32)), .val (.ref a2), .val (.int (0 : Int32)), .val (.int (Int32.ofNat n)), .unset, .unset, .unset] []))
  refine own_st (fun _ k => XS.iloadN X0.here hx rfl (hb hby own_d_jdk_42_m74_20) rfl k) ?_
  show own_G _ _ _ _ (T0.setTop (mkF m 21 #[.val (.ref a1), .val (.int (1 : Int32)), .val (.int (0 : Int32)), .val (.ref a2), .val (.int (0 : Int32)), .val (.int (Int32.ofNat n)), .unset, .unset, .unset] [(.int (0 : Int32))]))
  refine own_st (fun _ k => XS.ifNo X0.here hx rfl (hb hby own_d_jdk_42_m74_21) rfl ((if0 _ _).trans (flt (by decide)).1) k) ?_
  show own_G _ _ _ _ (T0.setTop (mkF m 24 #[.val (.ref a1), .val (.int (1 : Int32)), .val (.int (0 : Int32)), .val (.ref a2), .val (.int (0 : Int32)), .val (.int (Int32.ofNat n)), .unset, .unset, .unset] []))
  refine own_st (fun _ k => XS.iloadN X0.here hx rfl (hb hby own_d_jdk_42_m74_24) rfl k) ?_
  show own_G _ _ _ _ (T0.setTop (mkF m 25 #[.val (.ref a1), .val (.int (1 : Int32)), .val (.int (0 : Int32)), .val (.ref a2), .val (.int (0 : Int32)), .val (.int (Int32.ofNat n)), .unset, .unset, .unset] [(.int (0 : Int32))]))
  refine own_st (fun _ k => XS.i2l X0.here hx rfl (hb hby own_d_jdk_42_m74_25) rfl k) ?_
  show own_G _ _ _ _ (T0.setTop (mkF m 26 #[.val (.ref a1), .val (.int (1 : Int32)), .val (.int (0 : Int32)), .val (.ref a2), .val (.int (0 : Int32)), .val (.int (Int32.ofNat n)), .unset, .unset, .unset] [(.long ((0 : Int32).toInt64))]))
  refine own_st (fun _ k => XS.aloadN X0.here hx rfl (hb hby own_d_jdk_42_m74_26) rfl rfl k) ?_
  show own_G _ _ _ _ (T0.setTop (mkF m 27 #[.val (.ref a1), .val (.int (1 : Int32)), .val (.int (0 : Int32)), .val (.ref a2), .val (.int (0 : Int32)), .val (.int (Int32.ofNat n)), .unset, .unset, .unset] [(.ref a1), (.long ((0 : Int32).toInt64))]))
  obtain ⟨cq1, kq1, q1a, q1b, q1c⟩ := isOf hZ e0 H1.1
  obtain ⟨_, _, ⟨T1, L1, k1, n1⟩, -, X1, ⟨Lc1, hQ1, l1, y1, z1⟩, st1⟩ := X0.virtualBack hx (y := (⟨"java/lang/String", "length", "()I"⟩ : MethodName)) (z := (⟨"java/lang/String", "length", "()I"⟩ : MethodName)) hown (mvT hZ (hw _ (List.mem_of_getElem? (i := 62) rfl))) (mvT hZ (hw _ (List.mem_of_getElem? (i := 63) rfl))) (notFace_of_selects (args := #[]) (mvT hZ (hw _ (List.mem_of_getElem? (i := 65) rfl)))) (mvT hZ (hw _ (List.mem_of_getElem? (i := 65) rfl))) (mvT hZ (hw _ (List.mem_of_getElem? (i := 64) rfl))) (by decide) (own_back (rm := ({ frames := 1, cells := 0, slots := 0, locals := 13 } : Room)) (W := 2) (own_length l Z a0 hw [] a1 t1 k1 n g w1 h0 O0 hn S1 hw1 H1) hZ (hw _ (List.mem_of_getElem? (i := 66) rfl)) (hw _ (List.mem_of_getElem? (i := 7) rfl)) (by decide) (by decide)) q1a q1c (g := (mkF m 27 #[.val (.ref a1), .val (.int (1 : Int32)), .val (.int (0 : Int32)), .val (.ref a2), .val (.int (0 : Int32)), .val (.int (Int32.ofNat n)), .unset, .unset, .unset] [(.ref a1), (.long ((0 : Int32).toInt64))])) rfl (by rw [hml]; rfl) (Steps.refl _) (argsL := []) (rest := [(.long ((0 : Int32).toInt64))]) (lenOf own_pd187 rfl) rfl (by show 2 * 0 + _ ≤ _; exact Nat.le_of_eq rfl) (hb hby own_d_jdk_42_m74_27) (fun _ _ => ⟨rfl, e0, (by decide : 0 + 0 ≤ _), (by decide : 0 + 0 ≤ _)⟩)
  dsimp only [Pt.U, Pt.locs, Pt.cells, Pt.slots] at X1 l1 y1 z1 st1 hQ1
  subst l1 y1 z1
  obtain ⟨rfl, N1q, eh1⟩ := hQ1
  have N1 := Fr.app N0 N1q
  refine own_tr st1 ?_
  show own_G _ _ _ _ (T1.setTop (mkF m 30 #[.val (.ref a1), .val (.int (1 : Int32)), .val (.int (0 : Int32)), .val (.ref a2), .val (.int (0 : Int32)), .val (.int (Int32.ofNat n)), .unset, .unset, .unset] [(.int (Int32.ofNat n)), (.long ((0 : Int32).toInt64))]))
  refine own_st (fun _ k => XS.i2l X1.here hx rfl (hb hby own_d_jdk_42_m74_30) rfl k) ?_
  show own_G _ _ _ _ (T1.setTop (mkF m 31 #[.val (.ref a1), .val (.int (1 : Int32)), .val (.int (0 : Int32)), .val (.ref a2), .val (.int (0 : Int32)), .val (.int (Int32.ofNat n)), .unset, .unset, .unset] [(.long ((Int32.ofNat n).toInt64)), (.long ((0 : Int32).toInt64))]))
  refine own_st (fun _ k => XS.iload X1.here hx rfl (hb hby own_d_jdk_42_m74_31) rfl k) ?_
  show own_G _ _ _ _ (T1.setTop (mkF m 33 #[.val (.ref a1), .val (.int (1 : Int32)), .val (.int (0 : Int32)), .val (.ref a2), .val (.int (0 : Int32)), .val (.int (Int32.ofNat n)), .unset, .unset, .unset] [(.int (Int32.ofNat n)), (.long ((Int32.ofNat n).toInt64)), (.long ((0 : Int32).toInt64))]))
  refine own_st (fun _ k => XS.i2l X1.here hx rfl (hb hby own_d_jdk_42_m74_33) rfl k) ?_
  show own_G _ _ _ _ (T1.setTop (mkF m 34 #[.val (.ref a1), .val (.int (1 : Int32)), .val (.int (0 : Int32)), .val (.ref a2), .val (.int (0 : Int32)), .val (.int (Int32.ofNat n)), .unset, .unset, .unset] [(.long ((Int32.ofNat n).toInt64)), (.long ((Int32.ofNat n).toInt64)), (.long ((0 : Int32).toInt64))]))
  refine own_st (fun _ k => XS.lsub X1.here hx rfl (hb hby own_d_jdk_42_m74_34) rfl k) ?_
  show own_G _ _ _ _ (T1.setTop (mkF m 35 #[.val (.ref a1), .val (.int (1 : Int32)), .val (.int (0 : Int32)), .val (.ref a2), .val (.int (0 : Int32)), .val (.int (Int32.ofNat n)), .unset, .unset, .unset] [(.long (((Int32.ofNat n).toInt64) - ((Int32.ofNat n).toInt64))), (.long ((0 : Int32).toInt64))]))
  refine own_st (fun _ k => XS.lcmp X1.here hx rfl (hb hby own_d_jdk_42_m74_35) rfl k) ?_
  show own_G _ _ _ _ (T1.setTop (mkF m 36 #[.val (.ref a1), .val (.int (1 : Int32)), .val (.int (0 : Int32)), .val (.ref a2), .val (.int (0 : Int32)), .val (.int (Int32.ofNat n)), .unset, .unset, .unset] [(.int (lcmpW ((0 : Int32).toInt64) (((Int32.ofNat n).toInt64) - ((Int32.ofNat n).toInt64))))]))
  refine own_st (fun _ k => XS.ifNo X1.here hx rfl (hb hby own_d_jdk_42_m74_36) rfl ((if0 _ _).trans (flt (by rw [Int64.sub_self]; decide)).2.2.1) k) ?_
  show own_G _ _ _ _ (T1.setTop (mkF m 39 #[.val (.ref a1), .val (.int (1 : Int32)), .val (.int (0 : Int32)), .val (.ref a2), .val (.int (0 : Int32)), .val (.int (Int32.ofNat n)), .unset, .unset, .unset] []))
  refine own_st (fun _ k => XS.iload X1.here hx rfl (hb hby own_d_jdk_42_m74_39) rfl k) ?_
  show own_G _ _ _ _ (T1.setTop (mkF m 41 #[.val (.ref a1), .val (.int (1 : Int32)), .val (.int (0 : Int32)), .val (.ref a2), .val (.int (0 : Int32)), .val (.int (Int32.ofNat n)), .unset, .unset, .unset] [(.int (0 : Int32))]))
  refine own_st (fun _ k => XS.i2l X1.here hx rfl (hb hby own_d_jdk_42_m74_41) rfl k) ?_
  show own_G _ _ _ _ (T1.setTop (mkF m 42 #[.val (.ref a1), .val (.int (1 : Int32)), .val (.int (0 : Int32)), .val (.ref a2), .val (.int (0 : Int32)), .val (.int (Int32.ofNat n)), .unset, .unset, .unset] [(.long ((0 : Int32).toInt64))]))
  refine own_st (fun _ k => XS.aloadN X1.here hx rfl (hb hby own_d_jdk_42_m74_42) rfl rfl k) ?_
  show own_G _ _ _ _ (T1.setTop (mkF m 43 #[.val (.ref a1), .val (.int (1 : Int32)), .val (.int (0 : Int32)), .val (.ref a2), .val (.int (0 : Int32)), .val (.int (Int32.ofNat n)), .unset, .unset, .unset] [(.ref a2), (.long ((0 : Int32).toInt64))]))
  obtain ⟨cq2, kq2, q2a, q2b, q2c⟩ := isOf hZ eh1 H2.1
  obtain ⟨_, _, ⟨T2, L2, k2, n2⟩, -, X2, ⟨Lc2, hQ2, l2, y2, z2⟩, st2⟩ := X1.virtualBack hx (y := (⟨"java/lang/String", "length", "()I"⟩ : MethodName)) (z := (⟨"java/lang/String", "length", "()I"⟩ : MethodName)) hown (mvT hZ (hw _ (List.mem_of_getElem? (i := 62) rfl))) (mvT hZ (hw _ (List.mem_of_getElem? (i := 63) rfl))) (notFace_of_selects (args := #[]) (mvT hZ (hw _ (List.mem_of_getElem? (i := 65) rfl)))) (mvT hZ (hw _ (List.mem_of_getElem? (i := 65) rfl))) (mvT hZ (hw _ (List.mem_of_getElem? (i := 64) rfl))) (by decide) (own_back (rm := ({ frames := 1, cells := 0, slots := 0, locals := 13 } : Room)) (W := 2) (own_length l Z a0 hw [] a2 t2 k2 n b w1 h0 O0 hn S1 hw1 H2) hZ (hw _ (List.mem_of_getElem? (i := 66) rfl)) (hw _ (List.mem_of_getElem? (i := 7) rfl)) (by decide) (by decide)) q2a q2c (g := (mkF m 43 #[.val (.ref a1), .val (.int (1 : Int32)), .val (.int (0 : Int32)), .val (.ref a2), .val (.int (0 : Int32)), .val (.int (Int32.ofNat n)), .unset, .unset, .unset] [(.ref a2), (.long ((0 : Int32).toInt64))])) rfl (by rw [hml]; rfl) (Steps.refl _) (argsL := []) (rest := [(.long ((0 : Int32).toInt64))]) (lenOf own_pd187 rfl) rfl (by show 2 * 0 + _ ≤ _; exact Nat.le_of_eq rfl) (hb hby own_d_jdk_42_m74_43) (fun _ _ => ⟨rfl, eh1, (by decide : 0 + 0 + 0 ≤ _), (by decide : 0 + 0 + 0 ≤ _)⟩)
  dsimp only [Pt.U, Pt.locs, Pt.cells, Pt.slots] at X2 l2 y2 z2 st2 hQ2
  subst l2 y2 z2
  obtain ⟨rfl, N2q, eh2⟩ := hQ2
  have N2 := Fr.app N1 N2q
  refine own_tr st2 ?_
  show own_G _ _ _ _ (T2.setTop (mkF m 46 #[.val (.ref a1), .val (.int (1 : Int32)), .val (.int (0 : Int32)), .val (.ref a2), .val (.int (0 : Int32)), .val (.int (Int32.ofNat n)), .unset, .unset, .unset] [(.int (Int32.ofNat n)), (.long ((0 : Int32).toInt64))]))
  refine own_st (fun _ k => XS.i2l X2.here hx rfl (hb hby own_d_jdk_42_m74_46) rfl k) ?_
  show own_G _ _ _ _ (T2.setTop (mkF m 47 #[.val (.ref a1), .val (.int (1 : Int32)), .val (.int (0 : Int32)), .val (.ref a2), .val (.int (0 : Int32)), .val (.int (Int32.ofNat n)), .unset, .unset, .unset] [(.long ((Int32.ofNat n).toInt64)), (.long ((0 : Int32).toInt64))]))
  refine own_st (fun _ k => XS.iload X2.here hx rfl (hb hby own_d_jdk_42_m74_47) rfl k) ?_
  show own_G _ _ _ _ (T2.setTop (mkF m 49 #[.val (.ref a1), .val (.int (1 : Int32)), .val (.int (0 : Int32)), .val (.ref a2), .val (.int (0 : Int32)), .val (.int (Int32.ofNat n)), .unset, .unset, .unset] [(.int (Int32.ofNat n)), (.long ((Int32.ofNat n).toInt64)), (.long ((0 : Int32).toInt64))]))
  refine own_st (fun _ k => XS.i2l X2.here hx rfl (hb hby own_d_jdk_42_m74_49) rfl k) ?_
  show own_G _ _ _ _ (T2.setTop (mkF m 50 #[.val (.ref a1), .val (.int (1 : Int32)), .val (.int (0 : Int32)), .val (.ref a2), .val (.int (0 : Int32)), .val (.int (Int32.ofNat n)), .unset, .unset, .unset] [(.long ((Int32.ofNat n).toInt64)), (.long ((Int32.ofNat n).toInt64)), (.long ((0 : Int32).toInt64))]))
  refine own_st (fun _ k => XS.lsub X2.here hx rfl (hb hby own_d_jdk_42_m74_50) rfl k) ?_
  show own_G _ _ _ _ (T2.setTop (mkF m 51 #[.val (.ref a1), .val (.int (1 : Int32)), .val (.int (0 : Int32)), .val (.ref a2), .val (.int (0 : Int32)), .val (.int (Int32.ofNat n)), .unset, .unset, .unset] [(.long (((Int32.ofNat n).toInt64) - ((Int32.ofNat n).toInt64))), (.long ((0 : Int32).toInt64))]))
  refine own_st (fun _ k => XS.lcmp X2.here hx rfl (hb hby own_d_jdk_42_m74_51) rfl k) ?_
  show own_G _ _ _ _ (T2.setTop (mkF m 52 #[.val (.ref a1), .val (.int (1 : Int32)), .val (.int (0 : Int32)), .val (.ref a2), .val (.int (0 : Int32)), .val (.int (Int32.ofNat n)), .unset, .unset, .unset] [(.int (lcmpW ((0 : Int32).toInt64) (((Int32.ofNat n).toInt64) - ((Int32.ofNat n).toInt64))))]))
  refine own_st (fun _ k => XS.ifYes X2.here hx rfl (pc0 := 52) (pc' := 57) rfl (hb hby own_d_jdk_42_m74_52) rfl ((if0 _ _).trans (flt (by rw [Int64.sub_self]; decide)).2.2.2) (by decide) (by decide) k) ?_
  show own_G _ _ _ _ (T2.setTop (mkF m 57 #[.val (.ref a1), .val (.int (1 : Int32)), .val (.int (0 : Int32)), .val (.ref a2), .val (.int (0 : Int32)), .val (.int (Int32.ofNat n)), .unset, .unset, .unset] []))
  refine own_st (fun _ k => XS.aloadN X2.here hx rfl (hb hby own_d_jdk_42_m74_57) rfl rfl k) ?_
  show own_G _ _ _ _ (T2.setTop (mkF m 58 #[.val (.ref a1), .val (.int (1 : Int32)), .val (.int (0 : Int32)), .val (.ref a2), .val (.int (0 : Int32)), .val (.int (Int32.ofNat n)), .unset, .unset, .unset] [(.ref a1)]))
  obtain ⟨T3, X3, e3, st3⟩ := getF X2 hx hZ hown (host := "") (Or.inl (hw _ (List.mem_of_getElem? (i := 32) rfl))) Via.refl eh2 H1.2.2.1 (g := (mkF m 58 #[.val (.ref a1), .val (.int (1 : Int32)), .val (.int (0 : Int32)), .val (.ref a2), .val (.int (0 : Int32)), .val (.int (Int32.ofNat n)), .unset, .unset, .unset] [(.ref a1)])) rfl rfl (hb hby own_d_jdk_42_m74_58)
  refine own_st st3 ?_
  show own_G _ _ _ _ (T3.setTop (mkF m 61 #[.val (.ref a1), .val (.int (1 : Int32)), .val (.int (0 : Int32)), .val (.ref a2), .val (.int (0 : Int32)), .val (.int (Int32.ofNat n)), .unset, .unset, .unset] [(.ref t1)]))
  refine own_st (fun _ k => XS.astore X3.here hx rfl (hb hby own_d_jdk_42_m74_61) rfl rfl (l' := #[.val (.ref a1), .val (.int (1 : Int32)), .val (.int (0 : Int32)), .val (.ref a2), .val (.int (0 : Int32)), .val (.int (Int32.ofNat n)), .val (.ref t1), .unset, .unset]) rfl k) ?_
  show own_G _ _ _ _ (T3.setTop (mkF m 63 #[.val (.ref a1), .val (.int (1 : Int32)), .val (.int (0 : Int32)), .val (.ref a2), .val (.int (0 : Int32)), .val (.int (Int32.ofNat n)), .val (.ref t1), .unset, .unset] []))
  refine own_st (fun _ k => XS.aloadN X3.here hx rfl (hb hby own_d_jdk_42_m74_63) rfl rfl k) ?_
  show own_G _ _ _ _ (T3.setTop (mkF m 64 #[.val (.ref a1), .val (.int (1 : Int32)), .val (.int (0 : Int32)), .val (.ref a2), .val (.int (0 : Int32)), .val (.int (Int32.ofNat n)), .val (.ref t1), .unset, .unset] [(.ref a2)]))
  obtain ⟨T4, X4, e4, st4⟩ := getF X3 hx hZ hown (host := "") (Or.inl (hw _ (List.mem_of_getElem? (i := 32) rfl))) Via.refl e3 H2.2.2.1 (g := (mkF m 64 #[.val (.ref a1), .val (.int (1 : Int32)), .val (.int (0 : Int32)), .val (.ref a2), .val (.int (0 : Int32)), .val (.int (Int32.ofNat n)), .val (.ref t1), .unset, .unset] [(.ref a2)])) rfl rfl (hb hby own_d_jdk_42_m74_64)
  refine own_st st4 ?_
  show own_G _ _ _ _ (T4.setTop (mkF m 67 #[.val (.ref a1), .val (.int (1 : Int32)), .val (.int (0 : Int32)), .val (.ref a2), .val (.int (0 : Int32)), .val (.int (Int32.ofNat n)), .val (.ref t1), .unset, .unset] [(.ref t2)]))
  refine own_st (fun _ k => XS.astore X4.here hx rfl (hb hby own_d_jdk_42_m74_67) rfl rfl (l' := #[.val (.ref a1), .val (.int (1 : Int32)), .val (.int (0 : Int32)), .val (.ref a2), .val (.int (0 : Int32)), .val (.int (Int32.ofNat n)), .val (.ref t1), .val (.ref t2), .unset]) rfl k) ?_
  show own_G _ _ _ _ (T4.setTop (mkF m 69 #[.val (.ref a1), .val (.int (1 : Int32)), .val (.int (0 : Int32)), .val (.ref a2), .val (.int (0 : Int32)), .val (.int (Int32.ofNat n)), .val (.ref t1), .val (.ref t2), .unset] []))
  refine own_st (fun _ k => XS.aloadN X4.here hx rfl (hb hby own_d_jdk_42_m74_69) rfl rfl k) ?_
  show own_G _ _ _ _ (T4.setTop (mkF m 70 #[.val (.ref a1), .val (.int (1 : Int32)), .val (.int (0 : Int32)), .val (.ref a2), .val (.int (0 : Int32)), .val (.int (Int32.ofNat n)), .val (.ref t1), .val (.ref t2), .unset] [(.ref a1)]))
  obtain ⟨cq5, kq5, q5a, q5b, q5c⟩ := isOf hZ e4 H1.1
  obtain ⟨_, _, ⟨T5, L5, k5, n5⟩, -, X5, ⟨Lc5, hQ5, l5, y5, z5⟩, st5⟩ := X4.virtualBack hx (y := (⟨"java/lang/String", "coder", "()B"⟩ : MethodName)) (z := (⟨"java/lang/String", "coder", "()B"⟩ : MethodName)) hown (mvT hZ (hw _ (List.mem_of_getElem? (i := 67) rfl))) (mvT hZ (hw _ (List.mem_of_getElem? (i := 68) rfl))) (notFace_of_selects (args := #[]) (mvT hZ (hw _ (List.mem_of_getElem? (i := 70) rfl)))) (mvT hZ (hw _ (List.mem_of_getElem? (i := 70) rfl))) (mvT hZ (hw _ (List.mem_of_getElem? (i := 69) rfl))) (by decide) (own_back (rm := ({ frames := 0, cells := 0, slots := 0, locals := 0 } : Room)) (W := 0) (own_coder l Z a0 hw [] a1 w1 h0 O0 S1 hw1 H1.2.1) hZ (hw _ (List.mem_of_getElem? (i := 71) rfl)) (hw _ (List.mem_of_getElem? (i := 7) rfl)) (by decide) (by decide)) q5a q5c (g := (mkF m 70 #[.val (.ref a1), .val (.int (1 : Int32)), .val (.int (0 : Int32)), .val (.ref a2), .val (.int (0 : Int32)), .val (.int (Int32.ofNat n)), .val (.ref t1), .val (.ref t2), .unset] [(.ref a1)])) rfl (by rw [hml]; rfl) (Steps.refl _) (argsL := []) (rest := []) (lenOf own_pd93 rfl) rfl (by show 2 * 0 + _ ≤ _; exact Nat.le_of_eq rfl) (hb hby own_d_jdk_42_m74_70) (fun _ _ => ⟨rfl, e4, (by decide : 0 + 0 + 0 + 0 ≤ _), (by decide : 0 + 0 + 0 + 0 ≤ _)⟩)
  dsimp only [Pt.U, Pt.locs, Pt.cells, Pt.slots] at X5 l5 y5 z5 st5 hQ5
  subst l5 y5 z5
  obtain ⟨rfl, N5q, eh5⟩ := hQ5
  have N5 := Fr.app N2 N5q
  refine own_tr st5 ?_
  show own_G _ _ _ _ (T5.setTop (mkF m 73 #[.val (.ref a1), .val (.int (1 : Int32)), .val (.int (0 : Int32)), .val (.ref a2), .val (.int (0 : Int32)), .val (.int (Int32.ofNat n)), .val (.ref t1), .val (.ref t2), .unset] [(.int (0 : Int32))]))
  refine own_st (fun _ k => XS.istore X5.here hx rfl (hb hby own_d_jdk_42_m74_73) rfl (l' := #[.val (.ref a1), .val (.int (1 : Int32)), .val (.int (0 : Int32)), .val (.ref a2), .val (.int (0 : Int32)), .val (.int (Int32.ofNat n)), .val (.ref t1), .val (.ref t2), .val (.int (0 : Int32))]) rfl k) ?_
  show own_G _ _ _ _ (T5.setTop (mkF m 75 #[.val (.ref a1), .val (.int (1 : Int32)), .val (.int (0 : Int32)), .val (.ref a2), .val (.int (0 : Int32)), .val (.int (Int32.ofNat n)), .val (.ref t1), .val (.ref t2), .val (.int (0 : Int32))] []))
  refine own_st (fun _ k => XS.iload X5.here hx rfl (hb hby own_d_jdk_42_m74_75) rfl k) ?_
  show own_G _ _ _ _ (T5.setTop (mkF m 77 #[.val (.ref a1), .val (.int (1 : Int32)), .val (.int (0 : Int32)), .val (.ref a2), .val (.int (0 : Int32)), .val (.int (Int32.ofNat n)), .val (.ref t1), .val (.ref t2), .val (.int (0 : Int32))] [(.int (0 : Int32))]))
  refine own_st (fun _ k => XS.aloadN X5.here hx rfl (hb hby own_d_jdk_42_m74_77) rfl rfl k) ?_
  show own_G _ _ _ _ (T5.setTop (mkF m 78 #[.val (.ref a1), .val (.int (1 : Int32)), .val (.int (0 : Int32)), .val (.ref a2), .val (.int (0 : Int32)), .val (.int (Int32.ofNat n)), .val (.ref t1), .val (.ref t2), .val (.int (0 : Int32))] [(.ref a2), (.int (0 : Int32))]))
  obtain ⟨cq6, kq6, q6a, q6b, q6c⟩ := isOf hZ eh5 H2.1
  obtain ⟨_, _, ⟨T6, L6, k6, n6⟩, -, X6, ⟨Lc6, hQ6, l6, y6, z6⟩, st6⟩ := X5.virtualBack hx (y := (⟨"java/lang/String", "coder", "()B"⟩ : MethodName)) (z := (⟨"java/lang/String", "coder", "()B"⟩ : MethodName)) hown (mvT hZ (hw _ (List.mem_of_getElem? (i := 67) rfl))) (mvT hZ (hw _ (List.mem_of_getElem? (i := 68) rfl))) (notFace_of_selects (args := #[]) (mvT hZ (hw _ (List.mem_of_getElem? (i := 70) rfl)))) (mvT hZ (hw _ (List.mem_of_getElem? (i := 70) rfl))) (mvT hZ (hw _ (List.mem_of_getElem? (i := 69) rfl))) (by decide) (own_back (rm := ({ frames := 0, cells := 0, slots := 0, locals := 0 } : Room)) (W := 1) (own_coder l Z a0 hw [] a2 w1 h0 O0 S1 hw1 H2.2.1) hZ (hw _ (List.mem_of_getElem? (i := 71) rfl)) (hw _ (List.mem_of_getElem? (i := 7) rfl)) (by decide) (by decide)) q6a q6c (g := (mkF m 78 #[.val (.ref a1), .val (.int (1 : Int32)), .val (.int (0 : Int32)), .val (.ref a2), .val (.int (0 : Int32)), .val (.int (Int32.ofNat n)), .val (.ref t1), .val (.ref t2), .val (.int (0 : Int32))] [(.ref a2), (.int (0 : Int32))])) rfl (by rw [hml]; rfl) (Steps.refl _) (argsL := []) (rest := [(.int (0 : Int32))]) (lenOf own_pd93 rfl) rfl (by show 2 * 0 + _ ≤ _; exact Nat.le_of_eq rfl) (hb hby own_d_jdk_42_m74_78) (fun _ _ => ⟨rfl, eh5, (by decide : 0 + 0 + 0 + 0 + 0 ≤ _), (by decide : 0 + 0 + 0 + 0 + 0 ≤ _)⟩)
  dsimp only [Pt.U, Pt.locs, Pt.cells, Pt.slots] at X6 l6 y6 z6 st6 hQ6
  subst l6 y6 z6
  obtain ⟨rfl, N6q, eh6⟩ := hQ6
  have N6 := Fr.app N5 N6q
  refine own_tr st6 ?_
  show own_G _ _ _ _ (T6.setTop (mkF m 81 #[.val (.ref a1), .val (.int (1 : Int32)), .val (.int (0 : Int32)), .val (.ref a2), .val (.int (0 : Int32)), .val (.int (Int32.ofNat n)), .val (.ref t1), .val (.ref t2), .val (.int (0 : Int32))] [(.int (0 : Int32)), (.int (0 : Int32))]))
  refine own_st (fun _ k => XS.icmpNo X6.here hx rfl (hb hby own_d_jdk_42_m74_81) rfl (teq rfl).2 k) ?_
  show own_G _ _ _ _ (T6.setTop (mkF m 84 #[.val (.ref a1), .val (.int (1 : Int32)), .val (.int (0 : Int32)), .val (.ref a2), .val (.int (0 : Int32)), .val (.int (Int32.ofNat n)), .val (.ref t1), .val (.ref t2), .val (.int (0 : Int32))] []))
  refine own_st (fun _ k => XS.iload X6.here hx rfl (hb hby own_d_jdk_42_m74_84) rfl k) ?_
  show own_G _ _ _ _ (T6.setTop (mkF m 86 #[.val (.ref a1), .val (.int (1 : Int32)), .val (.int (0 : Int32)), .val (.ref a2), .val (.int (0 : Int32)), .val (.int (Int32.ofNat n)), .val (.ref t1), .val (.ref t2), .val (.int (0 : Int32))] [(.int (0 : Int32))]))
  refine own_st (fun _ k => XS.ifNo X6.here hx rfl (hb hby own_d_jdk_42_m74_86) rfl ((if0 _ _).trans (teq rfl).2) k) ?_
  show own_G _ _ _ _ (T6.setTop (mkF m 89 #[.val (.ref a1), .val (.int (1 : Int32)), .val (.int (0 : Int32)), .val (.ref a2), .val (.int (0 : Int32)), .val (.int (Int32.ofNat n)), .val (.ref t1), .val (.ref t2), .val (.int (0 : Int32))] []))
  refine own_st (fun _ k => XS.aload X6.here hx rfl (hb hby own_d_jdk_42_m74_89) rfl rfl k) ?_
  show own_G _ _ _ _ (T6.setTop (mkF m 91 #[.val (.ref a1), .val (.int (1 : Int32)), .val (.int (0 : Int32)), .val (.ref a2), .val (.int (0 : Int32)), .val (.int (Int32.ofNat n)), .val (.ref t1), .val (.ref t2), .val (.int (0 : Int32))] [(.ref t1)]))
  refine own_st (fun _ k => XS.iloadN X6.here hx rfl (hb hby own_d_jdk_42_m74_91) rfl k) ?_
  show own_G _ _ _ _ (T6.setTop (mkF m 92 #[.val (.ref a1), .val (.int (1 : Int32)), .val (.int (0 : Int32)), .val (.ref a2), .val (.int (0 : Int32)), .val (.int (Int32.ofNat n)), .val (.ref t1), .val (.ref t2), .val (.int (0 : Int32))] [(.int (0 : Int32)), (.ref t1)]))
  refine own_st (fun _ k => XS.aload X6.here hx rfl (hb hby own_d_jdk_42_m74_92) rfl rfl k) ?_
  show own_G _ _ _ _ (T6.setTop (mkF m 94 #[.val (.ref a1), .val (.int (1 : Int32)), .val (.int (0 : Int32)), .val (.ref a2), .val (.int (0 : Int32)), .val (.int (Int32.ofNat n)), .val (.ref t1), .val (.ref t2), .val (.int (0 : Int32))] [(.ref t2), (.int (0 : Int32)), (.ref t1)]))
  refine own_st (fun _ k => XS.iload X6.here hx rfl (hb hby own_d_jdk_42_m74_94) rfl k) ?_
  show own_G _ _ _ _ (T6.setTop (mkF m 96 #[.val (.ref a1), .val (.int (1 : Int32)), .val (.int (0 : Int32)), .val (.ref a2), .val (.int (0 : Int32)), .val (.int (Int32.ofNat n)), .val (.ref t1), .val (.ref t2), .val (.int (0 : Int32))] [(.int (0 : Int32)), (.ref t2), (.int (0 : Int32)), (.ref t1)]))
  refine own_st (fun _ k => XS.iload X6.here hx rfl (hb hby own_d_jdk_42_m74_96) rfl k) ?_
  show own_G _ _ _ _ (T6.setTop (mkF m 98 #[.val (.ref a1), .val (.int (1 : Int32)), .val (.int (0 : Int32)), .val (.ref a2), .val (.int (0 : Int32)), .val (.int (Int32.ofNat n)), .val (.ref t1), .val (.ref t2), .val (.int (0 : Int32))] [(.int (Int32.ofNat n)), (.int (0 : Int32)), (.ref t2), (.int (0 : Int32)), (.ref t1)]))
  obtain ⟨_, _, ⟨T7, L7, k7, n7⟩, -, X7, ⟨Lc7, hQ7, l7, y7, z7⟩, st7⟩ := Jvm.LawKit.callS X6 hx (y := (⟨"java/lang/StringLatin1", "regionMatchesCI", "([BI[BII)Z"⟩ : MethodName)) hown (mvT hZ (hw _ (List.mem_of_getElem? (i := 77) rfl))) (mvT hZ (hw _ (List.mem_of_getElem? (i := 78) rfl))) (mvT hZ (hw _ (List.mem_of_getElem? (i := 79) rfl))) (mvT hZ (hw _ (List.mem_of_getElem? (i := 80) rfl))) (by decide) (own_back (rm := ({ frames := 1, cells := 0, slots := 0, locals := 14 } : Room)) (W := 0) (own_rmci l Z a0 hw [] t1 t2 k1 k2 n g b h0 O0 hn H1.2.2.2 H2.2.2.2 he) hZ (hw _ (List.mem_of_getElem? (i := 80) rfl)) (hw _ (List.mem_of_getElem? (i := 79) rfl)) (by decide) (by decide)) (g := (mkF m 98 #[.val (.ref a1), .val (.int (1 : Int32)), .val (.int (0 : Int32)), .val (.ref a2), .val (.int (0 : Int32)), .val (.int (Int32.ofNat n)), .val (.ref t1), .val (.ref t2), .val (.int (0 : Int32))] [(.int (Int32.ofNat n)), (.int (0 : Int32)), (.ref t2), (.int (0 : Int32)), (.ref t1)])) rfl (by rw [hml]; rfl) (argsL := [(.ref t1), (.int (0 : Int32)), (.ref t2), (.int (0 : Int32)), (.int (Int32.ofNat n))]) (rest := []) (lenOf own_pd225 rfl) rfl (by show 2 * 0 + _ ≤ _; exact Nat.le_of_eq rfl) (hb hby own_d_jdk_42_m74_98) (fun _ _ => ⟨rfl, eh6, (by decide : 0 + 0 + 0 + 0 + 0 + 0 ≤ _), (by decide : 0 + 0 + 0 + 0 + 0 + 0 ≤ _)⟩)
  dsimp only [Pt.U, Pt.locs, Pt.cells, Pt.slots] at X7 l7 y7 z7 st7 hQ7
  subst l7 y7 z7
  obtain ⟨rfl, N7q, eh7⟩ := hQ7
  have N7 := Fr.app N6 N7q
  refine own_st st7 ?_
  show own_G _ _ _ _ (T7.setTop (mkF m 101 #[.val (.ref a1), .val (.int (1 : Int32)), .val (.int (0 : Int32)), .val (.ref a2), .val (.int (0 : Int32)), .val (.int (Int32.ofNat n)), .val (.ref t1), .val (.ref t2), .val (.int (0 : Int32))] [(.int (1 : Int32))]))
  refine own_st (fun _ k => XS.goto X7.here hx rfl (pc0 := 101) (pc' := 116) rfl (hb hby own_d_jdk_42_m74_101) (by decide) (by decide) k) ?_
  show own_G _ _ _ _ (T7.setTop (mkF m 116 #[.val (.ref a1), .val (.int (1 : Int32)), .val (.int (0 : Int32)), .val (.ref a2), .val (.int (0 : Int32)), .val (.int (Int32.ofNat n)), .val (.ref t1), .val (.ref t2), .val (.int (0 : Int32))] [(.int (1 : Int32))]))
  exact own_retN X7 hx hret hlk (by simp) (hb hby own_d_jdk_42_m74_116) (by rw [eh7]; exact ⟨rfl, N7, rfl⟩) (by decide) (by decide)
theorem own_d_jdk_42_m70_0 : decode jdk_42_method_70_code 0 = .ok (.aload_n 0, 1) := by decide +kernel
theorem own_d_jdk_42_m70_1 : decode jdk_42_method_70_code 1 = .ok (.aload_n 1, 1) := by decide +kernel
theorem own_d_jdk_42_m70_2 : decode jdk_42_method_70_code 2 = .ok (.if_acmp .ne 7, 3) := by decide +kernel
theorem own_d_jdk_42_m70_9 : decode jdk_42_method_70_code 9 = .ok (.aload_n 1, 1) := by decide +kernel
theorem own_d_jdk_42_m70_10 : decode jdk_42_method_70_code 10 = .ok (.ifnull 33, 3) := by decide +kernel
theorem own_d_jdk_42_m70_13 : decode jdk_42_method_70_code 13 = .ok (.aload_n 1, 1) := by decide +kernel
theorem own_d_jdk_42_m70_14 : decode jdk_42_method_70_code 14 = .ok (.invokevirtual 505, 3) := by decide +kernel
theorem own_d_jdk_42_m70_17 : decode jdk_42_method_70_code 17 = .ok (.aload_n 0, 1) := by decide +kernel
theorem own_d_jdk_42_m70_18 : decode jdk_42_method_70_code 18 = .ok (.invokevirtual 505, 3) := by decide +kernel
theorem own_d_jdk_42_m70_21 : decode jdk_42_method_70_code 21 = .ok (.if_icmp .ne 22, 3) := by decide +kernel
theorem own_d_jdk_42_m70_24 : decode jdk_42_method_70_code 24 = .ok (.aload_n 0, 1) := by decide +kernel
theorem own_d_jdk_42_m70_25 : decode jdk_42_method_70_code 25 = .ok (.iconst 1, 1) := by decide +kernel
theorem own_d_jdk_42_m70_26 : decode jdk_42_method_70_code 26 = .ok (.iconst 0, 1) := by decide +kernel
theorem own_d_jdk_42_m70_27 : decode jdk_42_method_70_code 27 = .ok (.aload_n 1, 1) := by decide +kernel
theorem own_d_jdk_42_m70_28 : decode jdk_42_method_70_code 28 = .ok (.iconst 0, 1) := by decide +kernel
theorem own_d_jdk_42_m70_29 : decode jdk_42_method_70_code 29 = .ok (.aload_n 0, 1) := by decide +kernel
theorem own_d_jdk_42_m70_30 : decode jdk_42_method_70_code 30 = .ok (.invokevirtual 505, 3) := by decide +kernel
theorem own_d_jdk_42_m70_33 : decode jdk_42_method_70_code 33 = .ok (.invokevirtual 582, 3) := by decide +kernel
theorem own_pd246 : parseMethodDescriptor "(ZILjava/lang/String;II)Z" = some ⟨[.boolean, .int, (.object "java/lang/String"), .int, .int], some .boolean⟩ := by decide +kernel
theorem own_d_jdk_42_m70_36 : decode jdk_42_method_70_code 36 = .ok (.ifCond .eq 7, 3) := by decide +kernel
theorem own_d_jdk_42_m70_39 : decode jdk_42_method_70_code 39 = .ok (.iconst 1, 1) := by decide +kernel
theorem own_d_jdk_42_m70_40 : decode jdk_42_method_70_code 40 = .ok (.goto 4, 3) := by decide +kernel
theorem own_d_jdk_42_m70_44 : decode jdk_42_method_70_code 44 = .ok (.ireturn, 1) := by decide +kernel
set_option maxRecDepth 65536 in
set_option maxHeartbeats 40000000 in
theorem own_eicY (l : Launch) (Z : State) (a0 : Array Value) (hw : ∀ d ∈ tables_1, d.before a0 Z = true) (ws : List Jvm.Cond) (a1 : Addr) (a2 : Addr) (t1 t2 : Addr) (k1 k2 : ClassId) (n : Nat) (g b : Nat → Int32) (w1 : Int32) (h0 : Heap) (O0 : Old Z Z.heap.size h0) (hne : a1 ≠ a2) (hn : n ≤ 10) (S1 : Sta Z Z.heap "java/lang/String" "COMPACT_STRINGS" "Z" (.int w1)) (hw1 : ¬ (w1 = (0 : Int32))) (H1 : own_StrL Z h0 a1 t1 k1 g n) (H2 : own_StrL Z h0 a2 t2 k2 b n) (he : ∀ j, j < n → own_eic (g j) (b j)) :
    own_Met l Z (⟨"java/lang/String", "equalsIgnoreCase", "(Ljava/lang/String;)Z"⟩ : MethodName) jdk_42_method_70_code 2 (some .boolean) ws ({ frames := 3, cells := 0, slots := 0, locals := 60 } : Room) #[(.ref a1), (.ref a2)] h0 (fun v h L => v = some (.int 1) ∧ Fr Z.heap.size L ∧ h = h0) (({ frames := 3, cells := 0, slots := 0, locals := 60 } : Room)).cells (({ frames := 3, cells := 0, slots := 0, locals := 60 } : Room)).slots := by
  refine own_body (ef := fun m => mkF m 0 #[.val (.ref a1), .val (.ref a2)] []) (plainFor_of_name own_pn50) (fun m => by first | rfl | (simp [entryFrame, mkF, argsToLocals, Value.category]; done)) ?_
  intro p e s m below meth c T0 hx hZ hby hml hown hnm hret hlk X0 e0
  have N0 := Fr.nil Z.heap.size
  have z0 : Z.heap.size ≤ h0.size := O0.2.1
  have Kr := Keep.refl h0 []
  show own_G _ _ _ _ (T0.setTop (mkF m 0 #[.val (.ref a1), .val (.ref a2)] []))
  refine own_st (fun _ k => XS.aloadN X0.here hx rfl (hb hby own_d_jdk_42_m70_0) rfl rfl k) ?_
  show own_G _ _ _ _ (T0.setTop (mkF m 1 #[.val (.ref a1), .val (.ref a2)] [(.ref a1)]))
  refine own_st (fun _ k => XS.aloadN X0.here hx rfl (hb hby own_d_jdk_42_m70_1) rfl rfl k) ?_
  show own_G _ _ _ _ (T0.setTop (mkF m 2 #[.val (.ref a1), .val (.ref a2)] [(.ref a2), (.ref a1)]))
  refine own_st (fun _ k => Jvm.RoadKit.acmp (g := (mkF m 2 #[.val (.ref a1), .val (.ref a2)] [(.ref a2), (.ref a1)])) X0 hx rfl rfl rfl (pc0 := 2) (pc' := 9) (same := false) rfl (hb hby own_d_jdk_42_m70_2) rfl (decide_eq_false fun q => hne (Value.ref.inj q)) (by decide) (by decide) k) ?_
  show own_G _ _ _ _ (T0.setTop (mkF m 9 #[.val (.ref a1), .val (.ref a2)] []))
  refine own_st (fun _ k => XS.aloadN X0.here hx rfl (hb hby own_d_jdk_42_m70_9) rfl rfl k) ?_
  show own_G _ _ _ _ (T0.setTop (mkF m 10 #[.val (.ref a1), .val (.ref a2)] [(.ref a2)]))
  refine own_st (fun _ k => XS.ifnullNo X0.here hx rfl (hb hby own_d_jdk_42_m70_10) rfl k) ?_
  show own_G _ _ _ _ (T0.setTop (mkF m 13 #[.val (.ref a1), .val (.ref a2)] []))
  refine own_st (fun _ k => XS.aloadN X0.here hx rfl (hb hby own_d_jdk_42_m70_13) rfl rfl k) ?_
  show own_G _ _ _ _ (T0.setTop (mkF m 14 #[.val (.ref a1), .val (.ref a2)] [(.ref a2)]))
  obtain ⟨cq1, kq1, q1a, q1b, q1c⟩ := isOf hZ e0 H2.1
  obtain ⟨_, _, ⟨T1, L1, k1, n1⟩, -, X1, ⟨Lc1, hQ1, l1, y1, z1⟩, st1⟩ := X0.virtualBack hx (y := (⟨"java/lang/String", "length", "()I"⟩ : MethodName)) (z := (⟨"java/lang/String", "length", "()I"⟩ : MethodName)) hown (mvT hZ (hw _ (List.mem_of_getElem? (i := 62) rfl))) (mvT hZ (hw _ (List.mem_of_getElem? (i := 63) rfl))) (notFace_of_selects (args := #[]) (mvT hZ (hw _ (List.mem_of_getElem? (i := 65) rfl)))) (mvT hZ (hw _ (List.mem_of_getElem? (i := 65) rfl))) (mvT hZ (hw _ (List.mem_of_getElem? (i := 64) rfl))) (by decide) (own_back (rm := ({ frames := 1, cells := 0, slots := 0, locals := 13 } : Room)) (W := 0) (own_length l Z a0 hw [] a2 t2 k2 n b w1 h0 O0 hn S1 hw1 H2) hZ (hw _ (List.mem_of_getElem? (i := 66) rfl)) (hw _ (List.mem_of_getElem? (i := 7) rfl)) (by decide) (by decide)) q1a q1c (g := (mkF m 14 #[.val (.ref a1), .val (.ref a2)] [(.ref a2)])) rfl (by rw [hml]; rfl) (Steps.refl _) (argsL := []) (rest := []) (lenOf own_pd187 rfl) rfl (by show 2 * 0 + _ ≤ _; exact Nat.le_of_eq rfl) (hb hby own_d_jdk_42_m70_14) (fun _ _ => ⟨rfl, e0, (by decide : 0 + 0 ≤ _), (by decide : 0 + 0 ≤ _)⟩)
  dsimp only [Pt.U, Pt.locs, Pt.cells, Pt.slots] at X1 l1 y1 z1 st1 hQ1
  subst l1 y1 z1
  obtain ⟨rfl, N1q, eh1⟩ := hQ1
  have N1 := Fr.app N0 N1q
  refine own_tr st1 ?_
  show own_G _ _ _ _ (T1.setTop (mkF m 17 #[.val (.ref a1), .val (.ref a2)] [(.int (Int32.ofNat n))]))
  refine own_st (fun _ k => XS.aloadN X1.here hx rfl (hb hby own_d_jdk_42_m70_17) rfl rfl k) ?_
  show own_G _ _ _ _ (T1.setTop (mkF m 18 #[.val (.ref a1), .val (.ref a2)] [(.ref a1), (.int (Int32.ofNat n))]))
  obtain ⟨cq2, kq2, q2a, q2b, q2c⟩ := isOf hZ eh1 H1.1
  obtain ⟨_, _, ⟨T2, L2, k2, n2⟩, -, X2, ⟨Lc2, hQ2, l2, y2, z2⟩, st2⟩ := X1.virtualBack hx (y := (⟨"java/lang/String", "length", "()I"⟩ : MethodName)) (z := (⟨"java/lang/String", "length", "()I"⟩ : MethodName)) hown (mvT hZ (hw _ (List.mem_of_getElem? (i := 62) rfl))) (mvT hZ (hw _ (List.mem_of_getElem? (i := 63) rfl))) (notFace_of_selects (args := #[]) (mvT hZ (hw _ (List.mem_of_getElem? (i := 65) rfl)))) (mvT hZ (hw _ (List.mem_of_getElem? (i := 65) rfl))) (mvT hZ (hw _ (List.mem_of_getElem? (i := 64) rfl))) (by decide) (own_back (rm := ({ frames := 1, cells := 0, slots := 0, locals := 13 } : Room)) (W := 1) (own_length l Z a0 hw [] a1 t1 k1 n g w1 h0 O0 hn S1 hw1 H1) hZ (hw _ (List.mem_of_getElem? (i := 66) rfl)) (hw _ (List.mem_of_getElem? (i := 7) rfl)) (by decide) (by decide)) q2a q2c (g := (mkF m 18 #[.val (.ref a1), .val (.ref a2)] [(.ref a1), (.int (Int32.ofNat n))])) rfl (by rw [hml]; rfl) (Steps.refl _) (argsL := []) (rest := [(.int (Int32.ofNat n))]) (lenOf own_pd187 rfl) rfl (by show 2 * 0 + _ ≤ _; exact Nat.le_of_eq rfl) (hb hby own_d_jdk_42_m70_18) (fun _ _ => ⟨rfl, eh1, (by decide : 0 + 0 + 0 ≤ _), (by decide : 0 + 0 + 0 ≤ _)⟩)
  dsimp only [Pt.U, Pt.locs, Pt.cells, Pt.slots] at X2 l2 y2 z2 st2 hQ2
  subst l2 y2 z2
  obtain ⟨rfl, N2q, eh2⟩ := hQ2
  have N2 := Fr.app N1 N2q
  refine own_tr st2 ?_
  show own_G _ _ _ _ (T2.setTop (mkF m 21 #[.val (.ref a1), .val (.ref a2)] [(.int (Int32.ofNat n)), (.int (Int32.ofNat n))]))
  refine own_st (fun _ k => XS.icmpNo X2.here hx rfl (hb hby own_d_jdk_42_m70_21) rfl (teq rfl).2 k) ?_
  show own_G _ _ _ _ (T2.setTop (mkF m 24 #[.val (.ref a1), .val (.ref a2)] []))
  refine own_st (fun _ k => XS.aloadN X2.here hx rfl (hb hby own_d_jdk_42_m70_24) rfl rfl k) ?_
  show own_G _ _ _ _ (T2.setTop (mkF m 25 #[.val (.ref a1), .val (.ref a2)] [(.ref a1)]))
  refine own_st (fun _ k => XS.iconst X2.here hx rfl (hb hby own_d_jdk_42_m70_25) k) ?_
  show own_G _ _ _ _ (T2.setTop (mkF m 26 #[.val (.ref a1), .val (.ref a2)] [(.int (1 : Int32)), (.ref a1)]))
  refine own_st (fun _ k => XS.iconst X2.here hx rfl (hb hby own_d_jdk_42_m70_26) k) ?_
  show own_G _ _ _ _ (T2.setTop (mkF m 27 #[.val (.ref a1), .val (.ref a2)] [(.int (0 : Int32)), (.int (1 : Int32)), (.ref a1)]))
  refine own_st (fun _ k => XS.aloadN X2.here hx rfl (hb hby own_d_jdk_42_m70_27) rfl rfl k) ?_
  show own_G _ _ _ _ (T2.setTop (mkF m 28 #[.val (.ref a1), .val (.ref a2)] [(.ref a2), (.int (0 : Int32)), (.int (1 : Int32)), (.ref a1)]))
  refine own_st (fun _ k => XS.iconst X2.here hx rfl (hb hby own_d_jdk_42_m70_28) k) ?_
  show own_G _ _ _ _ (T2.setTop (mkF m 29 #[.val (.ref a1), .val (.ref a2)] [(.int (0 : Int32)), (.ref a2), (.int (0 : Int32)), (.int (1 : Int32)), (.ref a1)]))
  refine own_st (fun _ k => XS.aloadN X2.here hx rfl (hb hby own_d_jdk_42_m70_29) rfl rfl k) ?_
  show own_G _ _ _ _ (T2.setTop (mkF m 30 #[.val (.ref a1), .val (.ref a2)] [(.ref a1), (.int (0 : Int32)), (.ref a2), (.int (0 : Int32)), (.int (1 : Int32)), (.ref a1)]))
  obtain ⟨cq3, kq3, q3a, q3b, q3c⟩ := isOf hZ eh2 H1.1
  obtain ⟨_, _, ⟨T3, L3, k3, n3⟩, -, X3, ⟨Lc3, hQ3, l3, y3, z3⟩, st3⟩ := X2.virtualBack hx (y := (⟨"java/lang/String", "length", "()I"⟩ : MethodName)) (z := (⟨"java/lang/String", "length", "()I"⟩ : MethodName)) hown (mvT hZ (hw _ (List.mem_of_getElem? (i := 62) rfl))) (mvT hZ (hw _ (List.mem_of_getElem? (i := 63) rfl))) (notFace_of_selects (args := #[]) (mvT hZ (hw _ (List.mem_of_getElem? (i := 65) rfl)))) (mvT hZ (hw _ (List.mem_of_getElem? (i := 65) rfl))) (mvT hZ (hw _ (List.mem_of_getElem? (i := 64) rfl))) (by decide) (own_back (rm := ({ frames := 1, cells := 0, slots := 0, locals := 13 } : Room)) (W := 5) (own_length l Z a0 hw [] a1 t1 k1 n g w1 h0 O0 hn S1 hw1 H1) hZ (hw _ (List.mem_of_getElem? (i := 66) rfl)) (hw _ (List.mem_of_getElem? (i := 7) rfl)) (by decide) (by decide)) q3a q3c (g := (mkF m 30 #[.val (.ref a1), .val (.ref a2)] [(.ref a1), (.int (0 : Int32)), (.ref a2), (.int (0 : Int32)), (.int (1 : Int32)), (.ref a1)])) rfl (by rw [hml]; rfl) (Steps.refl _) (argsL := []) (rest := [(.int (0 : Int32)), (.ref a2), (.int (0 : Int32)), (.int (1 : Int32)), (.ref a1)]) (lenOf own_pd187 rfl) rfl (by show 2 * 0 + _ ≤ _; exact Nat.le_of_eq rfl) (hb hby own_d_jdk_42_m70_30) (fun _ _ => ⟨rfl, eh2, (by decide : 0 + 0 + 0 + 0 ≤ _), (by decide : 0 + 0 + 0 + 0 ≤ _)⟩)
  dsimp only [Pt.U, Pt.locs, Pt.cells, Pt.slots] at X3 l3 y3 z3 st3 hQ3
  subst l3 y3 z3
  obtain ⟨rfl, N3q, eh3⟩ := hQ3
  have N3 := Fr.app N2 N3q
  refine own_tr st3 ?_
  show own_G _ _ _ _ (T3.setTop (mkF m 33 #[.val (.ref a1), .val (.ref a2)] [(.int (Int32.ofNat n)), (.int (0 : Int32)), (.ref a2), (.int (0 : Int32)), (.int (1 : Int32)), (.ref a1)]))
  obtain ⟨cq4, kq4, q4a, q4b, q4c⟩ := isOf hZ eh3 H1.1
  obtain ⟨_, _, ⟨T4, L4, k4, n4⟩, -, X4, ⟨Lc4, hQ4, l4, y4, z4⟩, st4⟩ := X3.virtualBack hx (y := (⟨"java/lang/String", "regionMatches", "(ZILjava/lang/String;II)Z"⟩ : MethodName)) (z := (⟨"java/lang/String", "regionMatches", "(ZILjava/lang/String;II)Z"⟩ : MethodName)) hown (mvT hZ (hw _ (List.mem_of_getElem? (i := 72) rfl))) (mvT hZ (hw _ (List.mem_of_getElem? (i := 73) rfl))) (notFace_of_selects (args := #[]) (mvT hZ (hw _ (List.mem_of_getElem? (i := 75) rfl)))) (mvT hZ (hw _ (List.mem_of_getElem? (i := 75) rfl))) (mvT hZ (hw _ (List.mem_of_getElem? (i := 74) rfl))) (by decide) (own_back (rm := ({ frames := 2, cells := 0, slots := 0, locals := 34 } : Room)) (W := 0) (own_rmz l Z a0 hw [] a1 a2 t1 t2 k1 k2 n g b w1 h0 O0 hn S1 hw1 H1 H2 he) hZ (hw _ (List.mem_of_getElem? (i := 76) rfl)) (hw _ (List.mem_of_getElem? (i := 7) rfl)) (by decide) (by decide)) q4a q4c (g := (mkF m 33 #[.val (.ref a1), .val (.ref a2)] [(.int (Int32.ofNat n)), (.int (0 : Int32)), (.ref a2), (.int (0 : Int32)), (.int (1 : Int32)), (.ref a1)])) rfl (by rw [hml]; rfl) (Steps.refl _) (argsL := [(.int (1 : Int32)), (.int (0 : Int32)), (.ref a2), (.int (0 : Int32)), (.int (Int32.ofNat n))]) (rest := []) (lenOf own_pd246 rfl) rfl (by show 2 * 0 + _ ≤ _; exact Nat.le_of_eq rfl) (hb hby own_d_jdk_42_m70_33) (fun _ _ => ⟨rfl, eh3, (by decide : 0 + 0 + 0 + 0 + 0 ≤ _), (by decide : 0 + 0 + 0 + 0 + 0 ≤ _)⟩)
  dsimp only [Pt.U, Pt.locs, Pt.cells, Pt.slots] at X4 l4 y4 z4 st4 hQ4
  subst l4 y4 z4
  obtain ⟨rfl, N4q, eh4⟩ := hQ4
  have N4 := Fr.app N3 N4q
  refine own_tr st4 ?_
  show own_G _ _ _ _ (T4.setTop (mkF m 36 #[.val (.ref a1), .val (.ref a2)] [(.int (1 : Int32))]))
  refine own_st (fun _ k => XS.ifNo X4.here hx rfl (hb hby own_d_jdk_42_m70_36) rfl ((if0 _ _).trans (feq (by decide)).1) k) ?_
  show own_G _ _ _ _ (T4.setTop (mkF m 39 #[.val (.ref a1), .val (.ref a2)] []))
  refine own_st (fun _ k => XS.iconst X4.here hx rfl (hb hby own_d_jdk_42_m70_39) k) ?_
  show own_G _ _ _ _ (T4.setTop (mkF m 40 #[.val (.ref a1), .val (.ref a2)] [(.int (1 : Int32))]))
  refine own_st (fun _ k => XS.goto X4.here hx rfl (pc0 := 40) (pc' := 44) rfl (hb hby own_d_jdk_42_m70_40) (by decide) (by decide) k) ?_
  show own_G _ _ _ _ (T4.setTop (mkF m 44 #[.val (.ref a1), .val (.ref a2)] [(.int (1 : Int32))]))
  exact own_retN X4 hx hret hlk (by simp) (hb hby own_d_jdk_42_m70_44) (by rw [eh4]; exact ⟨rfl, N4, rfl⟩) (by decide) (by decide)
theorem own_d_jdk_42_m70_43 : decode jdk_42_method_70_code 43 = .ok (.iconst 0, 1) := by decide +kernel
set_option maxRecDepth 65536 in
set_option maxHeartbeats 40000000 in
theorem own_eicN (l : Launch) (Z : State) (a0 : Array Value) (hw : ∀ d ∈ tables_1, d.before a0 Z = true) (ws : List Jvm.Cond) (a1 : Addr) (a2 : Addr) (t1 t2 : Addr) (k1 k2 : ClassId) (n n2 : Nat) (g b : Nat → Int32) (w1 : Int32) (h0 : Heap) (O0 : Old Z Z.heap.size h0) (hne : a1 ≠ a2) (hn : n ≤ 10) (S1 : Sta Z Z.heap "java/lang/String" "COMPACT_STRINGS" "Z" (.int w1)) (hw1 : ¬ (w1 = (0 : Int32))) (hn2 : n2 ≤ 10) (hdif : n2 ≠ n) (H1 : own_StrL Z h0 a1 t1 k1 g n) (H2 : own_StrL Z h0 a2 t2 k2 b n2) :
    own_Met l Z (⟨"java/lang/String", "equalsIgnoreCase", "(Ljava/lang/String;)Z"⟩ : MethodName) jdk_42_method_70_code 2 (some .boolean) ws ({ frames := 3, cells := 0, slots := 0, locals := 60 } : Room) #[(.ref a1), (.ref a2)] h0 (fun v h L => v = some (.int 0) ∧ Fr Z.heap.size L ∧ h = h0) (({ frames := 3, cells := 0, slots := 0, locals := 60 } : Room)).cells (({ frames := 3, cells := 0, slots := 0, locals := 60 } : Room)).slots := by
  refine own_body (ef := fun m => mkF m 0 #[.val (.ref a1), .val (.ref a2)] []) (plainFor_of_name own_pn50) (fun m => by first | rfl | (simp [entryFrame, mkF, argsToLocals, Value.category]; done)) ?_
  intro p e s m below meth c T0 hx hZ hby hml hown hnm hret hlk X0 e0
  have N0 := Fr.nil Z.heap.size
  have z0 : Z.heap.size ≤ h0.size := O0.2.1
  have Kr := Keep.refl h0 []
  show own_G _ _ _ _ (T0.setTop (mkF m 0 #[.val (.ref a1), .val (.ref a2)] []))
  refine own_st (fun _ k => XS.aloadN X0.here hx rfl (hb hby own_d_jdk_42_m70_0) rfl rfl k) ?_
  show own_G _ _ _ _ (T0.setTop (mkF m 1 #[.val (.ref a1), .val (.ref a2)] [(.ref a1)]))
  refine own_st (fun _ k => XS.aloadN X0.here hx rfl (hb hby own_d_jdk_42_m70_1) rfl rfl k) ?_
  show own_G _ _ _ _ (T0.setTop (mkF m 2 #[.val (.ref a1), .val (.ref a2)] [(.ref a2), (.ref a1)]))
  refine own_st (fun _ k => Jvm.RoadKit.acmp (g := (mkF m 2 #[.val (.ref a1), .val (.ref a2)] [(.ref a2), (.ref a1)])) X0 hx rfl rfl rfl (pc0 := 2) (pc' := 9) (same := false) rfl (hb hby own_d_jdk_42_m70_2) rfl (decide_eq_false fun q => hne (Value.ref.inj q)) (by decide) (by decide) k) ?_
  show own_G _ _ _ _ (T0.setTop (mkF m 9 #[.val (.ref a1), .val (.ref a2)] []))
  refine own_st (fun _ k => XS.aloadN X0.here hx rfl (hb hby own_d_jdk_42_m70_9) rfl rfl k) ?_
  show own_G _ _ _ _ (T0.setTop (mkF m 10 #[.val (.ref a1), .val (.ref a2)] [(.ref a2)]))
  refine own_st (fun _ k => XS.ifnullNo X0.here hx rfl (hb hby own_d_jdk_42_m70_10) rfl k) ?_
  show own_G _ _ _ _ (T0.setTop (mkF m 13 #[.val (.ref a1), .val (.ref a2)] []))
  refine own_st (fun _ k => XS.aloadN X0.here hx rfl (hb hby own_d_jdk_42_m70_13) rfl rfl k) ?_
  show own_G _ _ _ _ (T0.setTop (mkF m 14 #[.val (.ref a1), .val (.ref a2)] [(.ref a2)]))
  obtain ⟨cq1, kq1, q1a, q1b, q1c⟩ := isOf hZ e0 H2.1
  obtain ⟨_, _, ⟨T1, L1, k1, n1⟩, -, X1, ⟨Lc1, hQ1, l1, y1, z1⟩, st1⟩ := X0.virtualBack hx (y := (⟨"java/lang/String", "length", "()I"⟩ : MethodName)) (z := (⟨"java/lang/String", "length", "()I"⟩ : MethodName)) hown (mvT hZ (hw _ (List.mem_of_getElem? (i := 62) rfl))) (mvT hZ (hw _ (List.mem_of_getElem? (i := 63) rfl))) (notFace_of_selects (args := #[]) (mvT hZ (hw _ (List.mem_of_getElem? (i := 65) rfl)))) (mvT hZ (hw _ (List.mem_of_getElem? (i := 65) rfl))) (mvT hZ (hw _ (List.mem_of_getElem? (i := 64) rfl))) (by decide) (own_back (rm := ({ frames := 1, cells := 0, slots := 0, locals := 13 } : Room)) (W := 0) (own_length l Z a0 hw [] a2 t2 k2 n2 b w1 h0 O0 hn2 S1 hw1 H2) hZ (hw _ (List.mem_of_getElem? (i := 66) rfl)) (hw _ (List.mem_of_getElem? (i := 7) rfl)) (by decide) (by decide)) q1a q1c (g := (mkF m 14 #[.val (.ref a1), .val (.ref a2)] [(.ref a2)])) rfl (by rw [hml]; rfl) (Steps.refl _) (argsL := []) (rest := []) (lenOf own_pd187 rfl) rfl (by show 2 * 0 + _ ≤ _; exact Nat.le_of_eq rfl) (hb hby own_d_jdk_42_m70_14) (fun _ _ => ⟨rfl, e0, (by decide : 0 + 0 ≤ _), (by decide : 0 + 0 ≤ _)⟩)
  dsimp only [Pt.U, Pt.locs, Pt.cells, Pt.slots] at X1 l1 y1 z1 st1 hQ1
  subst l1 y1 z1
  obtain ⟨rfl, N1q, eh1⟩ := hQ1
  have N1 := Fr.app N0 N1q
  refine own_tr st1 ?_
  show own_G _ _ _ _ (T1.setTop (mkF m 17 #[.val (.ref a1), .val (.ref a2)] [(.int (Int32.ofNat n2))]))
  refine own_st (fun _ k => XS.aloadN X1.here hx rfl (hb hby own_d_jdk_42_m70_17) rfl rfl k) ?_
  show own_G _ _ _ _ (T1.setTop (mkF m 18 #[.val (.ref a1), .val (.ref a2)] [(.ref a1), (.int (Int32.ofNat n2))]))
  obtain ⟨cq2, kq2, q2a, q2b, q2c⟩ := isOf hZ eh1 H1.1
  obtain ⟨_, _, ⟨T2, L2, k2, n2⟩, -, X2, ⟨Lc2, hQ2, l2, y2, z2⟩, st2⟩ := X1.virtualBack hx (y := (⟨"java/lang/String", "length", "()I"⟩ : MethodName)) (z := (⟨"java/lang/String", "length", "()I"⟩ : MethodName)) hown (mvT hZ (hw _ (List.mem_of_getElem? (i := 62) rfl))) (mvT hZ (hw _ (List.mem_of_getElem? (i := 63) rfl))) (notFace_of_selects (args := #[]) (mvT hZ (hw _ (List.mem_of_getElem? (i := 65) rfl)))) (mvT hZ (hw _ (List.mem_of_getElem? (i := 65) rfl))) (mvT hZ (hw _ (List.mem_of_getElem? (i := 64) rfl))) (by decide) (own_back (rm := ({ frames := 1, cells := 0, slots := 0, locals := 13 } : Room)) (W := 1) (own_length l Z a0 hw [] a1 t1 k1 n g w1 h0 O0 hn S1 hw1 H1) hZ (hw _ (List.mem_of_getElem? (i := 66) rfl)) (hw _ (List.mem_of_getElem? (i := 7) rfl)) (by decide) (by decide)) q2a q2c (g := (mkF m 18 #[.val (.ref a1), .val (.ref a2)] [(.ref a1), (.int (Int32.ofNat n2))])) rfl (by rw [hml]; rfl) (Steps.refl _) (argsL := []) (rest := [(.int (Int32.ofNat n2))]) (lenOf own_pd187 rfl) rfl (by show 2 * 0 + _ ≤ _; exact Nat.le_of_eq rfl) (hb hby own_d_jdk_42_m70_18) (fun _ _ => ⟨rfl, eh1, (by decide : 0 + 0 + 0 ≤ _), (by decide : 0 + 0 + 0 ≤ _)⟩)
  dsimp only [Pt.U, Pt.locs, Pt.cells, Pt.slots] at X2 l2 y2 z2 st2 hQ2
  subst l2 y2 z2
  obtain ⟨rfl, N2q, eh2⟩ := hQ2
  have N2 := Fr.app N1 N2q
  refine own_tr st2 ?_
  show own_G _ _ _ _ (T2.setTop (mkF m 21 #[.val (.ref a1), .val (.ref a2)] [(.int (Int32.ofNat n)), (.int (Int32.ofNat n2))]))
  refine own_st (fun _ k => XS.icmpYes X2.here hx rfl (pc0 := 21) (pc' := 43) rfl (hb hby own_d_jdk_42_m70_21) rfl (feq (own_ofne hdif (by omega) (by omega))).2 (by decide) (by decide) k) ?_
  show own_G _ _ _ _ (T2.setTop (mkF m 43 #[.val (.ref a1), .val (.ref a2)] []))
  refine own_st (fun _ k => XS.iconst X2.here hx rfl (hb hby own_d_jdk_42_m70_43) k) ?_
  show own_G _ _ _ _ (T2.setTop (mkF m 44 #[.val (.ref a1), .val (.ref a2)] [(.int (0 : Int32))]))
  exact own_retN X2 hx hret hlk (by simp) (hb hby own_d_jdk_42_m70_44) (by rw [eh2]; exact ⟨rfl, N2, rfl⟩) (by decide) (by decide)
/-- what the sheet says of the enum -/
def own_D (Z : State) (va pg mb sp sm tp tm : Addr) (kv kp km : ClassId) (gp gm : Nat → Int32) : Prop :=
  Sta Z Z.heap "com/example/limpet/limpet/jdbc/Dialect" "$VALUES" "[Lcom/example/limpet/limpet/jdbc/Dialect;" (.ref va) ∧ Sta Z Z.heap "com/example/limpet/limpet/jdbc/Dialect" "POSTGRESQL" "Lcom/example/limpet/limpet/jdbc/Dialect;" (.ref pg) ∧ Sta Z Z.heap "com/example/limpet/limpet/jdbc/Dialect" "MARIADB" "Lcom/example/limpet/limpet/jdbc/Dialect;" (.ref mb) ∧ Exa Z Z.heap va "[Lcom/example/limpet/limpet/jdbc/Dialect;" ∧ Arv Z Z.heap va kv (.object "com/example/limpet/limpet/jdbc/Dialect") (2 : Int32) [.ref pg, .ref mb] .null ∧
  Fld Z Z.heap pg "com/example/limpet/limpet/jdbc/Dialect" "product" "Ljava/lang/String;" (.ref sp) ∧ Fld Z Z.heap mb "com/example/limpet/limpet/jdbc/Dialect" "product" "Ljava/lang/String;" (.ref sm) ∧ own_StrL Z Z.heap sp tp kp gp 10 ∧ own_StrL Z Z.heap sm tm km gm 7
theorem own_pn252 : plainName "com/example/limpet/limpet/jdbc/Dialect" = true := by first | (simp [plainName, overriddenIn]; done) | decide +kernel
theorem own_d_prog_8_m1_0 : decode prog_8_method_1_code 0 = .ok (.getstatic 10, 3) := by decide +kernel
theorem own_d_prog_8_m1_3 : decode prog_8_method_1_code 3 = .ok (.invokevirtual 14, 3) := by decide +kernel
theorem own_d_prog_8_m1_6 : decode prog_8_method_1_code 6 = .ok (.checkcast 15, 3) := by decide +kernel
theorem own_d_prog_8_m1_9 : decode prog_8_method_1_code 9 = .ok (.areturn, 1) := by decide +kernel
set_option maxRecDepth 65536 in
set_option maxHeartbeats 40000000 in
theorem own_values (l : Launch) (Z : State) (a0 : Array Value) (hw : ∀ d ∈ tables_1, d.before a0 Z = true) (ws : List Jvm.Cond)  (va pg mb sp sm tp tm : Addr) (kv kp km : ClassId) (gp gm : Nat → Int32) (h0 : Heap) (O0 : Old Z Z.heap.size h0) (HD : own_D Z va pg mb sp sm tp tm kv kp km gp gm) :
    own_Met l Z (⟨"com/example/limpet/limpet/jdbc/Dialect", "values", "()[Lcom/example/limpet/limpet/jdbc/Dialect;"⟩ : MethodName) prog_8_method_1_code 0 (some (.array (.object "com/example/limpet/limpet/jdbc/Dialect"))) ws ({ frames := 1, cells := 1, slots := 2, locals := 14 } : Room) #[] h0 (fun v h L => ∃ b, v = some (.ref b) ∧ Fr Z.heap.size L ∧ Keep h0 h [] ∧ Arv Z h b kv (.object "com/example/limpet/limpet/jdbc/Dialect") (2 : Int32) [.ref pg, .ref mb] .null) (({ frames := 1, cells := 1, slots := 2, locals := 14 } : Room)).cells (({ frames := 1, cells := 1, slots := 2, locals := 14 } : Room)).slots := by
  refine own_body (ef := fun m => mkF m 0 #[] []) (plainFor_of_name own_pn252) (fun m => by first | rfl | (simp [entryFrame, mkF, argsToLocals, Value.category]; done)) ?_
  intro p e s m below meth c T0 hx hZ hby hml hown hnm hret hlk X0 e0
  have N0 := Fr.nil Z.heap.size
  have z0 : Z.heap.size ≤ h0.size := O0.2.1
  have Kr := Keep.refl h0 []
  show own_G _ _ _ _ (T0.setTop (mkF m 0 #[] []))
  obtain ⟨D1, D2, D3, D4, D5, D6, D7, D8, D9⟩ := id HD
  obtain ⟨T1, X1, e1, st1⟩ := getS2 X0 hx hZ hown (host := "") (Or.inl (hw _ (List.mem_of_getElem? (i := 41) rfl))) Via.refl e0 (Sta.ext O0.2 D1) (g := (mkF m 0 #[] [])) rfl (hb hby own_d_prog_8_m1_0)
  refine own_st st1 ?_
  show own_G _ _ _ _ (T1.setTop (mkF m 3 #[] [(.ref va)]))
  have q2 : Arv Z h0 va kv (.object "com/example/limpet/limpet/jdbc/Dialect") (2 : Int32) [.ref pg, .ref mb] .null := D5.ext O0.2
  have q3 : Exa Z h0 va "[Lcom/example/limpet/limpet/jdbc/Dialect;" := D4.ext O0.2
  obtain ⟨T4, h4, X4, e4, E4, AH4, A4, st4⟩ := cloneH X1 hx hZ hown (hw _ (List.mem_of_getElem? (i := 43) rfl)) (hw _ (List.mem_of_getElem? (i := 44) rfl)) (hw _ (List.mem_of_getElem? (i := 48) rfl)) (hw _ (List.mem_of_getElem? (i := 46) rfl)) (hw _ (List.mem_of_getElem? (i := 47) rfl)) (hw _ (List.mem_of_getElem? (i := 49) rfl)) e1 q2.arh q3 (g := (mkF m 3 #[] [(.ref va)])) rfl (by rw [hml]; rfl) rfl (hb hby own_d_prog_8_m1_3) (by decide) (W := 0) (cap := 2) (by show 2 * 0 + _ ≤ _; exact Nat.le_of_eq rfl) (by decide) (by decide) (by decide) (by decide)
  obtain ⟨b4, g4⟩ : ∃ z, z = h0.size := ⟨_, rfl⟩
  rw [← g4] at AH4 A4 st4
  refine own_st st4 ?_
  have z5 : h0.size ≤ h4.size := E4.1
  have O6 := Old.ext O0 E4
  have K7 : Keep h0 h4 [] := Kr.ext E4
  have V4 : Arv Z h4 b4 kv (.object "com/example/limpet/limpet/jdbc/Dialect") (2 : Int32) [.ref pg, .ref mb] .null := AH4
  have lt4 := own_ltN A4.lt
  show own_G _ _ _ _ (T4.setTop (mkF m 6 #[] [(.ref b4)]))
  obtain ⟨T8, X8, e8, st8⟩ := castY X4 hx hZ hown (hw _ (List.mem_of_getElem? (i := 53) rfl)) e4 (Ins.self A4) (g := (mkF m 6 #[] [(.ref b4)])) rfl rfl (hb hby own_d_prog_8_m1_6)
  refine own_st st8 ?_
  show own_G _ _ _ _ (T8.setTop (mkF m 9 #[] [(.ref b4)]))
  exact own_retA X8 hx hret rfl rfl hlk (hb hby own_d_prog_8_m1_9) (by rw [e8]; exact ⟨b4, rfl, N0, K7, V4⟩) (by decide) (by decide)
theorem own_d_prog_8_m5_0 : decode prog_8_method_5_code 0 = .ok (.invokestatic 54, 3) := by decide +kernel
theorem own_pd258 : parseMethodDescriptor "()[Lcom/example/limpet/limpet/jdbc/Dialect;" = some ⟨[], some (.array (.object "com/example/limpet/limpet/jdbc/Dialect"))⟩ := by decide +kernel
theorem own_d_prog_8_m5_3 : decode prog_8_method_5_code 3 = .ok (.astore_n 1, 1) := by decide +kernel
theorem own_d_prog_8_m5_4 : decode prog_8_method_5_code 4 = .ok (.aload_n 1, 1) := by decide +kernel
theorem own_d_prog_8_m5_5 : decode prog_8_method_5_code 5 = .ok (.arraylength, 1) := by decide +kernel
theorem own_d_prog_8_m5_6 : decode prog_8_method_5_code 6 = .ok (.istore_n 2, 1) := by decide +kernel
theorem own_d_prog_8_m5_7 : decode prog_8_method_5_code 7 = .ok (.iconst 0, 1) := by decide +kernel
theorem own_d_prog_8_m5_8 : decode prog_8_method_5_code 8 = .ok (.istore_n 3, 1) := by decide +kernel
theorem own_d_prog_8_m5_9 : decode prog_8_method_5_code 9 = .ok (.iload_n 3, 1) := by decide +kernel
theorem own_d_prog_8_m5_10 : decode prog_8_method_5_code 10 = .ok (.iload_n 2, 1) := by decide +kernel
theorem own_d_prog_8_m5_11 : decode prog_8_method_5_code 11 = .ok (.if_icmp .ge 29, 3) := by decide +kernel
theorem own_d_prog_8_m5_14 : decode prog_8_method_5_code 14 = .ok (.aload_n 1, 1) := by decide +kernel
theorem own_d_prog_8_m5_15 : decode prog_8_method_5_code 15 = .ok (.iload_n 3, 1) := by decide +kernel
theorem own_d_prog_8_m5_16 : decode prog_8_method_5_code 16 = .ok (.aaload, 1) := by decide +kernel
theorem own_d_prog_8_m5_17 : decode prog_8_method_5_code 17 = .ok (.astore 4, 2) := by decide +kernel
theorem own_d_prog_8_m5_19 : decode prog_8_method_5_code 19 = .ok (.aload 4, 2) := by decide +kernel
theorem own_d_prog_8_m5_21 : decode prog_8_method_5_code 21 = .ok (.getfield 29, 3) := by decide +kernel
theorem own_d_prog_8_m5_24 : decode prog_8_method_5_code 24 = .ok (.aload_n 0, 1) := by decide +kernel
theorem own_d_prog_8_m5_25 : decode prog_8_method_5_code 25 = .ok (.invokevirtual 71, 3) := by decide +kernel
theorem own_pd276 : parseMethodDescriptor "(Ljava/lang/String;)Z" = some ⟨[(.object "java/lang/String")], some .boolean⟩ := by decide +kernel
theorem own_d_prog_8_m5_28 : decode prog_8_method_5_code 28 = .ok (.ifCond .eq 6, 3) := by decide +kernel
theorem own_d_prog_8_m5_31 : decode prog_8_method_5_code 31 = .ok (.aload 4, 2) := by decide +kernel
theorem own_d_prog_8_m5_33 : decode prog_8_method_5_code 33 = .ok (.areturn, 1) := by decide +kernel
set_option maxRecDepth 65536 in
set_option maxHeartbeats 40000000 in
theorem own_ofP (l : Launch) (Z : State) (a0 : Array Value) (hw : ∀ d ∈ tables_1, d.before a0 Z = true) (ws : List Jvm.Cond) (a1 : Addr) (va pg mb sp sm tp tm : Addr) (kv kp km : ClassId) (gp gm : Nat → Int32) (t : Addr) (kt : ClassId) (b2 : Nat → Int32) (w1 : Int32) (h0 : Heap) (O0 : Old Z Z.heap.size h0) (HD : own_D Z va pg mb sp sm tp tm kv kp km gp gm) (S1 : Sta Z Z.heap "java/lang/String" "COMPACT_STRINGS" "Z" (.int w1)) (hw1 : ¬ (w1 = (0 : Int32))) (ga : Z.heap.size ≤ a1) (H2 : own_StrL Z h0 a1 t kt b2 10) (he : ∀ j, j < 10 → own_eic (gp j) (b2 j)) :
    own_Met l Z (⟨"com/example/limpet/limpet/jdbc/Dialect", "ofProduct", "(Ljava/lang/String;)Lcom/example/limpet/limpet/jdbc/Dialect;"⟩ : MethodName) prog_8_method_5_code 5 (some (.object "com/example/limpet/limpet/jdbc/Dialect")) ws ({ frames := 4, cells := 1, slots := 2, locals := 76 } : Room) #[(.ref a1)] h0 (fun v h L => v = some (.ref pg) ∧ Fr Z.heap.size L ∧ Keep h0 h []) (({ frames := 4, cells := 1, slots := 2, locals := 76 } : Room)).cells (({ frames := 4, cells := 1, slots := 2, locals := 76 } : Room)).slots := by
  refine own_body (ef := fun m => mkF m 0 #[.val (.ref a1), .unset, .unset, .unset, .unset] []) (plainFor_of_name own_pn252) (fun m => by first | rfl | (simp [entryFrame, mkF, argsToLocals, Value.category]; done)) ?_
  intro p e s m below meth c T0 hx hZ hby hml hown hnm hret hlk X0 e0
  have N0 := Fr.nil Z.heap.size
  have z0 : Z.heap.size ≤ h0.size := O0.2.1
  have Kr := Keep.refl h0 []
  show own_G _ _ _ _ (T0.setTop (mkF m 0 #[.val (.ref a1), .unset, .unset, .unset, .unset] []))
  obtain ⟨D1, D2, D3, D4, D5, D6, D7, D8, D9⟩ := id HD
  have lta := own_ltN H2.1.lt
  have ltt := own_ltN H2.2.2.2.lt
  have ltsp := own_ltN D8.1.lt
  have ltsm := own_ltN D9.1.lt
  obtain ⟨_, _, ⟨T1, L1, k1, n1⟩, -, X1, ⟨Lc1, hQ1, l1, y1, z1⟩, st1⟩ := Jvm.LawKit.callS X0 hx (y := (⟨"com/example/limpet/limpet/jdbc/Dialect", "values", "()[Lcom/example/limpet/limpet/jdbc/Dialect;"⟩ : MethodName)) hown (mvT hZ (hw _ (List.mem_of_getElem? (i := 38) rfl))) (mvT hZ (hw _ (List.mem_of_getElem? (i := 39) rfl))) (mvT hZ (hw _ (List.mem_of_getElem? (i := 36) rfl))) (mvT hZ (hw _ (List.mem_of_getElem? (i := 40) rfl))) (by decide) (own_back (rm := ({ frames := 1, cells := 1, slots := 2, locals := 14 } : Room)) (W := 0) (own_values l Z a0 hw [] va pg mb sp sm tp tm kv kp km gp gm h0 O0 HD) hZ (hw _ (List.mem_of_getElem? (i := 40) rfl)) (hw _ (List.mem_of_getElem? (i := 36) rfl)) (by decide) (by decide)) (g := (mkF m 0 #[.val (.ref a1), .unset, .unset, .unset, .unset] [])) rfl (by rw [hml]; rfl) (argsL := []) (rest := []) (lenOf own_pd258 rfl) rfl (by show 2 * 0 + _ ≤ _; exact Nat.le_of_eq rfl) (hb hby own_d_prog_8_m5_0) (fun _ _ => ⟨rfl, e0, (by decide : 0 + 1 ≤ _), (by decide : 0 + 2 ≤ _)⟩)
  dsimp only [Pt.U, Pt.locs, Pt.cells, Pt.slots] at X1 l1 y1 z1 st1 hQ1
  subst l1 y1 z1
  obtain ⟨b, rfl, N1q, K1_, V1⟩ := hQ1
  have N1 := Fr.app N0 N1q
  refine own_st st1 ?_
  have z2 : h0.size ≤ T1.heap.size := K1_.1
  have O3 := Old.keep O0 K1_ all0
  have K4 : Keep h0 T1.heap [] := Kr.trans K1_ all0
  show own_G _ _ _ _ (T1.setTop (mkF m 3 #[.val (.ref a1), .unset, .unset, .unset, .unset] [(.ref b)]))
  have H2' := own_StrL_keep H2 K1_ nin0 nin0
  refine own_st (fun _ k => XS.astoreN X1.here hx rfl (hb hby own_d_prog_8_m5_3) rfl rfl (l' := #[.val (.ref a1), .val (.ref b), .unset, .unset, .unset]) rfl k) ?_
  show own_G _ _ _ _ (T1.setTop (mkF m 4 #[.val (.ref a1), .val (.ref b), .unset, .unset, .unset] []))
  refine own_st (fun _ k => XS.aloadN X1.here hx rfl (hb hby own_d_prog_8_m5_4) rfl rfl k) ?_
  show own_G _ _ _ _ (T1.setTop (mkF m 5 #[.val (.ref a1), .val (.ref b), .unset, .unset, .unset] [(.ref b)]))
  obtain ⟨cl5, Ar5, qk5, Sz5, Mz5, Hz5, Uz5⟩ := id V1
  refine own_st (X1.arraylength hx Ar5.1 (State.isArrayOf_alike hZ.alike Ar5.2.1) (g := (mkF m 5 #[.val (.ref a1), .val (.ref b), .unset, .unset, .unset] [(.ref b)])) rfl rfl (hb hby own_d_prog_8_m5_5)) ?_
  rw [len_of Sz5 Mz5]
  show own_G _ _ _ _ (T1.setTop (mkF m 6 #[.val (.ref a1), .val (.ref b), .unset, .unset, .unset] [(.int (2 : Int32))]))
  refine own_st (fun _ k => XS.istoreN X1.here hx rfl (hb hby own_d_prog_8_m5_6) rfl (l' := #[.val (.ref a1), .val (.ref b), .val (.int (2 : Int32)), .unset, .unset]) rfl k) ?_
  show own_G _ _ _ _ (T1.setTop (mkF m 7 #[.val (.ref a1), .val (.ref b), .val (.int (2 : Int32)), .unset, .unset] []))
  refine own_st (fun _ k => XS.iconst X1.here hx rfl (hb hby own_d_prog_8_m5_7) k) ?_
  show own_G _ _ _ _ (T1.setTop (mkF m 8 #[.val (.ref a1), .val (.ref b), .val (.int (2 : Int32)), .unset, .unset] [(.int (0 : Int32))]))
  refine own_st (fun _ k => XS.istoreN X1.here hx rfl (hb hby own_d_prog_8_m5_8) rfl (l' := #[.val (.ref a1), .val (.ref b), .val (.int (2 : Int32)), .val (.int (0 : Int32)), .unset]) rfl k) ?_
  show own_G _ _ _ _ (T1.setTop (mkF m 9 #[.val (.ref a1), .val (.ref b), .val (.int (2 : Int32)), .val (.int (0 : Int32)), .unset] []))
  refine own_st (fun _ k => XS.iloadN X1.here hx rfl (hb hby own_d_prog_8_m5_9) rfl k) ?_
  show own_G _ _ _ _ (T1.setTop (mkF m 10 #[.val (.ref a1), .val (.ref b), .val (.int (2 : Int32)), .val (.int (0 : Int32)), .unset] [(.int (0 : Int32))]))
  refine own_st (fun _ k => XS.iloadN X1.here hx rfl (hb hby own_d_prog_8_m5_10) rfl k) ?_
  show own_G _ _ _ _ (T1.setTop (mkF m 11 #[.val (.ref a1), .val (.ref b), .val (.int (2 : Int32)), .val (.int (0 : Int32)), .unset] [(.int (2 : Int32)), (.int (0 : Int32))]))
  refine own_st (fun _ k => XS.icmpNo X1.here hx rfl (hb hby own_d_prog_8_m5_11) rfl (tlt (by decide)).2.1 k) ?_
  show own_G _ _ _ _ (T1.setTop (mkF m 14 #[.val (.ref a1), .val (.ref b), .val (.int (2 : Int32)), .val (.int (0 : Int32)), .unset] []))
  refine own_st (fun _ k => XS.aloadN X1.here hx rfl (hb hby own_d_prog_8_m5_14) rfl rfl k) ?_
  show own_G _ _ _ _ (T1.setTop (mkF m 15 #[.val (.ref a1), .val (.ref b), .val (.int (2 : Int32)), .val (.int (0 : Int32)), .unset] [(.ref b)]))
  refine own_st (fun _ k => XS.iloadN X1.here hx rfl (hb hby own_d_prog_8_m5_15) rfl k) ?_
  show own_G _ _ _ _ (T1.setTop (mkF m 16 #[.val (.ref a1), .val (.ref b), .val (.int (2 : Int32)), .val (.int (0 : Int32)), .unset] [(.int (0 : Int32)), (.ref b)]))
  obtain ⟨cl6, Ar6, qk6, Sz6, Mz6, Hz6, Uz6⟩ := id V1
  refine own_st (X1.aaload hx (j := (0 : Int32)) (v := (.ref pg)) Ar6.1 (State.isArrayOf_alike hZ.alike Ar6.2.1) rfl Ar6.2.2 (inb_of Sz6 ⟨by decide, by decide⟩) (Has.at Hz6 (inb_of Sz6 ⟨by decide, by decide⟩) rfl) (g := (mkF m 16 #[.val (.ref a1), .val (.ref b), .val (.int (2 : Int32)), .val (.int (0 : Int32)), .unset] [(.int (0 : Int32)), (.ref b)])) rfl rfl (hb hby own_d_prog_8_m5_16)) ?_
  show own_G _ _ _ _ (T1.setTop (mkF m 17 #[.val (.ref a1), .val (.ref b), .val (.int (2 : Int32)), .val (.int (0 : Int32)), .unset] [(.ref pg)]))
  refine own_st (fun _ k => XS.astore X1.here hx rfl (hb hby own_d_prog_8_m5_17) rfl rfl (l' := #[.val (.ref a1), .val (.ref b), .val (.int (2 : Int32)), .val (.int (0 : Int32)), .val (.ref pg)]) rfl k) ?_
  show own_G _ _ _ _ (T1.setTop (mkF m 19 #[.val (.ref a1), .val (.ref b), .val (.int (2 : Int32)), .val (.int (0 : Int32)), .val (.ref pg)] []))
  refine own_st (fun _ k => XS.aload X1.here hx rfl (hb hby own_d_prog_8_m5_19) rfl rfl k) ?_
  show own_G _ _ _ _ (T1.setTop (mkF m 21 #[.val (.ref a1), .val (.ref b), .val (.int (2 : Int32)), .val (.int (0 : Int32)), .val (.ref pg)] [(.ref pg)]))
  have q7 : Fld Z T1.heap pg "com/example/limpet/limpet/jdbc/Dialect" "product" "Ljava/lang/String;" (.ref sp) := D6.ext O3.2
  obtain ⟨T8, X8, e8, st8⟩ := getF X1 hx hZ hown (host := "") (Or.inl (hw _ (List.mem_of_getElem? (i := 55) rfl))) Via.refl rfl q7 (g := (mkF m 21 #[.val (.ref a1), .val (.ref b), .val (.int (2 : Int32)), .val (.int (0 : Int32)), .val (.ref pg)] [(.ref pg)])) rfl rfl (hb hby own_d_prog_8_m5_21)
  refine own_st st8 ?_
  show own_G _ _ _ _ (T8.setTop (mkF m 24 #[.val (.ref a1), .val (.ref b), .val (.int (2 : Int32)), .val (.int (0 : Int32)), .val (.ref pg)] [(.ref sp)]))
  refine own_st (fun _ k => XS.aloadN X8.here hx rfl (hb hby own_d_prog_8_m5_24) rfl rfl k) ?_
  show own_G _ _ _ _ (T8.setTop (mkF m 25 #[.val (.ref a1), .val (.ref b), .val (.int (2 : Int32)), .val (.int (0 : Int32)), .val (.ref pg)] [(.ref a1), (.ref sp)]))
  have q10 : Exa Z T1.heap sp "java/lang/String" := D8.1.ext O3.2
  obtain ⟨cq9, kq9, q9a, q9b, q9c⟩ := isOf hZ e8 q10
  obtain ⟨_, _, ⟨T9, L9, k9, n9⟩, -, X9, ⟨Lc9, hQ9, l9, y9, z9⟩, st9⟩ := X8.virtualBack hx (y := (⟨"java/lang/String", "equalsIgnoreCase", "(Ljava/lang/String;)Z"⟩ : MethodName)) (z := (⟨"java/lang/String", "equalsIgnoreCase", "(Ljava/lang/String;)Z"⟩ : MethodName)) hown (mvT hZ (hw _ (List.mem_of_getElem? (i := 57) rfl))) (mvT hZ (hw _ (List.mem_of_getElem? (i := 58) rfl))) (notFace_of_selects (args := #[]) (mvT hZ (hw _ (List.mem_of_getElem? (i := 60) rfl)))) (mvT hZ (hw _ (List.mem_of_getElem? (i := 60) rfl))) (mvT hZ (hw _ (List.mem_of_getElem? (i := 59) rfl))) (by decide) (own_back (rm := ({ frames := 3, cells := 0, slots := 0, locals := 60 } : Room)) (W := 0) (own_eicY l Z a0 hw [] sp a1 tp t kp kt 10 gp b2 w1 T1.heap O3 (show @Ne Nat sp a1 by omega) (by decide) S1 hw1 (own_StrL_ext D8 O3.2) H2' he) hZ (hw _ (List.mem_of_getElem? (i := 61) rfl)) (hw _ (List.mem_of_getElem? (i := 7) rfl)) (by decide) (by decide)) q9a q9c (g := (mkF m 25 #[.val (.ref a1), .val (.ref b), .val (.int (2 : Int32)), .val (.int (0 : Int32)), .val (.ref pg)] [(.ref a1), (.ref sp)])) rfl (by rw [hml]; rfl) (Steps.refl _) (argsL := [(.ref a1)]) (rest := []) (lenOf own_pd276 rfl) rfl (by show 2 * 0 + _ ≤ _; exact Nat.le_of_eq rfl) (hb hby own_d_prog_8_m5_25) (fun _ _ => ⟨rfl, e8, (by decide : 0 + 1 + 0 ≤ _), (by decide : 0 + 2 + 0 ≤ _)⟩)
  dsimp only [Pt.U, Pt.locs, Pt.cells, Pt.slots] at X9 l9 y9 z9 st9 hQ9
  subst l9 y9 z9
  obtain ⟨rfl, N9q, eh9⟩ := hQ9
  have N9 := Fr.app N1 N9q
  refine own_tr st9 ?_
  show own_G _ _ _ _ (T9.setTop (mkF m 28 #[.val (.ref a1), .val (.ref b), .val (.int (2 : Int32)), .val (.int (0 : Int32)), .val (.ref pg)] [(.int (1 : Int32))]))
  refine own_st (fun _ k => XS.ifNo X9.here hx rfl (hb hby own_d_prog_8_m5_28) rfl ((if0 _ _).trans (feq (by decide)).1) k) ?_
  show own_G _ _ _ _ (T9.setTop (mkF m 31 #[.val (.ref a1), .val (.ref b), .val (.int (2 : Int32)), .val (.int (0 : Int32)), .val (.ref pg)] []))
  refine own_st (fun _ k => XS.aload X9.here hx rfl (hb hby own_d_prog_8_m5_31) rfl rfl k) ?_
  show own_G _ _ _ _ (T9.setTop (mkF m 33 #[.val (.ref a1), .val (.ref b), .val (.int (2 : Int32)), .val (.int (0 : Int32)), .val (.ref pg)] [(.ref pg)]))
  exact own_retA X9 hx hret rfl rfl hlk (hb hby own_d_prog_8_m5_33) (by rw [eh9]; exact ⟨rfl, N9, K4⟩) (by decide) (by decide)
theorem own_d_prog_8_m5_34 : decode prog_8_method_5_code 34 = .ok (.iinc 3 1, 3) := by decide +kernel
theorem own_d_prog_8_m5_37 : decode prog_8_method_5_code 37 = .ok (.goto (-28), 3) := by decide +kernel
set_option maxRecDepth 65536 in
set_option maxHeartbeats 40000000 in
theorem own_ofM (l : Launch) (Z : State) (a0 : Array Value) (hw : ∀ d ∈ tables_1, d.before a0 Z = true) (ws : List Jvm.Cond) (a1 : Addr) (va pg mb sp sm tp tm : Addr) (kv kp km : ClassId) (gp gm : Nat → Int32) (t : Addr) (kt : ClassId) (b2 : Nat → Int32) (w1 : Int32) (h0 : Heap) (O0 : Old Z Z.heap.size h0) (HD : own_D Z va pg mb sp sm tp tm kv kp km gp gm) (S1 : Sta Z Z.heap "java/lang/String" "COMPACT_STRINGS" "Z" (.int w1)) (hw1 : ¬ (w1 = (0 : Int32))) (ga : Z.heap.size ≤ a1) (H2 : own_StrL Z h0 a1 t kt b2 7) (he : ∀ j, j < 7 → own_eic (gm j) (b2 j)) :
    own_Met l Z (⟨"com/example/limpet/limpet/jdbc/Dialect", "ofProduct", "(Ljava/lang/String;)Lcom/example/limpet/limpet/jdbc/Dialect;"⟩ : MethodName) prog_8_method_5_code 5 (some (.object "com/example/limpet/limpet/jdbc/Dialect")) ws ({ frames := 4, cells := 1, slots := 2, locals := 76 } : Room) #[(.ref a1)] h0 (fun v h L => v = some (.ref mb) ∧ Fr Z.heap.size L ∧ Keep h0 h []) (({ frames := 4, cells := 1, slots := 2, locals := 76 } : Room)).cells (({ frames := 4, cells := 1, slots := 2, locals := 76 } : Room)).slots := by
  refine own_body (ef := fun m => mkF m 0 #[.val (.ref a1), .unset, .unset, .unset, .unset] []) (plainFor_of_name own_pn252) (fun m => by first | rfl | (simp [entryFrame, mkF, argsToLocals, Value.category]; done)) ?_
  intro p e s m below meth c T0 hx hZ hby hml hown hnm hret hlk X0 e0
  have N0 := Fr.nil Z.heap.size
  have z0 : Z.heap.size ≤ h0.size := O0.2.1
  have Kr := Keep.refl h0 []
  show own_G _ _ _ _ (T0.setTop (mkF m 0 #[.val (.ref a1), .unset, .unset, .unset, .unset] []))
  obtain ⟨D1, D2, D3, D4, D5, D6, D7, D8, D9⟩ := id HD
  have lta := own_ltN H2.1.lt
  have ltt := own_ltN H2.2.2.2.lt
  have ltsp := own_ltN D8.1.lt
  have ltsm := own_ltN D9.1.lt
  obtain ⟨_, _, ⟨T1, L1, k1, n1⟩, -, X1, ⟨Lc1, hQ1, l1, y1, z1⟩, st1⟩ := Jvm.LawKit.callS X0 hx (y := (⟨"com/example/limpet/limpet/jdbc/Dialect", "values", "()[Lcom/example/limpet/limpet/jdbc/Dialect;"⟩ : MethodName)) hown (mvT hZ (hw _ (List.mem_of_getElem? (i := 38) rfl))) (mvT hZ (hw _ (List.mem_of_getElem? (i := 39) rfl))) (mvT hZ (hw _ (List.mem_of_getElem? (i := 36) rfl))) (mvT hZ (hw _ (List.mem_of_getElem? (i := 40) rfl))) (by decide) (own_back (rm := ({ frames := 1, cells := 1, slots := 2, locals := 14 } : Room)) (W := 0) (own_values l Z a0 hw [] va pg mb sp sm tp tm kv kp km gp gm h0 O0 HD) hZ (hw _ (List.mem_of_getElem? (i := 40) rfl)) (hw _ (List.mem_of_getElem? (i := 36) rfl)) (by decide) (by decide)) (g := (mkF m 0 #[.val (.ref a1), .unset, .unset, .unset, .unset] [])) rfl (by rw [hml]; rfl) (argsL := []) (rest := []) (lenOf own_pd258 rfl) rfl (by show 2 * 0 + _ ≤ _; exact Nat.le_of_eq rfl) (hb hby own_d_prog_8_m5_0) (fun _ _ => ⟨rfl, e0, (by decide : 0 + 1 ≤ _), (by decide : 0 + 2 ≤ _)⟩)
  dsimp only [Pt.U, Pt.locs, Pt.cells, Pt.slots] at X1 l1 y1 z1 st1 hQ1
  subst l1 y1 z1
  obtain ⟨b, rfl, N1q, K1_, V1⟩ := hQ1
  have N1 := Fr.app N0 N1q
  refine own_st st1 ?_
  have z2 : h0.size ≤ T1.heap.size := K1_.1
  have O3 := Old.keep O0 K1_ all0
  have K4 : Keep h0 T1.heap [] := Kr.trans K1_ all0
  show own_G _ _ _ _ (T1.setTop (mkF m 3 #[.val (.ref a1), .unset, .unset, .unset, .unset] [(.ref b)]))
  have H2' := own_StrL_keep H2 K1_ nin0 nin0
  refine own_st (fun _ k => XS.astoreN X1.here hx rfl (hb hby own_d_prog_8_m5_3) rfl rfl (l' := #[.val (.ref a1), .val (.ref b), .unset, .unset, .unset]) rfl k) ?_
  show own_G _ _ _ _ (T1.setTop (mkF m 4 #[.val (.ref a1), .val (.ref b), .unset, .unset, .unset] []))
  refine own_st (fun _ k => XS.aloadN X1.here hx rfl (hb hby own_d_prog_8_m5_4) rfl rfl k) ?_
  show own_G _ _ _ _ (T1.setTop (mkF m 5 #[.val (.ref a1), .val (.ref b), .unset, .unset, .unset] [(.ref b)]))
  obtain ⟨cl5, Ar5, qk5, Sz5, Mz5, Hz5, Uz5⟩ := id V1
  refine own_st (X1.arraylength hx Ar5.1 (State.isArrayOf_alike hZ.alike Ar5.2.1) (g := (mkF m 5 #[.val (.ref a1), .val (.ref b), .unset, .unset, .unset] [(.ref b)])) rfl rfl (hb hby own_d_prog_8_m5_5)) ?_
  rw [len_of Sz5 Mz5]
  show own_G _ _ _ _ (T1.setTop (mkF m 6 #[.val (.ref a1), .val (.ref b), .unset, .unset, .unset] [(.int (2 : Int32))]))
  refine own_st (fun _ k => XS.istoreN X1.here hx rfl (hb hby own_d_prog_8_m5_6) rfl (l' := #[.val (.ref a1), .val (.ref b), .val (.int (2 : Int32)), .unset, .unset]) rfl k) ?_
  show own_G _ _ _ _ (T1.setTop (mkF m 7 #[.val (.ref a1), .val (.ref b), .val (.int (2 : Int32)), .unset, .unset] []))
  refine own_st (fun _ k => XS.iconst X1.here hx rfl (hb hby own_d_prog_8_m5_7) k) ?_
  show own_G _ _ _ _ (T1.setTop (mkF m 8 #[.val (.ref a1), .val (.ref b), .val (.int (2 : Int32)), .unset, .unset] [(.int (0 : Int32))]))
  refine own_st (fun _ k => XS.istoreN X1.here hx rfl (hb hby own_d_prog_8_m5_8) rfl (l' := #[.val (.ref a1), .val (.ref b), .val (.int (2 : Int32)), .val (.int (0 : Int32)), .unset]) rfl k) ?_
  show own_G _ _ _ _ (T1.setTop (mkF m 9 #[.val (.ref a1), .val (.ref b), .val (.int (2 : Int32)), .val (.int (0 : Int32)), .unset] []))
  refine own_st (fun _ k => XS.iloadN X1.here hx rfl (hb hby own_d_prog_8_m5_9) rfl k) ?_
  show own_G _ _ _ _ (T1.setTop (mkF m 10 #[.val (.ref a1), .val (.ref b), .val (.int (2 : Int32)), .val (.int (0 : Int32)), .unset] [(.int (0 : Int32))]))
  refine own_st (fun _ k => XS.iloadN X1.here hx rfl (hb hby own_d_prog_8_m5_10) rfl k) ?_
  show own_G _ _ _ _ (T1.setTop (mkF m 11 #[.val (.ref a1), .val (.ref b), .val (.int (2 : Int32)), .val (.int (0 : Int32)), .unset] [(.int (2 : Int32)), (.int (0 : Int32))]))
  refine own_st (fun _ k => XS.icmpNo X1.here hx rfl (hb hby own_d_prog_8_m5_11) rfl (tlt (by decide)).2.1 k) ?_
  show own_G _ _ _ _ (T1.setTop (mkF m 14 #[.val (.ref a1), .val (.ref b), .val (.int (2 : Int32)), .val (.int (0 : Int32)), .unset] []))
  refine own_st (fun _ k => XS.aloadN X1.here hx rfl (hb hby own_d_prog_8_m5_14) rfl rfl k) ?_
  show own_G _ _ _ _ (T1.setTop (mkF m 15 #[.val (.ref a1), .val (.ref b), .val (.int (2 : Int32)), .val (.int (0 : Int32)), .unset] [(.ref b)]))
  refine own_st (fun _ k => XS.iloadN X1.here hx rfl (hb hby own_d_prog_8_m5_15) rfl k) ?_
  show own_G _ _ _ _ (T1.setTop (mkF m 16 #[.val (.ref a1), .val (.ref b), .val (.int (2 : Int32)), .val (.int (0 : Int32)), .unset] [(.int (0 : Int32)), (.ref b)]))
  obtain ⟨cl6, Ar6, qk6, Sz6, Mz6, Hz6, Uz6⟩ := id V1
  refine own_st (X1.aaload hx (j := (0 : Int32)) (v := (.ref pg)) Ar6.1 (State.isArrayOf_alike hZ.alike Ar6.2.1) rfl Ar6.2.2 (inb_of Sz6 ⟨by decide, by decide⟩) (Has.at Hz6 (inb_of Sz6 ⟨by decide, by decide⟩) rfl) (g := (mkF m 16 #[.val (.ref a1), .val (.ref b), .val (.int (2 : Int32)), .val (.int (0 : Int32)), .unset] [(.int (0 : Int32)), (.ref b)])) rfl rfl (hb hby own_d_prog_8_m5_16)) ?_
  show own_G _ _ _ _ (T1.setTop (mkF m 17 #[.val (.ref a1), .val (.ref b), .val (.int (2 : Int32)), .val (.int (0 : Int32)), .unset] [(.ref pg)]))
  refine own_st (fun _ k => XS.astore X1.here hx rfl (hb hby own_d_prog_8_m5_17) rfl rfl (l' := #[.val (.ref a1), .val (.ref b), .val (.int (2 : Int32)), .val (.int (0 : Int32)), .val (.ref pg)]) rfl k) ?_
  show own_G _ _ _ _ (T1.setTop (mkF m 19 #[.val (.ref a1), .val (.ref b), .val (.int (2 : Int32)), .val (.int (0 : Int32)), .val (.ref pg)] []))
  refine own_st (fun _ k => XS.aload X1.here hx rfl (hb hby own_d_prog_8_m5_19) rfl rfl k) ?_
  show own_G _ _ _ _ (T1.setTop (mkF m 21 #[.val (.ref a1), .val (.ref b), .val (.int (2 : Int32)), .val (.int (0 : Int32)), .val (.ref pg)] [(.ref pg)]))
  have q7 : Fld Z T1.heap pg "com/example/limpet/limpet/jdbc/Dialect" "product" "Ljava/lang/String;" (.ref sp) := D6.ext O3.2
  obtain ⟨T8, X8, e8, st8⟩ := getF X1 hx hZ hown (host := "") (Or.inl (hw _ (List.mem_of_getElem? (i := 55) rfl))) Via.refl rfl q7 (g := (mkF m 21 #[.val (.ref a1), .val (.ref b), .val (.int (2 : Int32)), .val (.int (0 : Int32)), .val (.ref pg)] [(.ref pg)])) rfl rfl (hb hby own_d_prog_8_m5_21)
  refine own_st st8 ?_
  show own_G _ _ _ _ (T8.setTop (mkF m 24 #[.val (.ref a1), .val (.ref b), .val (.int (2 : Int32)), .val (.int (0 : Int32)), .val (.ref pg)] [(.ref sp)]))
  refine own_st (fun _ k => XS.aloadN X8.here hx rfl (hb hby own_d_prog_8_m5_24) rfl rfl k) ?_
  show own_G _ _ _ _ (T8.setTop (mkF m 25 #[.val (.ref a1), .val (.ref b), .val (.int (2 : Int32)), .val (.int (0 : Int32)), .val (.ref pg)] [(.ref a1), (.ref sp)]))
  have q10 : Exa Z T1.heap sp "java/lang/String" := D8.1.ext O3.2
  obtain ⟨cq9, kq9, q9a, q9b, q9c⟩ := isOf hZ e8 q10
  obtain ⟨_, _, ⟨T9, L9, k9, n9⟩, -, X9, ⟨Lc9, hQ9, l9, y9, z9⟩, st9⟩ := X8.virtualBack hx (y := (⟨"java/lang/String", "equalsIgnoreCase", "(Ljava/lang/String;)Z"⟩ : MethodName)) (z := (⟨"java/lang/String", "equalsIgnoreCase", "(Ljava/lang/String;)Z"⟩ : MethodName)) hown (mvT hZ (hw _ (List.mem_of_getElem? (i := 57) rfl))) (mvT hZ (hw _ (List.mem_of_getElem? (i := 58) rfl))) (notFace_of_selects (args := #[]) (mvT hZ (hw _ (List.mem_of_getElem? (i := 60) rfl)))) (mvT hZ (hw _ (List.mem_of_getElem? (i := 60) rfl))) (mvT hZ (hw _ (List.mem_of_getElem? (i := 59) rfl))) (by decide) (own_back (rm := ({ frames := 3, cells := 0, slots := 0, locals := 60 } : Room)) (W := 0) (own_eicN l Z a0 hw [] sp a1 tp t kp kt 10 7 gp b2 w1 T1.heap O3 (show @Ne Nat sp a1 by omega) (by decide) S1 hw1 (by decide) (by decide) (own_StrL_ext D8 O3.2) H2') hZ (hw _ (List.mem_of_getElem? (i := 61) rfl)) (hw _ (List.mem_of_getElem? (i := 7) rfl)) (by decide) (by decide)) q9a q9c (g := (mkF m 25 #[.val (.ref a1), .val (.ref b), .val (.int (2 : Int32)), .val (.int (0 : Int32)), .val (.ref pg)] [(.ref a1), (.ref sp)])) rfl (by rw [hml]; rfl) (Steps.refl _) (argsL := [(.ref a1)]) (rest := []) (lenOf own_pd276 rfl) rfl (by show 2 * 0 + _ ≤ _; exact Nat.le_of_eq rfl) (hb hby own_d_prog_8_m5_25) (fun _ _ => ⟨rfl, e8, (by decide : 0 + 1 + 0 ≤ _), (by decide : 0 + 2 + 0 ≤ _)⟩)
  dsimp only [Pt.U, Pt.locs, Pt.cells, Pt.slots] at X9 l9 y9 z9 st9 hQ9
  subst l9 y9 z9
  obtain ⟨rfl, N9q, eh9⟩ := hQ9
  have N9 := Fr.app N1 N9q
  refine own_tr st9 ?_
  show own_G _ _ _ _ (T9.setTop (mkF m 28 #[.val (.ref a1), .val (.ref b), .val (.int (2 : Int32)), .val (.int (0 : Int32)), .val (.ref pg)] [(.int (0 : Int32))]))
  refine own_st (fun _ k => XS.ifYes X9.here hx rfl (pc0 := 28) (pc' := 34) rfl (hb hby own_d_prog_8_m5_28) rfl ((if0 _ _).trans (teq rfl).1) (by decide) (by decide) k) ?_
  show own_G _ _ _ _ (T9.setTop (mkF m 34 #[.val (.ref a1), .val (.ref b), .val (.int (2 : Int32)), .val (.int (0 : Int32)), .val (.ref pg)] []))
  refine own_st (fun _ k => XS.iinc X9.here hx rfl (hb hby own_d_prog_8_m5_34) rfl (l' := #[.val (.ref a1), .val (.ref b), .val (.int (2 : Int32)), .val (.int ((0 : Int32) + (1 : Int32))), .val (.ref pg)]) rfl k) ?_
  show own_G _ _ _ _ (T9.setTop (mkF m 37 #[.val (.ref a1), .val (.ref b), .val (.int (2 : Int32)), .val (.int ((0 : Int32) + (1 : Int32))), .val (.ref pg)] []))
  refine own_st (fun _ k => XS.goto X9.here hx rfl (pc0 := 37) (pc' := 9) rfl (hb hby own_d_prog_8_m5_37) (by decide) (by decide) k) ?_
  show own_G _ _ _ _ (T9.setTop (mkF m 9 #[.val (.ref a1), .val (.ref b), .val (.int (2 : Int32)), .val (.int ((0 : Int32) + (1 : Int32))), .val (.ref pg)] []))
  rw [(show (0 : Int32) + (1 : Int32) = 1 from rfl)]
  show own_G _ _ _ _ (T9.setTop (mkF m 9 #[.val (.ref a1), .val (.ref b), .val (.int (2 : Int32)), .val (.int (1 : Int32)), .val (.ref pg)] []))
  refine own_st (fun _ k => XS.iloadN X9.here hx rfl (hb hby own_d_prog_8_m5_9) rfl k) ?_
  show own_G _ _ _ _ (T9.setTop (mkF m 10 #[.val (.ref a1), .val (.ref b), .val (.int (2 : Int32)), .val (.int (1 : Int32)), .val (.ref pg)] [(.int (1 : Int32))]))
  refine own_st (fun _ k => XS.iloadN X9.here hx rfl (hb hby own_d_prog_8_m5_10) rfl k) ?_
  show own_G _ _ _ _ (T9.setTop (mkF m 11 #[.val (.ref a1), .val (.ref b), .val (.int (2 : Int32)), .val (.int (1 : Int32)), .val (.ref pg)] [(.int (2 : Int32)), (.int (1 : Int32))]))
  refine own_st (fun _ k => XS.icmpNo X9.here hx rfl (hb hby own_d_prog_8_m5_11) rfl (tlt (by decide)).2.1 k) ?_
  show own_G _ _ _ _ (T9.setTop (mkF m 14 #[.val (.ref a1), .val (.ref b), .val (.int (2 : Int32)), .val (.int (1 : Int32)), .val (.ref pg)] []))
  refine own_st (fun _ k => XS.aloadN X9.here hx rfl (hb hby own_d_prog_8_m5_14) rfl rfl k) ?_
  show own_G _ _ _ _ (T9.setTop (mkF m 15 #[.val (.ref a1), .val (.ref b), .val (.int (2 : Int32)), .val (.int (1 : Int32)), .val (.ref pg)] [(.ref b)]))
  refine own_st (fun _ k => XS.iloadN X9.here hx rfl (hb hby own_d_prog_8_m5_15) rfl k) ?_
  show own_G _ _ _ _ (T9.setTop (mkF m 16 #[.val (.ref a1), .val (.ref b), .val (.int (2 : Int32)), .val (.int (1 : Int32)), .val (.ref pg)] [(.int (1 : Int32)), (.ref b)]))
  obtain ⟨cl11, Ar11, qk11, Sz11, Mz11, Hz11, Uz11⟩ := id V1
  refine own_st (X9.aaload hx (j := (1 : Int32)) (v := (.ref mb)) (by rw [eh9]; exact Ar11.1) (State.isArrayOf_alike hZ.alike Ar11.2.1) rfl Ar11.2.2 (inb_of Sz11 ⟨by decide, by decide⟩) (Has.at Hz11 (inb_of Sz11 ⟨by decide, by decide⟩) rfl) (g := (mkF m 16 #[.val (.ref a1), .val (.ref b), .val (.int (2 : Int32)), .val (.int (1 : Int32)), .val (.ref pg)] [(.int (1 : Int32)), (.ref b)])) rfl rfl (hb hby own_d_prog_8_m5_16)) ?_
  show own_G _ _ _ _ (T9.setTop (mkF m 17 #[.val (.ref a1), .val (.ref b), .val (.int (2 : Int32)), .val (.int (1 : Int32)), .val (.ref pg)] [(.ref mb)]))
  refine own_st (fun _ k => XS.astore X9.here hx rfl (hb hby own_d_prog_8_m5_17) rfl rfl (l' := #[.val (.ref a1), .val (.ref b), .val (.int (2 : Int32)), .val (.int (1 : Int32)), .val (.ref mb)]) rfl k) ?_
  show own_G _ _ _ _ (T9.setTop (mkF m 19 #[.val (.ref a1), .val (.ref b), .val (.int (2 : Int32)), .val (.int (1 : Int32)), .val (.ref mb)] []))
  refine own_st (fun _ k => XS.aload X9.here hx rfl (hb hby own_d_prog_8_m5_19) rfl rfl k) ?_
  show own_G _ _ _ _ (T9.setTop (mkF m 21 #[.val (.ref a1), .val (.ref b), .val (.int (2 : Int32)), .val (.int (1 : Int32)), .val (.ref mb)] [(.ref mb)]))
  have q12 : Fld Z T1.heap mb "com/example/limpet/limpet/jdbc/Dialect" "product" "Ljava/lang/String;" (.ref sm) := D7.ext O3.2
  obtain ⟨T13, X13, e13, st13⟩ := getF X9 hx hZ hown (host := "") (Or.inl (hw _ (List.mem_of_getElem? (i := 55) rfl))) Via.refl eh9 q12 (g := (mkF m 21 #[.val (.ref a1), .val (.ref b), .val (.int (2 : Int32)), .val (.int (1 : Int32)), .val (.ref mb)] [(.ref mb)])) rfl rfl (hb hby own_d_prog_8_m5_21)
  refine own_st st13 ?_
  show own_G _ _ _ _ (T13.setTop (mkF m 24 #[.val (.ref a1), .val (.ref b), .val (.int (2 : Int32)), .val (.int (1 : Int32)), .val (.ref mb)] [(.ref sm)]))
  refine own_st (fun _ k => XS.aloadN X13.here hx rfl (hb hby own_d_prog_8_m5_24) rfl rfl k) ?_
  show own_G _ _ _ _ (T13.setTop (mkF m 25 #[.val (.ref a1), .val (.ref b), .val (.int (2 : Int32)), .val (.int (1 : Int32)), .val (.ref mb)] [(.ref a1), (.ref sm)]))
  have q15 : Exa Z T1.heap sm "java/lang/String" := D9.1.ext O3.2
  obtain ⟨cq14, kq14, q14a, q14b, q14c⟩ := isOf hZ e13 q15
  obtain ⟨_, _, ⟨T14, L14, k14, n14⟩, -, X14, ⟨Lc14, hQ14, l14, y14, z14⟩, st14⟩ := X13.virtualBack hx (y := (⟨"java/lang/String", "equalsIgnoreCase", "(Ljava/lang/String;)Z"⟩ : MethodName)) (z := (⟨"java/lang/String", "equalsIgnoreCase", "(Ljava/lang/String;)Z"⟩ : MethodName)) hown (mvT hZ (hw _ (List.mem_of_getElem? (i := 57) rfl))) (mvT hZ (hw _ (List.mem_of_getElem? (i := 58) rfl))) (notFace_of_selects (args := #[]) (mvT hZ (hw _ (List.mem_of_getElem? (i := 60) rfl)))) (mvT hZ (hw _ (List.mem_of_getElem? (i := 60) rfl))) (mvT hZ (hw _ (List.mem_of_getElem? (i := 59) rfl))) (by decide) (own_back (rm := ({ frames := 3, cells := 0, slots := 0, locals := 60 } : Room)) (W := 0) (own_eicY l Z a0 hw [] sm a1 tm t km kt 7 gm b2 w1 T1.heap O3 (show @Ne Nat sm a1 by omega) (by decide) S1 hw1 (own_StrL_ext D9 O3.2) H2' he) hZ (hw _ (List.mem_of_getElem? (i := 61) rfl)) (hw _ (List.mem_of_getElem? (i := 7) rfl)) (by decide) (by decide)) q14a q14c (g := (mkF m 25 #[.val (.ref a1), .val (.ref b), .val (.int (2 : Int32)), .val (.int (1 : Int32)), .val (.ref mb)] [(.ref a1), (.ref sm)])) rfl (by rw [hml]; rfl) (Steps.refl _) (argsL := [(.ref a1)]) (rest := []) (lenOf own_pd276 rfl) rfl (by show 2 * 0 + _ ≤ _; exact Nat.le_of_eq rfl) (hb hby own_d_prog_8_m5_25) (fun _ _ => ⟨rfl, e13, (by decide : 0 + 1 + 0 + 0 ≤ _), (by decide : 0 + 2 + 0 + 0 ≤ _)⟩)
  dsimp only [Pt.U, Pt.locs, Pt.cells, Pt.slots] at X14 l14 y14 z14 st14 hQ14
  subst l14 y14 z14
  obtain ⟨rfl, N14q, eh14⟩ := hQ14
  have N14 := Fr.app N9 N14q
  refine own_tr st14 ?_
  show own_G _ _ _ _ (T14.setTop (mkF m 28 #[.val (.ref a1), .val (.ref b), .val (.int (2 : Int32)), .val (.int (1 : Int32)), .val (.ref mb)] [(.int (1 : Int32))]))
  refine own_st (fun _ k => XS.ifNo X14.here hx rfl (hb hby own_d_prog_8_m5_28) rfl ((if0 _ _).trans (feq (by decide)).1) k) ?_
  show own_G _ _ _ _ (T14.setTop (mkF m 31 #[.val (.ref a1), .val (.ref b), .val (.int (2 : Int32)), .val (.int (1 : Int32)), .val (.ref mb)] []))
  refine own_st (fun _ k => XS.aload X14.here hx rfl (hb hby own_d_prog_8_m5_31) rfl rfl k) ?_
  show own_G _ _ _ _ (T14.setTop (mkF m 33 #[.val (.ref a1), .val (.ref b), .val (.int (2 : Int32)), .val (.int (1 : Int32)), .val (.ref mb)] [(.ref mb)]))
  exact own_retA X14 hx hret rfl rfl hlk (hb hby own_d_prog_8_m5_33) (by rw [eh14]; exact ⟨rfl, N14, K4⟩) (by decide) (by decide)
def own_gp (j : Nat) : Int32 := ([80, 111, 115, 116, 103, 114, 101, 83, 81, 76] : List Int32).getD j 0
def own_gm (j : Nat) : Int32 := ([77, 97, 114, 105, 97, 68, 66] : List Int32).getD j 0
def own_fl (l : List Int32) (j : Nat) : Int32 := nar .char (l.getD j 0)
theorem own_pd295 : parseMethodDescriptor "(CII)C" = some ⟨[.char, .int, .int], some .char⟩ := by decide +kernel
theorem own_pd364 : parseMethodDescriptor "([C)V" = some ⟨[(.array .char)], none⟩ := by decide +kernel
theorem own_pd366 : parseMethodDescriptor "(Ljava/lang/String;)Lcom/example/limpet/limpet/jdbc/Dialect;" = some ⟨[(.object "java/lang/String")], some (.object "com/example/limpet/limpet/jdbc/Dialect")⟩ := by decide +kernel
set_option maxRecDepth 65536 in
set_option maxHeartbeats 40000000 in
theorem own_law (l : Launch) (Z : State) (a0 : Array Value) (hw : ∀ d ∈ tables_1, d.before a0 Z = true) (ws : List Jvm.Cond) (p0 : Int32) (p1 : Int32) (va pg mb sp sm tp tm : Addr) (kv kp km : ClassId) (w1 : Int32) (h0 : Heap) (O0 : Old Z Z.heap.size h0) (HD : own_D Z va pg mb sp sm tp tm kv kp km own_gp own_gm) (S1 : Sta Z Z.heap "java/lang/String" "COMPACT_STRINGS" "Z" (.int w1)) (hw1 : ¬ (w1 = (0 : Int32))) :
    own_Met l Z x code maxLocals ret ws room_1 #[(.int p0), (.int p1)] h0 (fun v h L => v = some (.int 1) ∧ Fr Z.heap.size L) 16 128 := by
  refine own_body (ef := fun m => mkF m 0 #[.val (.int p0), .val (.int p1), .unset, .unset] []) (plainFor_of_name own_pn96) (fun m => by first | rfl | (simp [entryFrame, mkF, argsToLocals, Value.category, maxLocals]; done)) ?_
  intro p e s m below meth c T0 hx hZ hby hml hown hnm hret hlk X0 e0
  have N0 := Fr.nil Z.heap.size
  have z0 : Z.heap.size ≤ h0.size := O0.2.1
  have Kr := Keep.refl h0 []
  show own_G _ _ _ _ (T0.setTop (mkF m 0 #[.val (.int p0), .val (.int p1), .unset, .unset] []))
  obtain ⟨D1, D2, D3, D4, D5, D6, D7, D8, D9⟩ := id HD
  refine own_st (fun _ k => XS.iloadN X0.here hx rfl (hb hby at_0) rfl k) ?_
  show own_G _ _ _ _ (T0.setTop (mkF m 1 #[.val (.int p0), .val (.int p1), .unset, .unset] [(.int p0)]))
  refine own_st (fun _ k => XS.iconst X0.here hx rfl (hb hby at_1) k) ?_
  show own_G _ _ _ _ (T0.setTop (mkF m 2 #[.val (.int p0), .val (.int p1), .unset, .unset] [(.int (1 : Int32)), (.int p0)]))
  refine own_st (fun _ k => XS.iand X0.here hx rfl (hb hby at_2) rfl k) ?_
  show own_G _ _ _ _ (T0.setTop (mkF m 3 #[.val (.int p0), .val (.int p1), .unset, .unset] [(.int (p0 &&& (1 : Int32)))]))
  by_cases h1 : (p0 &&& (1 : Int32)) = (0 : Int32)
  · show own_G _ _ _ _ (T0.setTop (mkF m 3 #[.val (.int p0), .val (.int p1), .unset, .unset] [(.int (p0 &&& (1 : Int32)))]))
    refine own_st (fun _ k => XS.ifNo X0.here hx rfl (hb hby at_3) rfl ((if0 _ _).trans (teq h1).2) k) ?_
    show own_G _ _ _ _ (T0.setTop (mkF m 6 #[.val (.int p0), .val (.int p1), .unset, .unset] []))
    refine own_st (fun _ k => XS.bipush X0.here hx rfl (hb hby at_6) k) ?_
    show own_G _ _ _ _ (T0.setTop (mkF m 8 #[.val (.int p0), .val (.int p1), .unset, .unset] [(.int (10 : Int32))]))
    obtain ⟨T1, h1, k1, X1, e1, E1, A1, st1⟩ := newP X0 hx hZ (hw _ (List.mem_of_getElem? (i := 0) rfl)) e0 (g := (mkF m 8 #[.val (.int p0), .val (.int p1), .unset, .unset] [(.int (10 : Int32))])) rfl (hb hby at_8) rfl (by decide) (cap := 10) (by decide) (by decide) (by decide) (by decide)
    obtain ⟨b1, g1⟩ : ∃ z, z = h0.size := ⟨_, rfl⟩
    rw [← g1] at A1 st1
    refine own_st st1 ?_
    have z2 : h0.size ≤ h1.size := E1.1
    have O3 := Old.ext O0 E1
    have K4 : Keep h0 h1 [] := Kr.ext E1
    have V1 : Arv Z h1 b1 k1 .char (10 : Int32) [(.int (0 : Int32)), (.int (0 : Int32)), (.int (0 : Int32)), (.int (0 : Int32)), (.int (0 : Int32)), (.int (0 : Int32)), (.int (0 : Int32)), (.int (0 : Int32)), (.int (0 : Int32)), (.int (0 : Int32))] (.int (0 : Int32)) := (Arv.new A1 (by decide)).pad (pad_rep [] (.int (0 : Int32)) 10)
    have lt1 := own_ltN A1.lt
    show own_G _ _ _ _ (T1.setTop (mkF m 10 #[.val (.int p0), .val (.int p1), .unset, .unset] [(.ref b1)]))
    refine own_st (fun _ k => XS.astoreN X1.here hx rfl (hb hby at_10) rfl rfl (l' := #[.val (.int p0), .val (.int p1), .val (.ref b1), .unset]) rfl k) ?_
    show own_G _ _ _ _ (T1.setTop (mkF m 11 #[.val (.int p0), .val (.int p1), .val (.ref b1), .unset] []))
    refine own_st (fun _ k => XS.aloadN X1.here hx rfl (hb hby at_11) rfl rfl k) ?_
    show own_G _ _ _ _ (T1.setTop (mkF m 12 #[.val (.int p0), .val (.int p1), .val (.ref b1), .unset] [(.ref b1)]))
    refine own_st (fun _ k => XS.iconst X1.here hx rfl (hb hby at_12) k) ?_
    show own_G _ _ _ _ (T1.setTop (mkF m 13 #[.val (.int p0), .val (.int p1), .val (.ref b1), .unset] [(.int (0 : Int32)), (.ref b1)]))
    refine own_st (fun _ k => XS.bipush X1.here hx rfl (hb hby at_13) k) ?_
    show own_G _ _ _ _ (T1.setTop (mkF m 15 #[.val (.int p0), .val (.int p1), .val (.ref b1), .unset] [(.int (80 : Int32)), (.int (0 : Int32)), (.ref b1)]))
    refine own_st (fun _ k => XS.iloadN X1.here hx rfl (hb hby at_15) rfl k) ?_
    show own_G _ _ _ _ (T1.setTop (mkF m 16 #[.val (.int p0), .val (.int p1), .val (.ref b1), .unset] [(.int p1), (.int (80 : Int32)), (.int (0 : Int32)), (.ref b1)]))
    refine own_st (fun _ k => XS.iconst X1.here hx rfl (hb hby at_16) k) ?_
    show own_G _ _ _ _ (T1.setTop (mkF m 17 #[.val (.int p0), .val (.int p1), .val (.ref b1), .unset] [(.int (0 : Int32)), (.int p1), (.int (80 : Int32)), (.int (0 : Int32)), (.ref b1)]))
    obtain ⟨_, _, ⟨T5, L5, k5, n5⟩, -, X5, ⟨Lc5, hQ5, l5, y5, z5⟩, st5⟩ := Jvm.LawKit.callS X1 hx (y := (⟨"com/example/limpet/limpet/jdbc/DialectOfProductPinLaw", "c", "(CII)C"⟩ : MethodName)) hown (mvT hZ (hw _ (List.mem_of_getElem? (i := 1) rfl))) (mvT hZ (hw _ (List.mem_of_getElem? (i := 2) rfl))) (mvT hZ (hw _ (List.mem_of_getElem? (i := 3) rfl))) (mvT hZ (hw _ (List.mem_of_getElem? (i := 4) rfl))) (by decide) (own_back (rm := ({ frames := 0, cells := 0, slots := 0, locals := 0 } : Room)) (W := 2) (own_c l Z a0 hw [] (80 : Int32) p1 (0 : Int32) (112 : Int32) h1 O3 rfl (Or.inr ⟨by decide, by decide, by decide, rfl⟩)) hZ (hw _ (List.mem_of_getElem? (i := 4) rfl)) (hw _ (List.mem_of_getElem? (i := 3) rfl)) (by decide) (by decide)) (g := (mkF m 17 #[.val (.int p0), .val (.int p1), .val (.ref b1), .unset] [(.int (0 : Int32)), (.int p1), (.int (80 : Int32)), (.int (0 : Int32)), (.ref b1)])) rfl (by rw [hml]; rfl) (argsL := [(.int (80 : Int32)), (.int p1), (.int (0 : Int32))]) (rest := [(.int (0 : Int32)), (.ref b1)]) (lenOf own_pd295 rfl) rfl (by show 2 * 0 + _ ≤ _; exact Nat.le_of_eq rfl) (hb hby at_17) (fun _ _ => ⟨rfl, e1, (by decide : 0 + 1 + 0 ≤ _), (by decide : 0 + 10 + 0 ≤ _)⟩)
    dsimp only [Pt.U, Pt.locs, Pt.cells, Pt.slots] at X5 l5 y5 z5 st5 hQ5
    subst l5 y5 z5
    obtain ⟨r5, rfl, N5q, eh5, c5⟩ := hQ5
    have N5 := Fr.app N0 N5q
    refine own_st st5 ?_
    show own_G _ _ _ _ (T5.setTop (mkF m 20 #[.val (.int p0), .val (.int p1), .val (.ref b1), .unset] [(.int r5), (.int (0 : Int32)), (.ref b1)]))
    obtain ⟨cl6, Ar6, qk6, Sz6, Mz6, Hz6, Uz6⟩ := id V1
    obtain ⟨T7, h7, X7, e7, W7, st7⟩ := stC X5 hx hZ eh5 Ar6 (j := (0 : Int32)) (inb_of Sz6 ⟨by decide, by decide⟩) (g := (mkF m 20 #[.val (.int p0), .val (.int p1), .val (.ref b1), .unset] [(.int r5), (.int (0 : Int32)), (.ref b1)])) rfl rfl (hb hby at_20)
    refine own_st st7 ?_
    have V7 := Arv.set Ar6 qk6 Sz6 Mz6 Hz6 Uz6 (fits_nar_char _) W7 0 rfl (Nat.le_of_ble_eq_true rfl)
    have z8 : h7.size = h1.size := W7.size
    have O9 := Old.wr O3 W7 (by omega)
    have K10 : Keep h0 h7 [] := K4.wr W7 (Or.inr (by omega))
    have N7 := Fr.snoc X7 N5 (by omega : Z.heap.size ≤ b1)
    have V7' : Arv Z h7 b1 k1 .char (10 : Int32) [(.int (nar .char r5)), (.int (0 : Int32)), (.int (0 : Int32)), (.int (0 : Int32)), (.int (0 : Int32)), (.int (0 : Int32)), (.int (0 : Int32)), (.int (0 : Int32)), (.int (0 : Int32)), (.int (0 : Int32))] (.int (0 : Int32)) := V7
    show own_G _ _ _ _ (T7.setTop (mkF m 21 #[.val (.int p0), .val (.int p1), .val (.ref b1), .unset] []))
    refine own_st (fun _ k => XS.aloadN X7.here hx rfl (hb hby at_21) rfl rfl k) ?_
    show own_G _ _ _ _ (T7.setTop (mkF m 22 #[.val (.int p0), .val (.int p1), .val (.ref b1), .unset] [(.ref b1)]))
    refine own_st (fun _ k => XS.iconst X7.here hx rfl (hb hby at_22) k) ?_
    show own_G _ _ _ _ (T7.setTop (mkF m 23 #[.val (.int p0), .val (.int p1), .val (.ref b1), .unset] [(.int (1 : Int32)), (.ref b1)]))
    refine own_st (fun _ k => XS.bipush X7.here hx rfl (hb hby at_23) k) ?_
    show own_G _ _ _ _ (T7.setTop (mkF m 25 #[.val (.int p0), .val (.int p1), .val (.ref b1), .unset] [(.int (111 : Int32)), (.int (1 : Int32)), (.ref b1)]))
    refine own_st (fun _ k => XS.iloadN X7.here hx rfl (hb hby at_25) rfl k) ?_
    show own_G _ _ _ _ (T7.setTop (mkF m 26 #[.val (.int p0), .val (.int p1), .val (.ref b1), .unset] [(.int p1), (.int (111 : Int32)), (.int (1 : Int32)), (.ref b1)]))
    refine own_st (fun _ k => XS.iconst X7.here hx rfl (hb hby at_26) k) ?_
    show own_G _ _ _ _ (T7.setTop (mkF m 27 #[.val (.int p0), .val (.int p1), .val (.ref b1), .unset] [(.int (1 : Int32)), (.int p1), (.int (111 : Int32)), (.int (1 : Int32)), (.ref b1)]))
    obtain ⟨_, _, ⟨T11, L11, k11, n11⟩, -, X11, ⟨Lc11, hQ11, l11, y11, z11⟩, st11⟩ := Jvm.LawKit.callS X7 hx (y := (⟨"com/example/limpet/limpet/jdbc/DialectOfProductPinLaw", "c", "(CII)C"⟩ : MethodName)) hown (mvT hZ (hw _ (List.mem_of_getElem? (i := 1) rfl))) (mvT hZ (hw _ (List.mem_of_getElem? (i := 2) rfl))) (mvT hZ (hw _ (List.mem_of_getElem? (i := 3) rfl))) (mvT hZ (hw _ (List.mem_of_getElem? (i := 4) rfl))) (by decide) (own_back (rm := ({ frames := 0, cells := 0, slots := 0, locals := 0 } : Room)) (W := 2) (own_c l Z a0 hw [] (111 : Int32) p1 (1 : Int32) (79 : Int32) h7 O9 rfl (Or.inl ⟨by decide, by decide, rfl⟩)) hZ (hw _ (List.mem_of_getElem? (i := 4) rfl)) (hw _ (List.mem_of_getElem? (i := 3) rfl)) (by decide) (by decide)) (g := (mkF m 27 #[.val (.int p0), .val (.int p1), .val (.ref b1), .unset] [(.int (1 : Int32)), (.int p1), (.int (111 : Int32)), (.int (1 : Int32)), (.ref b1)])) rfl (by rw [hml]; rfl) (argsL := [(.int (111 : Int32)), (.int p1), (.int (1 : Int32))]) (rest := [(.int (1 : Int32)), (.ref b1)]) (lenOf own_pd295 rfl) rfl (by show 2 * 0 + _ ≤ _; exact Nat.le_of_eq rfl) (hb hby at_27) (fun _ _ => ⟨rfl, e7, (by decide : 0 + 1 + 0 + 0 ≤ _), (by decide : 0 + 10 + 0 + 0 ≤ _)⟩)
    dsimp only [Pt.U, Pt.locs, Pt.cells, Pt.slots] at X11 l11 y11 z11 st11 hQ11
    subst l11 y11 z11
    obtain ⟨r11, rfl, N11q, eh11, c11⟩ := hQ11
    have N11 := Fr.app N7 N11q
    refine own_st st11 ?_
    show own_G _ _ _ _ (T11.setTop (mkF m 30 #[.val (.int p0), .val (.int p1), .val (.ref b1), .unset] [(.int r11), (.int (1 : Int32)), (.ref b1)]))
    obtain ⟨cl12, Ar12, qk12, Sz12, Mz12, Hz12, Uz12⟩ := id V7'
    obtain ⟨T13, h13, X13, e13, W13, st13⟩ := stC X11 hx hZ eh11 Ar12 (j := (1 : Int32)) (inb_of Sz12 ⟨by decide, by decide⟩) (g := (mkF m 30 #[.val (.int p0), .val (.int p1), .val (.ref b1), .unset] [(.int r11), (.int (1 : Int32)), (.ref b1)])) rfl rfl (hb hby at_30)
    refine own_st st13 ?_
    have V13 := Arv.set Ar12 qk12 Sz12 Mz12 Hz12 Uz12 (fits_nar_char _) W13 1 rfl (Nat.le_of_ble_eq_true rfl)
    have z14 : h13.size = h7.size := W13.size
    have O15 := Old.wr O9 W13 (by omega)
    have K16 : Keep h0 h13 [] := K10.wr W13 (Or.inr (by omega))
    have N13 := Fr.snoc X13 N11 (by omega : Z.heap.size ≤ b1)
    have V13' : Arv Z h13 b1 k1 .char (10 : Int32) [(.int (nar .char r5)), (.int (nar .char r11)), (.int (0 : Int32)), (.int (0 : Int32)), (.int (0 : Int32)), (.int (0 : Int32)), (.int (0 : Int32)), (.int (0 : Int32)), (.int (0 : Int32)), (.int (0 : Int32))] (.int (0 : Int32)) := V13
    show own_G _ _ _ _ (T13.setTop (mkF m 31 #[.val (.int p0), .val (.int p1), .val (.ref b1), .unset] []))
    refine own_st (fun _ k => XS.aloadN X13.here hx rfl (hb hby at_31) rfl rfl k) ?_
    show own_G _ _ _ _ (T13.setTop (mkF m 32 #[.val (.int p0), .val (.int p1), .val (.ref b1), .unset] [(.ref b1)]))
    refine own_st (fun _ k => XS.iconst X13.here hx rfl (hb hby at_32) k) ?_
    show own_G _ _ _ _ (T13.setTop (mkF m 33 #[.val (.int p0), .val (.int p1), .val (.ref b1), .unset] [(.int (2 : Int32)), (.ref b1)]))
    refine own_st (fun _ k => XS.bipush X13.here hx rfl (hb hby at_33) k) ?_
    show own_G _ _ _ _ (T13.setTop (mkF m 35 #[.val (.int p0), .val (.int p1), .val (.ref b1), .unset] [(.int (115 : Int32)), (.int (2 : Int32)), (.ref b1)]))
    refine own_st (fun _ k => XS.iloadN X13.here hx rfl (hb hby at_35) rfl k) ?_
    show own_G _ _ _ _ (T13.setTop (mkF m 36 #[.val (.int p0), .val (.int p1), .val (.ref b1), .unset] [(.int p1), (.int (115 : Int32)), (.int (2 : Int32)), (.ref b1)]))
    refine own_st (fun _ k => XS.iconst X13.here hx rfl (hb hby at_36) k) ?_
    show own_G _ _ _ _ (T13.setTop (mkF m 37 #[.val (.int p0), .val (.int p1), .val (.ref b1), .unset] [(.int (2 : Int32)), (.int p1), (.int (115 : Int32)), (.int (2 : Int32)), (.ref b1)]))
    obtain ⟨_, _, ⟨T17, L17, k17, n17⟩, -, X17, ⟨Lc17, hQ17, l17, y17, z17⟩, st17⟩ := Jvm.LawKit.callS X13 hx (y := (⟨"com/example/limpet/limpet/jdbc/DialectOfProductPinLaw", "c", "(CII)C"⟩ : MethodName)) hown (mvT hZ (hw _ (List.mem_of_getElem? (i := 1) rfl))) (mvT hZ (hw _ (List.mem_of_getElem? (i := 2) rfl))) (mvT hZ (hw _ (List.mem_of_getElem? (i := 3) rfl))) (mvT hZ (hw _ (List.mem_of_getElem? (i := 4) rfl))) (by decide) (own_back (rm := ({ frames := 0, cells := 0, slots := 0, locals := 0 } : Room)) (W := 2) (own_c l Z a0 hw [] (115 : Int32) p1 (2 : Int32) (83 : Int32) h13 O15 rfl (Or.inl ⟨by decide, by decide, rfl⟩)) hZ (hw _ (List.mem_of_getElem? (i := 4) rfl)) (hw _ (List.mem_of_getElem? (i := 3) rfl)) (by decide) (by decide)) (g := (mkF m 37 #[.val (.int p0), .val (.int p1), .val (.ref b1), .unset] [(.int (2 : Int32)), (.int p1), (.int (115 : Int32)), (.int (2 : Int32)), (.ref b1)])) rfl (by rw [hml]; rfl) (argsL := [(.int (115 : Int32)), (.int p1), (.int (2 : Int32))]) (rest := [(.int (2 : Int32)), (.ref b1)]) (lenOf own_pd295 rfl) rfl (by show 2 * 0 + _ ≤ _; exact Nat.le_of_eq rfl) (hb hby at_37) (fun _ _ => ⟨rfl, e13, (by decide : 0 + 1 + 0 + 0 + 0 ≤ _), (by decide : 0 + 10 + 0 + 0 + 0 ≤ _)⟩)
    dsimp only [Pt.U, Pt.locs, Pt.cells, Pt.slots] at X17 l17 y17 z17 st17 hQ17
    subst l17 y17 z17
    obtain ⟨r17, rfl, N17q, eh17, c17⟩ := hQ17
    have N17 := Fr.app N13 N17q
    refine own_st st17 ?_
    show own_G _ _ _ _ (T17.setTop (mkF m 40 #[.val (.int p0), .val (.int p1), .val (.ref b1), .unset] [(.int r17), (.int (2 : Int32)), (.ref b1)]))
    obtain ⟨cl18, Ar18, qk18, Sz18, Mz18, Hz18, Uz18⟩ := id V13'
    obtain ⟨T19, h19, X19, e19, W19, st19⟩ := stC X17 hx hZ eh17 Ar18 (j := (2 : Int32)) (inb_of Sz18 ⟨by decide, by decide⟩) (g := (mkF m 40 #[.val (.int p0), .val (.int p1), .val (.ref b1), .unset] [(.int r17), (.int (2 : Int32)), (.ref b1)])) rfl rfl (hb hby at_40)
    refine own_st st19 ?_
    have V19 := Arv.set Ar18 qk18 Sz18 Mz18 Hz18 Uz18 (fits_nar_char _) W19 2 rfl (Nat.le_of_ble_eq_true rfl)
    have z20 : h19.size = h13.size := W19.size
    have O21 := Old.wr O15 W19 (by omega)
    have K22 : Keep h0 h19 [] := K16.wr W19 (Or.inr (by omega))
    have N19 := Fr.snoc X19 N17 (by omega : Z.heap.size ≤ b1)
    have V19' : Arv Z h19 b1 k1 .char (10 : Int32) [(.int (nar .char r5)), (.int (nar .char r11)), (.int (nar .char r17)), (.int (0 : Int32)), (.int (0 : Int32)), (.int (0 : Int32)), (.int (0 : Int32)), (.int (0 : Int32)), (.int (0 : Int32)), (.int (0 : Int32))] (.int (0 : Int32)) := V19
    show own_G _ _ _ _ (T19.setTop (mkF m 41 #[.val (.int p0), .val (.int p1), .val (.ref b1), .unset] []))
    refine own_st (fun _ k => XS.aloadN X19.here hx rfl (hb hby at_41) rfl rfl k) ?_
    show own_G _ _ _ _ (T19.setTop (mkF m 42 #[.val (.int p0), .val (.int p1), .val (.ref b1), .unset] [(.ref b1)]))
    refine own_st (fun _ k => XS.iconst X19.here hx rfl (hb hby at_42) k) ?_
    show own_G _ _ _ _ (T19.setTop (mkF m 43 #[.val (.int p0), .val (.int p1), .val (.ref b1), .unset] [(.int (3 : Int32)), (.ref b1)]))
    refine own_st (fun _ k => XS.bipush X19.here hx rfl (hb hby at_43) k) ?_
    show own_G _ _ _ _ (T19.setTop (mkF m 45 #[.val (.int p0), .val (.int p1), .val (.ref b1), .unset] [(.int (116 : Int32)), (.int (3 : Int32)), (.ref b1)]))
    refine own_st (fun _ k => XS.iloadN X19.here hx rfl (hb hby at_45) rfl k) ?_
    show own_G _ _ _ _ (T19.setTop (mkF m 46 #[.val (.int p0), .val (.int p1), .val (.ref b1), .unset] [(.int p1), (.int (116 : Int32)), (.int (3 : Int32)), (.ref b1)]))
    refine own_st (fun _ k => XS.iconst X19.here hx rfl (hb hby at_46) k) ?_
    show own_G _ _ _ _ (T19.setTop (mkF m 47 #[.val (.int p0), .val (.int p1), .val (.ref b1), .unset] [(.int (3 : Int32)), (.int p1), (.int (116 : Int32)), (.int (3 : Int32)), (.ref b1)]))
    obtain ⟨_, _, ⟨T23, L23, k23, n23⟩, -, X23, ⟨Lc23, hQ23, l23, y23, z23⟩, st23⟩ := Jvm.LawKit.callS X19 hx (y := (⟨"com/example/limpet/limpet/jdbc/DialectOfProductPinLaw", "c", "(CII)C"⟩ : MethodName)) hown (mvT hZ (hw _ (List.mem_of_getElem? (i := 1) rfl))) (mvT hZ (hw _ (List.mem_of_getElem? (i := 2) rfl))) (mvT hZ (hw _ (List.mem_of_getElem? (i := 3) rfl))) (mvT hZ (hw _ (List.mem_of_getElem? (i := 4) rfl))) (by decide) (own_back (rm := ({ frames := 0, cells := 0, slots := 0, locals := 0 } : Room)) (W := 2) (own_c l Z a0 hw [] (116 : Int32) p1 (3 : Int32) (84 : Int32) h19 O21 rfl (Or.inl ⟨by decide, by decide, rfl⟩)) hZ (hw _ (List.mem_of_getElem? (i := 4) rfl)) (hw _ (List.mem_of_getElem? (i := 3) rfl)) (by decide) (by decide)) (g := (mkF m 47 #[.val (.int p0), .val (.int p1), .val (.ref b1), .unset] [(.int (3 : Int32)), (.int p1), (.int (116 : Int32)), (.int (3 : Int32)), (.ref b1)])) rfl (by rw [hml]; rfl) (argsL := [(.int (116 : Int32)), (.int p1), (.int (3 : Int32))]) (rest := [(.int (3 : Int32)), (.ref b1)]) (lenOf own_pd295 rfl) rfl (by show 2 * 0 + _ ≤ _; exact Nat.le_of_eq rfl) (hb hby at_47) (fun _ _ => ⟨rfl, e19, (by decide : 0 + 1 + 0 + 0 + 0 + 0 ≤ _), (by decide : 0 + 10 + 0 + 0 + 0 + 0 ≤ _)⟩)
    dsimp only [Pt.U, Pt.locs, Pt.cells, Pt.slots] at X23 l23 y23 z23 st23 hQ23
    subst l23 y23 z23
    obtain ⟨r23, rfl, N23q, eh23, c23⟩ := hQ23
    have N23 := Fr.app N19 N23q
    refine own_st st23 ?_
    show own_G _ _ _ _ (T23.setTop (mkF m 50 #[.val (.int p0), .val (.int p1), .val (.ref b1), .unset] [(.int r23), (.int (3 : Int32)), (.ref b1)]))
    obtain ⟨cl24, Ar24, qk24, Sz24, Mz24, Hz24, Uz24⟩ := id V19'
    obtain ⟨T25, h25, X25, e25, W25, st25⟩ := stC X23 hx hZ eh23 Ar24 (j := (3 : Int32)) (inb_of Sz24 ⟨by decide, by decide⟩) (g := (mkF m 50 #[.val (.int p0), .val (.int p1), .val (.ref b1), .unset] [(.int r23), (.int (3 : Int32)), (.ref b1)])) rfl rfl (hb hby at_50)
    refine own_st st25 ?_
    have V25 := Arv.set Ar24 qk24 Sz24 Mz24 Hz24 Uz24 (fits_nar_char _) W25 3 rfl (Nat.le_of_ble_eq_true rfl)
    have z26 : h25.size = h19.size := W25.size
    have O27 := Old.wr O21 W25 (by omega)
    have K28 : Keep h0 h25 [] := K22.wr W25 (Or.inr (by omega))
    have N25 := Fr.snoc X25 N23 (by omega : Z.heap.size ≤ b1)
    have V25' : Arv Z h25 b1 k1 .char (10 : Int32) [(.int (nar .char r5)), (.int (nar .char r11)), (.int (nar .char r17)), (.int (nar .char r23)), (.int (0 : Int32)), (.int (0 : Int32)), (.int (0 : Int32)), (.int (0 : Int32)), (.int (0 : Int32)), (.int (0 : Int32))] (.int (0 : Int32)) := V25
    show own_G _ _ _ _ (T25.setTop (mkF m 51 #[.val (.int p0), .val (.int p1), .val (.ref b1), .unset] []))
    refine own_st (fun _ k => XS.aloadN X25.here hx rfl (hb hby at_51) rfl rfl k) ?_
    show own_G _ _ _ _ (T25.setTop (mkF m 52 #[.val (.int p0), .val (.int p1), .val (.ref b1), .unset] [(.ref b1)]))
    refine own_st (fun _ k => XS.iconst X25.here hx rfl (hb hby at_52) k) ?_
    show own_G _ _ _ _ (T25.setTop (mkF m 53 #[.val (.int p0), .val (.int p1), .val (.ref b1), .unset] [(.int (4 : Int32)), (.ref b1)]))
    refine own_st (fun _ k => XS.bipush X25.here hx rfl (hb hby at_53) k) ?_
    show own_G _ _ _ _ (T25.setTop (mkF m 55 #[.val (.int p0), .val (.int p1), .val (.ref b1), .unset] [(.int (103 : Int32)), (.int (4 : Int32)), (.ref b1)]))
    refine own_st (fun _ k => XS.iloadN X25.here hx rfl (hb hby at_55) rfl k) ?_
    show own_G _ _ _ _ (T25.setTop (mkF m 56 #[.val (.int p0), .val (.int p1), .val (.ref b1), .unset] [(.int p1), (.int (103 : Int32)), (.int (4 : Int32)), (.ref b1)]))
    refine own_st (fun _ k => XS.iconst X25.here hx rfl (hb hby at_56) k) ?_
    show own_G _ _ _ _ (T25.setTop (mkF m 57 #[.val (.int p0), .val (.int p1), .val (.ref b1), .unset] [(.int (4 : Int32)), (.int p1), (.int (103 : Int32)), (.int (4 : Int32)), (.ref b1)]))
    obtain ⟨_, _, ⟨T29, L29, k29, n29⟩, -, X29, ⟨Lc29, hQ29, l29, y29, z29⟩, st29⟩ := Jvm.LawKit.callS X25 hx (y := (⟨"com/example/limpet/limpet/jdbc/DialectOfProductPinLaw", "c", "(CII)C"⟩ : MethodName)) hown (mvT hZ (hw _ (List.mem_of_getElem? (i := 1) rfl))) (mvT hZ (hw _ (List.mem_of_getElem? (i := 2) rfl))) (mvT hZ (hw _ (List.mem_of_getElem? (i := 3) rfl))) (mvT hZ (hw _ (List.mem_of_getElem? (i := 4) rfl))) (by decide) (own_back (rm := ({ frames := 0, cells := 0, slots := 0, locals := 0 } : Room)) (W := 2) (own_c l Z a0 hw [] (103 : Int32) p1 (4 : Int32) (71 : Int32) h25 O27 rfl (Or.inl ⟨by decide, by decide, rfl⟩)) hZ (hw _ (List.mem_of_getElem? (i := 4) rfl)) (hw _ (List.mem_of_getElem? (i := 3) rfl)) (by decide) (by decide)) (g := (mkF m 57 #[.val (.int p0), .val (.int p1), .val (.ref b1), .unset] [(.int (4 : Int32)), (.int p1), (.int (103 : Int32)), (.int (4 : Int32)), (.ref b1)])) rfl (by rw [hml]; rfl) (argsL := [(.int (103 : Int32)), (.int p1), (.int (4 : Int32))]) (rest := [(.int (4 : Int32)), (.ref b1)]) (lenOf own_pd295 rfl) rfl (by show 2 * 0 + _ ≤ _; exact Nat.le_of_eq rfl) (hb hby at_57) (fun _ _ => ⟨rfl, e25, (by decide : 0 + 1 + 0 + 0 + 0 + 0 + 0 ≤ _), (by decide : 0 + 10 + 0 + 0 + 0 + 0 + 0 ≤ _)⟩)
    dsimp only [Pt.U, Pt.locs, Pt.cells, Pt.slots] at X29 l29 y29 z29 st29 hQ29
    subst l29 y29 z29
    obtain ⟨r29, rfl, N29q, eh29, c29⟩ := hQ29
    have N29 := Fr.app N25 N29q
    refine own_st st29 ?_
    show own_G _ _ _ _ (T29.setTop (mkF m 60 #[.val (.int p0), .val (.int p1), .val (.ref b1), .unset] [(.int r29), (.int (4 : Int32)), (.ref b1)]))
    obtain ⟨cl30, Ar30, qk30, Sz30, Mz30, Hz30, Uz30⟩ := id V25'
    obtain ⟨T31, h31, X31, e31, W31, st31⟩ := stC X29 hx hZ eh29 Ar30 (j := (4 : Int32)) (inb_of Sz30 ⟨by decide, by decide⟩) (g := (mkF m 60 #[.val (.int p0), .val (.int p1), .val (.ref b1), .unset] [(.int r29), (.int (4 : Int32)), (.ref b1)])) rfl rfl (hb hby at_60)
    refine own_st st31 ?_
    have V31 := Arv.set Ar30 qk30 Sz30 Mz30 Hz30 Uz30 (fits_nar_char _) W31 4 rfl (Nat.le_of_ble_eq_true rfl)
    have z32 : h31.size = h25.size := W31.size
    have O33 := Old.wr O27 W31 (by omega)
    have K34 : Keep h0 h31 [] := K28.wr W31 (Or.inr (by omega))
    have N31 := Fr.snoc X31 N29 (by omega : Z.heap.size ≤ b1)
    have V31' : Arv Z h31 b1 k1 .char (10 : Int32) [(.int (nar .char r5)), (.int (nar .char r11)), (.int (nar .char r17)), (.int (nar .char r23)), (.int (nar .char r29)), (.int (0 : Int32)), (.int (0 : Int32)), (.int (0 : Int32)), (.int (0 : Int32)), (.int (0 : Int32))] (.int (0 : Int32)) := V31
    show own_G _ _ _ _ (T31.setTop (mkF m 61 #[.val (.int p0), .val (.int p1), .val (.ref b1), .unset] []))
    refine own_st (fun _ k => XS.aloadN X31.here hx rfl (hb hby at_61) rfl rfl k) ?_
    show own_G _ _ _ _ (T31.setTop (mkF m 62 #[.val (.int p0), .val (.int p1), .val (.ref b1), .unset] [(.ref b1)]))
    refine own_st (fun _ k => XS.iconst X31.here hx rfl (hb hby at_62) k) ?_
    show own_G _ _ _ _ (T31.setTop (mkF m 63 #[.val (.int p0), .val (.int p1), .val (.ref b1), .unset] [(.int (5 : Int32)), (.ref b1)]))
    refine own_st (fun _ k => XS.bipush X31.here hx rfl (hb hby at_63) k) ?_
    show own_G _ _ _ _ (T31.setTop (mkF m 65 #[.val (.int p0), .val (.int p1), .val (.ref b1), .unset] [(.int (114 : Int32)), (.int (5 : Int32)), (.ref b1)]))
    refine own_st (fun _ k => XS.iloadN X31.here hx rfl (hb hby at_65) rfl k) ?_
    show own_G _ _ _ _ (T31.setTop (mkF m 66 #[.val (.int p0), .val (.int p1), .val (.ref b1), .unset] [(.int p1), (.int (114 : Int32)), (.int (5 : Int32)), (.ref b1)]))
    refine own_st (fun _ k => XS.iconst X31.here hx rfl (hb hby at_66) k) ?_
    show own_G _ _ _ _ (T31.setTop (mkF m 67 #[.val (.int p0), .val (.int p1), .val (.ref b1), .unset] [(.int (5 : Int32)), (.int p1), (.int (114 : Int32)), (.int (5 : Int32)), (.ref b1)]))
    obtain ⟨_, _, ⟨T35, L35, k35, n35⟩, -, X35, ⟨Lc35, hQ35, l35, y35, z35⟩, st35⟩ := Jvm.LawKit.callS X31 hx (y := (⟨"com/example/limpet/limpet/jdbc/DialectOfProductPinLaw", "c", "(CII)C"⟩ : MethodName)) hown (mvT hZ (hw _ (List.mem_of_getElem? (i := 1) rfl))) (mvT hZ (hw _ (List.mem_of_getElem? (i := 2) rfl))) (mvT hZ (hw _ (List.mem_of_getElem? (i := 3) rfl))) (mvT hZ (hw _ (List.mem_of_getElem? (i := 4) rfl))) (by decide) (own_back (rm := ({ frames := 0, cells := 0, slots := 0, locals := 0 } : Room)) (W := 2) (own_c l Z a0 hw [] (114 : Int32) p1 (5 : Int32) (82 : Int32) h31 O33 rfl (Or.inl ⟨by decide, by decide, rfl⟩)) hZ (hw _ (List.mem_of_getElem? (i := 4) rfl)) (hw _ (List.mem_of_getElem? (i := 3) rfl)) (by decide) (by decide)) (g := (mkF m 67 #[.val (.int p0), .val (.int p1), .val (.ref b1), .unset] [(.int (5 : Int32)), (.int p1), (.int (114 : Int32)), (.int (5 : Int32)), (.ref b1)])) rfl (by rw [hml]; rfl) (argsL := [(.int (114 : Int32)), (.int p1), (.int (5 : Int32))]) (rest := [(.int (5 : Int32)), (.ref b1)]) (lenOf own_pd295 rfl) rfl (by show 2 * 0 + _ ≤ _; exact Nat.le_of_eq rfl) (hb hby at_67) (fun _ _ => ⟨rfl, e31, (by decide : 0 + 1 + 0 + 0 + 0 + 0 + 0 + 0 ≤ _), (by decide : 0 + 10 + 0 + 0 + 0 + 0 + 0 + 0 ≤ _)⟩)
    dsimp only [Pt.U, Pt.locs, Pt.cells, Pt.slots] at X35 l35 y35 z35 st35 hQ35
    subst l35 y35 z35
    obtain ⟨r35, rfl, N35q, eh35, c35⟩ := hQ35
    have N35 := Fr.app N31 N35q
    refine own_st st35 ?_
    show own_G _ _ _ _ (T35.setTop (mkF m 70 #[.val (.int p0), .val (.int p1), .val (.ref b1), .unset] [(.int r35), (.int (5 : Int32)), (.ref b1)]))
    obtain ⟨cl36, Ar36, qk36, Sz36, Mz36, Hz36, Uz36⟩ := id V31'
    obtain ⟨T37, h37, X37, e37, W37, st37⟩ := stC X35 hx hZ eh35 Ar36 (j := (5 : Int32)) (inb_of Sz36 ⟨by decide, by decide⟩) (g := (mkF m 70 #[.val (.int p0), .val (.int p1), .val (.ref b1), .unset] [(.int r35), (.int (5 : Int32)), (.ref b1)])) rfl rfl (hb hby at_70)
    refine own_st st37 ?_
    have V37 := Arv.set Ar36 qk36 Sz36 Mz36 Hz36 Uz36 (fits_nar_char _) W37 5 rfl (Nat.le_of_ble_eq_true rfl)
    have z38 : h37.size = h31.size := W37.size
    have O39 := Old.wr O33 W37 (by omega)
    have K40 : Keep h0 h37 [] := K34.wr W37 (Or.inr (by omega))
    have N37 := Fr.snoc X37 N35 (by omega : Z.heap.size ≤ b1)
    have V37' : Arv Z h37 b1 k1 .char (10 : Int32) [(.int (nar .char r5)), (.int (nar .char r11)), (.int (nar .char r17)), (.int (nar .char r23)), (.int (nar .char r29)), (.int (nar .char r35)), (.int (0 : Int32)), (.int (0 : Int32)), (.int (0 : Int32)), (.int (0 : Int32))] (.int (0 : Int32)) := V37
    show own_G _ _ _ _ (T37.setTop (mkF m 71 #[.val (.int p0), .val (.int p1), .val (.ref b1), .unset] []))
    refine own_st (fun _ k => XS.aloadN X37.here hx rfl (hb hby at_71) rfl rfl k) ?_
    show own_G _ _ _ _ (T37.setTop (mkF m 72 #[.val (.int p0), .val (.int p1), .val (.ref b1), .unset] [(.ref b1)]))
    refine own_st (fun _ k => XS.bipush X37.here hx rfl (hb hby at_72) k) ?_
    show own_G _ _ _ _ (T37.setTop (mkF m 74 #[.val (.int p0), .val (.int p1), .val (.ref b1), .unset] [(.int (6 : Int32)), (.ref b1)]))
    refine own_st (fun _ k => XS.bipush X37.here hx rfl (hb hby at_74) k) ?_
    show own_G _ _ _ _ (T37.setTop (mkF m 76 #[.val (.int p0), .val (.int p1), .val (.ref b1), .unset] [(.int (101 : Int32)), (.int (6 : Int32)), (.ref b1)]))
    refine own_st (fun _ k => XS.iloadN X37.here hx rfl (hb hby at_76) rfl k) ?_
    show own_G _ _ _ _ (T37.setTop (mkF m 77 #[.val (.int p0), .val (.int p1), .val (.ref b1), .unset] [(.int p1), (.int (101 : Int32)), (.int (6 : Int32)), (.ref b1)]))
    refine own_st (fun _ k => XS.bipush X37.here hx rfl (hb hby at_77) k) ?_
    show own_G _ _ _ _ (T37.setTop (mkF m 79 #[.val (.int p0), .val (.int p1), .val (.ref b1), .unset] [(.int (6 : Int32)), (.int p1), (.int (101 : Int32)), (.int (6 : Int32)), (.ref b1)]))
    obtain ⟨_, _, ⟨T41, L41, k41, n41⟩, -, X41, ⟨Lc41, hQ41, l41, y41, z41⟩, st41⟩ := Jvm.LawKit.callS X37 hx (y := (⟨"com/example/limpet/limpet/jdbc/DialectOfProductPinLaw", "c", "(CII)C"⟩ : MethodName)) hown (mvT hZ (hw _ (List.mem_of_getElem? (i := 1) rfl))) (mvT hZ (hw _ (List.mem_of_getElem? (i := 2) rfl))) (mvT hZ (hw _ (List.mem_of_getElem? (i := 3) rfl))) (mvT hZ (hw _ (List.mem_of_getElem? (i := 4) rfl))) (by decide) (own_back (rm := ({ frames := 0, cells := 0, slots := 0, locals := 0 } : Room)) (W := 2) (own_c l Z a0 hw [] (101 : Int32) p1 (6 : Int32) (69 : Int32) h37 O39 rfl (Or.inl ⟨by decide, by decide, rfl⟩)) hZ (hw _ (List.mem_of_getElem? (i := 4) rfl)) (hw _ (List.mem_of_getElem? (i := 3) rfl)) (by decide) (by decide)) (g := (mkF m 79 #[.val (.int p0), .val (.int p1), .val (.ref b1), .unset] [(.int (6 : Int32)), (.int p1), (.int (101 : Int32)), (.int (6 : Int32)), (.ref b1)])) rfl (by rw [hml]; rfl) (argsL := [(.int (101 : Int32)), (.int p1), (.int (6 : Int32))]) (rest := [(.int (6 : Int32)), (.ref b1)]) (lenOf own_pd295 rfl) rfl (by show 2 * 0 + _ ≤ _; exact Nat.le_of_eq rfl) (hb hby at_79) (fun _ _ => ⟨rfl, e37, (by decide : 0 + 1 + 0 + 0 + 0 + 0 + 0 + 0 + 0 ≤ _), (by decide : 0 + 10 + 0 + 0 + 0 + 0 + 0 + 0 + 0 ≤ _)⟩)
    dsimp only [Pt.U, Pt.locs, Pt.cells, Pt.slots] at X41 l41 y41 z41 st41 hQ41
    subst l41 y41 z41
    obtain ⟨r41, rfl, N41q, eh41, c41⟩ := hQ41
    have N41 := Fr.app N37 N41q
    refine own_st st41 ?_
    show own_G _ _ _ _ (T41.setTop (mkF m 82 #[.val (.int p0), .val (.int p1), .val (.ref b1), .unset] [(.int r41), (.int (6 : Int32)), (.ref b1)]))
    obtain ⟨cl42, Ar42, qk42, Sz42, Mz42, Hz42, Uz42⟩ := id V37'
    obtain ⟨T43, h43, X43, e43, W43, st43⟩ := stC X41 hx hZ eh41 Ar42 (j := (6 : Int32)) (inb_of Sz42 ⟨by decide, by decide⟩) (g := (mkF m 82 #[.val (.int p0), .val (.int p1), .val (.ref b1), .unset] [(.int r41), (.int (6 : Int32)), (.ref b1)])) rfl rfl (hb hby at_82)
    refine own_st st43 ?_
    have V43 := Arv.set Ar42 qk42 Sz42 Mz42 Hz42 Uz42 (fits_nar_char _) W43 6 rfl (Nat.le_of_ble_eq_true rfl)
    have z44 : h43.size = h37.size := W43.size
    have O45 := Old.wr O39 W43 (by omega)
    have K46 : Keep h0 h43 [] := K40.wr W43 (Or.inr (by omega))
    have N43 := Fr.snoc X43 N41 (by omega : Z.heap.size ≤ b1)
    have V43' : Arv Z h43 b1 k1 .char (10 : Int32) [(.int (nar .char r5)), (.int (nar .char r11)), (.int (nar .char r17)), (.int (nar .char r23)), (.int (nar .char r29)), (.int (nar .char r35)), (.int (nar .char r41)), (.int (0 : Int32)), (.int (0 : Int32)), (.int (0 : Int32))] (.int (0 : Int32)) := V43
    show own_G _ _ _ _ (T43.setTop (mkF m 83 #[.val (.int p0), .val (.int p1), .val (.ref b1), .unset] []))
    refine own_st (fun _ k => XS.aloadN X43.here hx rfl (hb hby at_83) rfl rfl k) ?_
    show own_G _ _ _ _ (T43.setTop (mkF m 84 #[.val (.int p0), .val (.int p1), .val (.ref b1), .unset] [(.ref b1)]))
    refine own_st (fun _ k => XS.bipush X43.here hx rfl (hb hby at_84) k) ?_
    show own_G _ _ _ _ (T43.setTop (mkF m 86 #[.val (.int p0), .val (.int p1), .val (.ref b1), .unset] [(.int (7 : Int32)), (.ref b1)]))
    refine own_st (fun _ k => XS.bipush X43.here hx rfl (hb hby at_86) k) ?_
    show own_G _ _ _ _ (T43.setTop (mkF m 88 #[.val (.int p0), .val (.int p1), .val (.ref b1), .unset] [(.int (83 : Int32)), (.int (7 : Int32)), (.ref b1)]))
    refine own_st (fun _ k => XS.iloadN X43.here hx rfl (hb hby at_88) rfl k) ?_
    show own_G _ _ _ _ (T43.setTop (mkF m 89 #[.val (.int p0), .val (.int p1), .val (.ref b1), .unset] [(.int p1), (.int (83 : Int32)), (.int (7 : Int32)), (.ref b1)]))
    refine own_st (fun _ k => XS.bipush X43.here hx rfl (hb hby at_89) k) ?_
    show own_G _ _ _ _ (T43.setTop (mkF m 91 #[.val (.int p0), .val (.int p1), .val (.ref b1), .unset] [(.int (7 : Int32)), (.int p1), (.int (83 : Int32)), (.int (7 : Int32)), (.ref b1)]))
    obtain ⟨_, _, ⟨T47, L47, k47, n47⟩, -, X47, ⟨Lc47, hQ47, l47, y47, z47⟩, st47⟩ := Jvm.LawKit.callS X43 hx (y := (⟨"com/example/limpet/limpet/jdbc/DialectOfProductPinLaw", "c", "(CII)C"⟩ : MethodName)) hown (mvT hZ (hw _ (List.mem_of_getElem? (i := 1) rfl))) (mvT hZ (hw _ (List.mem_of_getElem? (i := 2) rfl))) (mvT hZ (hw _ (List.mem_of_getElem? (i := 3) rfl))) (mvT hZ (hw _ (List.mem_of_getElem? (i := 4) rfl))) (by decide) (own_back (rm := ({ frames := 0, cells := 0, slots := 0, locals := 0 } : Room)) (W := 2) (own_c l Z a0 hw [] (83 : Int32) p1 (7 : Int32) (115 : Int32) h43 O45 rfl (Or.inr ⟨by decide, by decide, by decide, rfl⟩)) hZ (hw _ (List.mem_of_getElem? (i := 4) rfl)) (hw _ (List.mem_of_getElem? (i := 3) rfl)) (by decide) (by decide)) (g := (mkF m 91 #[.val (.int p0), .val (.int p1), .val (.ref b1), .unset] [(.int (7 : Int32)), (.int p1), (.int (83 : Int32)), (.int (7 : Int32)), (.ref b1)])) rfl (by rw [hml]; rfl) (argsL := [(.int (83 : Int32)), (.int p1), (.int (7 : Int32))]) (rest := [(.int (7 : Int32)), (.ref b1)]) (lenOf own_pd295 rfl) rfl (by show 2 * 0 + _ ≤ _; exact Nat.le_of_eq rfl) (hb hby at_91) (fun _ _ => ⟨rfl, e43, (by decide : 0 + 1 + 0 + 0 + 0 + 0 + 0 + 0 + 0 + 0 ≤ _), (by decide : 0 + 10 + 0 + 0 + 0 + 0 + 0 + 0 + 0 + 0 ≤ _)⟩)
    dsimp only [Pt.U, Pt.locs, Pt.cells, Pt.slots] at X47 l47 y47 z47 st47 hQ47
    subst l47 y47 z47
    obtain ⟨r47, rfl, N47q, eh47, c47⟩ := hQ47
    have N47 := Fr.app N43 N47q
    refine own_st st47 ?_
    show own_G _ _ _ _ (T47.setTop (mkF m 94 #[.val (.int p0), .val (.int p1), .val (.ref b1), .unset] [(.int r47), (.int (7 : Int32)), (.ref b1)]))
    obtain ⟨cl48, Ar48, qk48, Sz48, Mz48, Hz48, Uz48⟩ := id V43'
    obtain ⟨T49, h49, X49, e49, W49, st49⟩ := stC X47 hx hZ eh47 Ar48 (j := (7 : Int32)) (inb_of Sz48 ⟨by decide, by decide⟩) (g := (mkF m 94 #[.val (.int p0), .val (.int p1), .val (.ref b1), .unset] [(.int r47), (.int (7 : Int32)), (.ref b1)])) rfl rfl (hb hby at_94)
    refine own_st st49 ?_
    have V49 := Arv.set Ar48 qk48 Sz48 Mz48 Hz48 Uz48 (fits_nar_char _) W49 7 rfl (Nat.le_of_ble_eq_true rfl)
    have z50 : h49.size = h43.size := W49.size
    have O51 := Old.wr O45 W49 (by omega)
    have K52 : Keep h0 h49 [] := K46.wr W49 (Or.inr (by omega))
    have N49 := Fr.snoc X49 N47 (by omega : Z.heap.size ≤ b1)
    have V49' : Arv Z h49 b1 k1 .char (10 : Int32) [(.int (nar .char r5)), (.int (nar .char r11)), (.int (nar .char r17)), (.int (nar .char r23)), (.int (nar .char r29)), (.int (nar .char r35)), (.int (nar .char r41)), (.int (nar .char r47)), (.int (0 : Int32)), (.int (0 : Int32))] (.int (0 : Int32)) := V49
    show own_G _ _ _ _ (T49.setTop (mkF m 95 #[.val (.int p0), .val (.int p1), .val (.ref b1), .unset] []))
    refine own_st (fun _ k => XS.aloadN X49.here hx rfl (hb hby at_95) rfl rfl k) ?_
    show own_G _ _ _ _ (T49.setTop (mkF m 96 #[.val (.int p0), .val (.int p1), .val (.ref b1), .unset] [(.ref b1)]))
    refine own_st (fun _ k => XS.bipush X49.here hx rfl (hb hby at_96) k) ?_
    show own_G _ _ _ _ (T49.setTop (mkF m 98 #[.val (.int p0), .val (.int p1), .val (.ref b1), .unset] [(.int (8 : Int32)), (.ref b1)]))
    refine own_st (fun _ k => XS.bipush X49.here hx rfl (hb hby at_98) k) ?_
    show own_G _ _ _ _ (T49.setTop (mkF m 100 #[.val (.int p0), .val (.int p1), .val (.ref b1), .unset] [(.int (81 : Int32)), (.int (8 : Int32)), (.ref b1)]))
    refine own_st (fun _ k => XS.iloadN X49.here hx rfl (hb hby at_100) rfl k) ?_
    show own_G _ _ _ _ (T49.setTop (mkF m 101 #[.val (.int p0), .val (.int p1), .val (.ref b1), .unset] [(.int p1), (.int (81 : Int32)), (.int (8 : Int32)), (.ref b1)]))
    refine own_st (fun _ k => XS.bipush X49.here hx rfl (hb hby at_101) k) ?_
    show own_G _ _ _ _ (T49.setTop (mkF m 103 #[.val (.int p0), .val (.int p1), .val (.ref b1), .unset] [(.int (8 : Int32)), (.int p1), (.int (81 : Int32)), (.int (8 : Int32)), (.ref b1)]))
    obtain ⟨_, _, ⟨T53, L53, k53, n53⟩, -, X53, ⟨Lc53, hQ53, l53, y53, z53⟩, st53⟩ := Jvm.LawKit.callS X49 hx (y := (⟨"com/example/limpet/limpet/jdbc/DialectOfProductPinLaw", "c", "(CII)C"⟩ : MethodName)) hown (mvT hZ (hw _ (List.mem_of_getElem? (i := 1) rfl))) (mvT hZ (hw _ (List.mem_of_getElem? (i := 2) rfl))) (mvT hZ (hw _ (List.mem_of_getElem? (i := 3) rfl))) (mvT hZ (hw _ (List.mem_of_getElem? (i := 4) rfl))) (by decide) (own_back (rm := ({ frames := 0, cells := 0, slots := 0, locals := 0 } : Room)) (W := 2) (own_c l Z a0 hw [] (81 : Int32) p1 (8 : Int32) (113 : Int32) h49 O51 rfl (Or.inr ⟨by decide, by decide, by decide, rfl⟩)) hZ (hw _ (List.mem_of_getElem? (i := 4) rfl)) (hw _ (List.mem_of_getElem? (i := 3) rfl)) (by decide) (by decide)) (g := (mkF m 103 #[.val (.int p0), .val (.int p1), .val (.ref b1), .unset] [(.int (8 : Int32)), (.int p1), (.int (81 : Int32)), (.int (8 : Int32)), (.ref b1)])) rfl (by rw [hml]; rfl) (argsL := [(.int (81 : Int32)), (.int p1), (.int (8 : Int32))]) (rest := [(.int (8 : Int32)), (.ref b1)]) (lenOf own_pd295 rfl) rfl (by show 2 * 0 + _ ≤ _; exact Nat.le_of_eq rfl) (hb hby at_103) (fun _ _ => ⟨rfl, e49, (by decide : 0 + 1 + 0 + 0 + 0 + 0 + 0 + 0 + 0 + 0 + 0 ≤ _), (by decide : 0 + 10 + 0 + 0 + 0 + 0 + 0 + 0 + 0 + 0 + 0 ≤ _)⟩)
    dsimp only [Pt.U, Pt.locs, Pt.cells, Pt.slots] at X53 l53 y53 z53 st53 hQ53
    subst l53 y53 z53
    obtain ⟨r53, rfl, N53q, eh53, c53⟩ := hQ53
    have N53 := Fr.app N49 N53q
    refine own_st st53 ?_
    show own_G _ _ _ _ (T53.setTop (mkF m 106 #[.val (.int p0), .val (.int p1), .val (.ref b1), .unset] [(.int r53), (.int (8 : Int32)), (.ref b1)]))
    obtain ⟨cl54, Ar54, qk54, Sz54, Mz54, Hz54, Uz54⟩ := id V49'
    obtain ⟨T55, h55, X55, e55, W55, st55⟩ := stC X53 hx hZ eh53 Ar54 (j := (8 : Int32)) (inb_of Sz54 ⟨by decide, by decide⟩) (g := (mkF m 106 #[.val (.int p0), .val (.int p1), .val (.ref b1), .unset] [(.int r53), (.int (8 : Int32)), (.ref b1)])) rfl rfl (hb hby at_106)
    refine own_st st55 ?_
    have V55 := Arv.set Ar54 qk54 Sz54 Mz54 Hz54 Uz54 (fits_nar_char _) W55 8 rfl (Nat.le_of_ble_eq_true rfl)
    have z56 : h55.size = h49.size := W55.size
    have O57 := Old.wr O51 W55 (by omega)
    have K58 : Keep h0 h55 [] := K52.wr W55 (Or.inr (by omega))
    have N55 := Fr.snoc X55 N53 (by omega : Z.heap.size ≤ b1)
    have V55' : Arv Z h55 b1 k1 .char (10 : Int32) [(.int (nar .char r5)), (.int (nar .char r11)), (.int (nar .char r17)), (.int (nar .char r23)), (.int (nar .char r29)), (.int (nar .char r35)), (.int (nar .char r41)), (.int (nar .char r47)), (.int (nar .char r53)), (.int (0 : Int32))] (.int (0 : Int32)) := V55
    show own_G _ _ _ _ (T55.setTop (mkF m 107 #[.val (.int p0), .val (.int p1), .val (.ref b1), .unset] []))
    refine own_st (fun _ k => XS.aloadN X55.here hx rfl (hb hby at_107) rfl rfl k) ?_
    show own_G _ _ _ _ (T55.setTop (mkF m 108 #[.val (.int p0), .val (.int p1), .val (.ref b1), .unset] [(.ref b1)]))
    refine own_st (fun _ k => XS.bipush X55.here hx rfl (hb hby at_108) k) ?_
    show own_G _ _ _ _ (T55.setTop (mkF m 110 #[.val (.int p0), .val (.int p1), .val (.ref b1), .unset] [(.int (9 : Int32)), (.ref b1)]))
    refine own_st (fun _ k => XS.bipush X55.here hx rfl (hb hby at_110) k) ?_
    show own_G _ _ _ _ (T55.setTop (mkF m 112 #[.val (.int p0), .val (.int p1), .val (.ref b1), .unset] [(.int (76 : Int32)), (.int (9 : Int32)), (.ref b1)]))
    refine own_st (fun _ k => XS.iloadN X55.here hx rfl (hb hby at_112) rfl k) ?_
    show own_G _ _ _ _ (T55.setTop (mkF m 113 #[.val (.int p0), .val (.int p1), .val (.ref b1), .unset] [(.int p1), (.int (76 : Int32)), (.int (9 : Int32)), (.ref b1)]))
    refine own_st (fun _ k => XS.bipush X55.here hx rfl (hb hby at_113) k) ?_
    show own_G _ _ _ _ (T55.setTop (mkF m 115 #[.val (.int p0), .val (.int p1), .val (.ref b1), .unset] [(.int (9 : Int32)), (.int p1), (.int (76 : Int32)), (.int (9 : Int32)), (.ref b1)]))
    obtain ⟨_, _, ⟨T59, L59, k59, n59⟩, -, X59, ⟨Lc59, hQ59, l59, y59, z59⟩, st59⟩ := Jvm.LawKit.callS X55 hx (y := (⟨"com/example/limpet/limpet/jdbc/DialectOfProductPinLaw", "c", "(CII)C"⟩ : MethodName)) hown (mvT hZ (hw _ (List.mem_of_getElem? (i := 1) rfl))) (mvT hZ (hw _ (List.mem_of_getElem? (i := 2) rfl))) (mvT hZ (hw _ (List.mem_of_getElem? (i := 3) rfl))) (mvT hZ (hw _ (List.mem_of_getElem? (i := 4) rfl))) (by decide) (own_back (rm := ({ frames := 0, cells := 0, slots := 0, locals := 0 } : Room)) (W := 2) (own_c l Z a0 hw [] (76 : Int32) p1 (9 : Int32) (108 : Int32) h55 O57 rfl (Or.inr ⟨by decide, by decide, by decide, rfl⟩)) hZ (hw _ (List.mem_of_getElem? (i := 4) rfl)) (hw _ (List.mem_of_getElem? (i := 3) rfl)) (by decide) (by decide)) (g := (mkF m 115 #[.val (.int p0), .val (.int p1), .val (.ref b1), .unset] [(.int (9 : Int32)), (.int p1), (.int (76 : Int32)), (.int (9 : Int32)), (.ref b1)])) rfl (by rw [hml]; rfl) (argsL := [(.int (76 : Int32)), (.int p1), (.int (9 : Int32))]) (rest := [(.int (9 : Int32)), (.ref b1)]) (lenOf own_pd295 rfl) rfl (by show 2 * 0 + _ ≤ _; exact Nat.le_of_eq rfl) (hb hby at_115) (fun _ _ => ⟨rfl, e55, (by decide : 0 + 1 + 0 + 0 + 0 + 0 + 0 + 0 + 0 + 0 + 0 + 0 ≤ _), (by decide : 0 + 10 + 0 + 0 + 0 + 0 + 0 + 0 + 0 + 0 + 0 + 0 ≤ _)⟩)
    dsimp only [Pt.U, Pt.locs, Pt.cells, Pt.slots] at X59 l59 y59 z59 st59 hQ59
    subst l59 y59 z59
    obtain ⟨r59, rfl, N59q, eh59, c59⟩ := hQ59
    have N59 := Fr.app N55 N59q
    refine own_st st59 ?_
    show own_G _ _ _ _ (T59.setTop (mkF m 118 #[.val (.int p0), .val (.int p1), .val (.ref b1), .unset] [(.int r59), (.int (9 : Int32)), (.ref b1)]))
    obtain ⟨cl60, Ar60, qk60, Sz60, Mz60, Hz60, Uz60⟩ := id V55'
    obtain ⟨T61, h61, X61, e61, W61, st61⟩ := stC X59 hx hZ eh59 Ar60 (j := (9 : Int32)) (inb_of Sz60 ⟨by decide, by decide⟩) (g := (mkF m 118 #[.val (.int p0), .val (.int p1), .val (.ref b1), .unset] [(.int r59), (.int (9 : Int32)), (.ref b1)])) rfl rfl (hb hby at_118)
    refine own_st st61 ?_
    have V61 := Arv.set Ar60 qk60 Sz60 Mz60 Hz60 Uz60 (fits_nar_char _) W61 9 rfl (Nat.le_of_ble_eq_true rfl)
    have z62 : h61.size = h55.size := W61.size
    have O63 := Old.wr O57 W61 (by omega)
    have K64 : Keep h0 h61 [] := K58.wr W61 (Or.inr (by omega))
    have N61 := Fr.snoc X61 N59 (by omega : Z.heap.size ≤ b1)
    have V61' : Arv Z h61 b1 k1 .char (10 : Int32) [(.int (nar .char r5)), (.int (nar .char r11)), (.int (nar .char r17)), (.int (nar .char r23)), (.int (nar .char r29)), (.int (nar .char r35)), (.int (nar .char r41)), (.int (nar .char r47)), (.int (nar .char r53)), (.int (nar .char r59))] (.int (0 : Int32)) := V61
    show own_G _ _ _ _ (T61.setTop (mkF m 119 #[.val (.int p0), .val (.int p1), .val (.ref b1), .unset] []))
    obtain ⟨T65, h65, X65, e65, E65, A65, D65, -, st65⟩ := newO X61 hx hZ hown (hw _ (List.mem_of_getElem? (i := 5) rfl)) (hw _ (List.mem_of_getElem? (i := 6) rfl)) (hw _ (List.mem_of_getElem? (i := 7) rfl)) e61 (g := (mkF m 119 #[.val (.int p0), .val (.int p1), .val (.ref b1), .unset] [])) rfl (hb hby at_119) (by decide) (by decide)
    obtain ⟨b65, g65⟩ : ∃ z, z = h61.size := ⟨_, rfl⟩
    rw [← g65] at A65 D65 st65
    refine own_st st65 ?_
    have z66 : h61.size ≤ h65.size := E65.1
    have O67 := Old.ext O63 E65
    have K68 : Keep h0 h65 [] := K64.ext E65
    have F65_coder : Fld Z h65 b65 "java/lang/String" "coder" "B" (.int (0 : Int32)) := D65 (Or.inr (hw _ (List.mem_of_getElem? (i := 31) rfl))) (ty := .byte) (by decide)
    have F65_value : Fld Z h65 b65 "java/lang/String" "value" "[B" .null := D65 (Or.inr (hw _ (List.mem_of_getElem? (i := 33) rfl))) (ty := (.array .byte)) (by decide)
    have lt65 := own_ltN A65.lt
    show own_G _ _ _ _ (T65.setTop (mkF m 122 #[.val (.int p0), .val (.int p1), .val (.ref b1), .unset] [(.ref b65)]))
    refine own_st (fun _ k => XS.dup X65.here hx rfl (hb hby at_122) rfl rfl k) ?_
    show own_G _ _ _ _ (T65.setTop (mkF m 123 #[.val (.int p0), .val (.int p1), .val (.ref b1), .unset] [(.ref b65), (.ref b65)]))
    refine own_st (fun _ k => XS.aloadN X65.here hx rfl (hb hby at_123) rfl rfl k) ?_
    show own_G _ _ _ _ (T65.setTop (mkF m 124 #[.val (.int p0), .val (.int p1), .val (.ref b1), .unset] [(.ref b1), (.ref b65), (.ref b65)]))
    have q69 : Arv Z h65 b1 k1 .char (10 : Int32) [(.int (nar .char r5)), (.int (nar .char r11)), (.int (nar .char r17)), (.int (nar .char r23)), (.int (nar .char r29)), (.int (nar .char r35)), (.int (nar .char r41)), (.int (nar .char r47)), (.int (nar .char r53)), (.int (nar .char r59))] (.int (0 : Int32)) := (V61'.ext E65)
    have Vc : Arv Z h65 b1 k1 .char (Int32.ofNat 10) (own_vals (own_fl [r5, r11, r17, r23, r29, r35, r41, r47, r53, r59]) 10) (.int (0 : Int32)) := q69
    have hf : ∀ j, j < 10 → ¬ (255 : Int32) < (own_fl [r5, r11, r17, r23, r29, r35, r41, r47, r53, r59]) j := fun j hj => by
      have : j = 0 ∨ j = 1 ∨ j = 2 ∨ j = 3 ∨ j = 4 ∨ j = 5 ∨ j = 6 ∨ j = 7 ∨ j = 8 ∨ j = 9 := by omega
      rcases this with rfl | rfl | rfl | rfl | rfl | rfl | rfl | rfl | rfl | rfl
      · rcases c5 with rfl | rfl
        · exact (show ¬ (255 : Int32) < nar .char (80 : Int32) by decide)
        · exact (show ¬ (255 : Int32) < nar .char (112 : Int32) by decide)
      · rcases c11 with rfl | rfl
        · exact (show ¬ (255 : Int32) < nar .char (111 : Int32) by decide)
        · exact (show ¬ (255 : Int32) < nar .char (79 : Int32) by decide)
      · rcases c17 with rfl | rfl
        · exact (show ¬ (255 : Int32) < nar .char (115 : Int32) by decide)
        · exact (show ¬ (255 : Int32) < nar .char (83 : Int32) by decide)
      · rcases c23 with rfl | rfl
        · exact (show ¬ (255 : Int32) < nar .char (116 : Int32) by decide)
        · exact (show ¬ (255 : Int32) < nar .char (84 : Int32) by decide)
      · rcases c29 with rfl | rfl
        · exact (show ¬ (255 : Int32) < nar .char (103 : Int32) by decide)
        · exact (show ¬ (255 : Int32) < nar .char (71 : Int32) by decide)
      · rcases c35 with rfl | rfl
        · exact (show ¬ (255 : Int32) < nar .char (114 : Int32) by decide)
        · exact (show ¬ (255 : Int32) < nar .char (82 : Int32) by decide)
      · rcases c41 with rfl | rfl
        · exact (show ¬ (255 : Int32) < nar .char (101 : Int32) by decide)
        · exact (show ¬ (255 : Int32) < nar .char (69 : Int32) by decide)
      · rcases c47 with rfl | rfl
        · exact (show ¬ (255 : Int32) < nar .char (83 : Int32) by decide)
        · exact (show ¬ (255 : Int32) < nar .char (115 : Int32) by decide)
      · rcases c53 with rfl | rfl
        · exact (show ¬ (255 : Int32) < nar .char (81 : Int32) by decide)
        · exact (show ¬ (255 : Int32) < nar .char (113 : Int32) by decide)
      · rcases c59 with rfl | rfl
        · exact (show ¬ (255 : Int32) < nar .char (76 : Int32) by decide)
        · exact (show ¬ (255 : Int32) < nar .char (108 : Int32) by decide)
    have he : ∀ j, j < 10 → own_eic (own_gp j) (own_lo ((own_fl [r5, r11, r17, r23, r29, r35, r41, r47, r53, r59]) j)) := fun j hj => by
      have : j = 0 ∨ j = 1 ∨ j = 2 ∨ j = 3 ∨ j = 4 ∨ j = 5 ∨ j = 6 ∨ j = 7 ∨ j = 8 ∨ j = 9 := by omega
      rcases this with rfl | rfl | rfl | rfl | rfl | rfl | rfl | rfl | rfl | rfl
      · rcases c5 with rfl | rfl
        · exact (show own_eic (80 : Int32) (own_lo (nar .char (80 : Int32))) from Or.inl rfl)
        · exact (show own_eic (80 : Int32) (own_lo (nar .char (112 : Int32))) from Or.inr ⟨rfl, by decide, by decide⟩)
      · rcases c11 with rfl | rfl
        · exact (show own_eic (111 : Int32) (own_lo (nar .char (111 : Int32))) from Or.inl rfl)
        · exact (show own_eic (111 : Int32) (own_lo (nar .char (79 : Int32))) from Or.inr ⟨rfl, by decide, by decide⟩)
      · rcases c17 with rfl | rfl
        · exact (show own_eic (115 : Int32) (own_lo (nar .char (115 : Int32))) from Or.inl rfl)
        · exact (show own_eic (115 : Int32) (own_lo (nar .char (83 : Int32))) from Or.inr ⟨rfl, by decide, by decide⟩)
      · rcases c23 with rfl | rfl
        · exact (show own_eic (116 : Int32) (own_lo (nar .char (116 : Int32))) from Or.inl rfl)
        · exact (show own_eic (116 : Int32) (own_lo (nar .char (84 : Int32))) from Or.inr ⟨rfl, by decide, by decide⟩)
      · rcases c29 with rfl | rfl
        · exact (show own_eic (103 : Int32) (own_lo (nar .char (103 : Int32))) from Or.inl rfl)
        · exact (show own_eic (103 : Int32) (own_lo (nar .char (71 : Int32))) from Or.inr ⟨rfl, by decide, by decide⟩)
      · rcases c35 with rfl | rfl
        · exact (show own_eic (114 : Int32) (own_lo (nar .char (114 : Int32))) from Or.inl rfl)
        · exact (show own_eic (114 : Int32) (own_lo (nar .char (82 : Int32))) from Or.inr ⟨rfl, by decide, by decide⟩)
      · rcases c41 with rfl | rfl
        · exact (show own_eic (101 : Int32) (own_lo (nar .char (101 : Int32))) from Or.inl rfl)
        · exact (show own_eic (101 : Int32) (own_lo (nar .char (69 : Int32))) from Or.inr ⟨rfl, by decide, by decide⟩)
      · rcases c47 with rfl | rfl
        · exact (show own_eic (83 : Int32) (own_lo (nar .char (83 : Int32))) from Or.inl rfl)
        · exact (show own_eic (83 : Int32) (own_lo (nar .char (115 : Int32))) from Or.inr ⟨rfl, by decide, by decide⟩)
      · rcases c53 with rfl | rfl
        · exact (show own_eic (81 : Int32) (own_lo (nar .char (81 : Int32))) from Or.inl rfl)
        · exact (show own_eic (81 : Int32) (own_lo (nar .char (113 : Int32))) from Or.inr ⟨rfl, by decide, by decide⟩)
      · rcases c59 with rfl | rfl
        · exact (show own_eic (76 : Int32) (own_lo (nar .char (76 : Int32))) from Or.inl rfl)
        · exact (show own_eic (76 : Int32) (own_lo (nar .char (108 : Int32))) from Or.inr ⟨rfl, by decide, by decide⟩)
    obtain ⟨_, _, ⟨T70, L70, k70, n70⟩, -, X70, ⟨Lc70, hQ70, l70, y70, z70⟩, st70⟩ := X65.specialBack hx (y := (⟨"java/lang/String", "<init>", "([C)V"⟩ : MethodName)) rfl hown (mvT hZ (hw _ (List.mem_of_getElem? (i := 8) rfl))) (mvT hZ (hw _ (List.mem_of_getElem? (i := 9) rfl))) (mvT hZ (hw _ (List.mem_of_getElem? (i := 10) rfl))) (by decide) (own_back (rm := ({ frames := 5, cells := 2, slots := 30, locals := 74 } : Room)) (W := 1) (own_newS l Z a0 hw [] b65 b1 10 (own_fl [r5, r11, r17, r23, r29, r35, r41, r47, r53, r59]) k1 w1 .null (.int (0 : Int32)) h65 O67 (by decide) (by decide) hf S1 hw1 (by omega) (show @Ne Nat b65 b1 by omega) A65 F65_value F65_coder Vc) hZ (hw _ (List.mem_of_getElem? (i := 10) rfl)) (hw _ (List.mem_of_getElem? (i := 7) rfl)) (by decide) (by decide)) (g := (mkF m 124 #[.val (.int p0), .val (.int p1), .val (.ref b1), .unset] [(.ref b1), (.ref b65), (.ref b65)])) rfl (by rw [hml]; rfl) (Steps.refl _) (a := b65) (argsL := [(.ref b1)]) (rest := [(.ref b65)]) (lenOf own_pd364 rfl) rfl (by show 2 * 0 + _ ≤ _; exact Nat.le_of_eq rfl) (hb hby at_124) (fun _ _ => ⟨rfl, e65, (by decide : 0 + 1 + 0 + 0 + 0 + 0 + 0 + 0 + 0 + 0 + 0 + 0 + 1 + 2 ≤ _), (by decide : 0 + 10 + 0 + 0 + 0 + 0 + 0 + 0 + 0 + 0 + 0 + 0 + 4 + 30 ≤ _)⟩)
    dsimp only [Pt.U, Pt.locs, Pt.cells, Pt.slots] at X70 l70 y70 z70 st70 hQ70
    subst l70 y70 z70
    obtain ⟨rfl, N70q, K70_, t, kt, gt, Hs⟩ := hQ70
    have N70 := Fr.app N61 N70q
    refine own_tr st70 ?_
    have z71 : h65.size ≤ T70.heap.size := K70_.1
    have O72 := Old.keep O67 K70_ (allS (by omega) all0)
    have K73 : Keep h0 T70.heap [] := K68.trans K70_ (allS (Or.inr (by omega)) all0)
    show own_G _ _ _ _ (T70.setTop (mkF m 127 #[.val (.int p0), .val (.int p1), .val (.ref b1), .unset] [(.ref b65)]))
    obtain ⟨_, _, ⟨T74, L74, k74, n74⟩, -, X74, ⟨Lc74, hQ74, l74, y74, z74⟩, st74⟩ := Jvm.LawKit.callS X70 hx (y := (⟨"com/example/limpet/limpet/jdbc/Dialect", "ofProduct", "(Ljava/lang/String;)Lcom/example/limpet/limpet/jdbc/Dialect;"⟩ : MethodName)) hown (mvT hZ (hw _ (List.mem_of_getElem? (i := 34) rfl))) (mvT hZ (hw _ (List.mem_of_getElem? (i := 35) rfl))) (mvT hZ (hw _ (List.mem_of_getElem? (i := 36) rfl))) (mvT hZ (hw _ (List.mem_of_getElem? (i := 37) rfl))) (by decide) (own_back (rm := ({ frames := 4, cells := 1, slots := 2, locals := 76 } : Room)) (W := 0) (own_ofP l Z a0 hw [] b65 va pg mb sp sm tp tm kv kp km own_gp own_gm t kt (fun j => own_lo ((own_fl [r5, r11, r17, r23, r29, r35, r41, r47, r53, r59]) j)) w1 T70.heap O72 HD S1 hw1 (by omega) Hs he) hZ (hw _ (List.mem_of_getElem? (i := 37) rfl)) (hw _ (List.mem_of_getElem? (i := 36) rfl)) (by decide) (by decide)) (g := (mkF m 127 #[.val (.int p0), .val (.int p1), .val (.ref b1), .unset] [(.ref b65)])) rfl (by rw [hml]; rfl) (argsL := [(.ref b65)]) (rest := []) (lenOf own_pd366 rfl) rfl (by show 2 * 0 + _ ≤ _; exact Nat.le_of_eq rfl) (hb hby at_127) (fun _ _ => ⟨rfl, rfl, (by decide : 0 + 1 + 0 + 0 + 0 + 0 + 0 + 0 + 0 + 0 + 0 + 0 + 1 + 2 + 1 ≤ _), (by decide : 0 + 10 + 0 + 0 + 0 + 0 + 0 + 0 + 0 + 0 + 0 + 0 + 4 + 30 + 2 ≤ _)⟩)
    dsimp only [Pt.U, Pt.locs, Pt.cells, Pt.slots] at X74 l74 y74 z74 st74 hQ74
    subst l74 y74 z74
    obtain ⟨rfl, N74q, K74_⟩ := hQ74
    have N74 := Fr.app N70 N74q
    refine own_st st74 ?_
    have z75 : T70.heap.size ≤ T74.heap.size := K74_.1
    have O76 := Old.keep O72 K74_ all0
    have K77 : Keep h0 T74.heap [] := K73.trans K74_ all0
    show own_G _ _ _ _ (T74.setTop (mkF m 130 #[.val (.int p0), .val (.int p1), .val (.ref b1), .unset] [(.ref pg)]))
    refine own_st (fun _ k => XS.astoreN X74.here hx rfl (hb hby at_130) rfl rfl (l' := #[.val (.int p0), .val (.int p1), .val (.ref b1), .val (.ref pg)]) rfl k) ?_
    show own_G _ _ _ _ (T74.setTop (mkF m 131 #[.val (.int p0), .val (.int p1), .val (.ref b1), .val (.ref pg)] []))
    refine own_st (fun _ k => XS.aloadN X74.here hx rfl (hb hby at_131) rfl rfl k) ?_
    show own_G _ _ _ _ (T74.setTop (mkF m 132 #[.val (.int p0), .val (.int p1), .val (.ref b1), .val (.ref pg)] [(.ref pg)]))
    obtain ⟨T78, X78, e78, st78⟩ := getS2 X74 hx hZ hown (host := "") (Or.inl (hw _ (List.mem_of_getElem? (i := 85) rfl))) Via.refl rfl (Sta.ext O76.2 D2) (g := (mkF m 132 #[.val (.int p0), .val (.int p1), .val (.ref b1), .val (.ref pg)] [(.ref pg)])) rfl (hb hby at_132)
    refine own_st st78 ?_
    show own_G _ _ _ _ (T78.setTop (mkF m 135 #[.val (.int p0), .val (.int p1), .val (.ref b1), .val (.ref pg)] [(.ref pg), (.ref pg)]))
    refine own_st (fun _ k => Jvm.RoadKit.acmp (g := (mkF m 135 #[.val (.int p0), .val (.int p1), .val (.ref b1), .val (.ref pg)] [(.ref pg), (.ref pg)])) X78 hx rfl rfl rfl (pc0 := 135) (pc' := 138) (same := true) rfl (hb hby at_135) rfl (decide_eq_true rfl) (by decide) (by decide) k) ?_
    show own_G _ _ _ _ (T78.setTop (mkF m 138 #[.val (.int p0), .val (.int p1), .val (.ref b1), .val (.ref pg)] []))
    refine own_st (fun _ k => XS.iconst X78.here hx rfl (hb hby at_138) k) ?_
    show own_G _ _ _ _ (T78.setTop (mkF m 139 #[.val (.int p0), .val (.int p1), .val (.ref b1), .val (.ref pg)] [(.int (1 : Int32))]))
    refine own_st (fun _ k => XS.goto X78.here hx rfl (pc0 := 139) (pc' := 143) rfl (hb hby at_139) (by decide) (by decide) k) ?_
    show own_G _ _ _ _ (T78.setTop (mkF m 143 #[.val (.int p0), .val (.int p1), .val (.ref b1), .val (.ref pg)] [(.int (1 : Int32))]))
    exact own_retN X78 hx hret hlk (by simp) (hb hby at_143) ⟨rfl, N74⟩ (by decide) (by decide)
  · show own_G _ _ _ _ (T0.setTop (mkF m 3 #[.val (.int p0), .val (.int p1), .unset, .unset] [(.int (p0 &&& (1 : Int32)))]))
    refine own_st (fun _ k => XS.ifYes X0.here hx rfl (pc0 := 3) (pc' := 144) rfl (hb hby at_3) rfl ((if0 _ _).trans (feq h1).2) (by decide) (by decide) k) ?_
    show own_G _ _ _ _ (T0.setTop (mkF m 144 #[.val (.int p0), .val (.int p1), .unset, .unset] []))
    refine own_st (fun _ k => XS.bipush X0.here hx rfl (hb hby at_144) k) ?_
    show own_G _ _ _ _ (T0.setTop (mkF m 146 #[.val (.int p0), .val (.int p1), .unset, .unset] [(.int (7 : Int32))]))
    obtain ⟨T79, h79, k79, X79, e79, E79, A79, st79⟩ := newP X0 hx hZ (hw _ (List.mem_of_getElem? (i := 0) rfl)) e0 (g := (mkF m 146 #[.val (.int p0), .val (.int p1), .unset, .unset] [(.int (7 : Int32))])) rfl (hb hby at_146) rfl (by decide) (cap := 7) (by decide) (by decide) (by decide) (by decide)
    obtain ⟨b79, g79⟩ : ∃ z, z = h0.size := ⟨_, rfl⟩
    rw [← g79] at A79 st79
    refine own_st st79 ?_
    have z80 : h0.size ≤ h79.size := E79.1
    have O81 := Old.ext O0 E79
    have K82 : Keep h0 h79 [] := Kr.ext E79
    have V79 : Arv Z h79 b79 k79 .char (7 : Int32) [(.int (0 : Int32)), (.int (0 : Int32)), (.int (0 : Int32)), (.int (0 : Int32)), (.int (0 : Int32)), (.int (0 : Int32)), (.int (0 : Int32))] (.int (0 : Int32)) := (Arv.new A79 (by decide)).pad (pad_rep [] (.int (0 : Int32)) 7)
    have lt79 := own_ltN A79.lt
    show own_G _ _ _ _ (T79.setTop (mkF m 148 #[.val (.int p0), .val (.int p1), .unset, .unset] [(.ref b79)]))
    refine own_st (fun _ k => XS.astoreN X79.here hx rfl (hb hby at_148) rfl rfl (l' := #[.val (.int p0), .val (.int p1), .val (.ref b79), .unset]) rfl k) ?_
    show own_G _ _ _ _ (T79.setTop (mkF m 149 #[.val (.int p0), .val (.int p1), .val (.ref b79), .unset] []))
    refine own_st (fun _ k => XS.aloadN X79.here hx rfl (hb hby at_149) rfl rfl k) ?_
    show own_G _ _ _ _ (T79.setTop (mkF m 150 #[.val (.int p0), .val (.int p1), .val (.ref b79), .unset] [(.ref b79)]))
    refine own_st (fun _ k => XS.iconst X79.here hx rfl (hb hby at_150) k) ?_
    show own_G _ _ _ _ (T79.setTop (mkF m 151 #[.val (.int p0), .val (.int p1), .val (.ref b79), .unset] [(.int (0 : Int32)), (.ref b79)]))
    refine own_st (fun _ k => XS.bipush X79.here hx rfl (hb hby at_151) k) ?_
    show own_G _ _ _ _ (T79.setTop (mkF m 153 #[.val (.int p0), .val (.int p1), .val (.ref b79), .unset] [(.int (77 : Int32)), (.int (0 : Int32)), (.ref b79)]))
    refine own_st (fun _ k => XS.iloadN X79.here hx rfl (hb hby at_153) rfl k) ?_
    show own_G _ _ _ _ (T79.setTop (mkF m 154 #[.val (.int p0), .val (.int p1), .val (.ref b79), .unset] [(.int p1), (.int (77 : Int32)), (.int (0 : Int32)), (.ref b79)]))
    refine own_st (fun _ k => XS.iconst X79.here hx rfl (hb hby at_154) k) ?_
    show own_G _ _ _ _ (T79.setTop (mkF m 155 #[.val (.int p0), .val (.int p1), .val (.ref b79), .unset] [(.int (0 : Int32)), (.int p1), (.int (77 : Int32)), (.int (0 : Int32)), (.ref b79)]))
    obtain ⟨_, _, ⟨T83, L83, k83, n83⟩, -, X83, ⟨Lc83, hQ83, l83, y83, z83⟩, st83⟩ := Jvm.LawKit.callS X79 hx (y := (⟨"com/example/limpet/limpet/jdbc/DialectOfProductPinLaw", "c", "(CII)C"⟩ : MethodName)) hown (mvT hZ (hw _ (List.mem_of_getElem? (i := 1) rfl))) (mvT hZ (hw _ (List.mem_of_getElem? (i := 2) rfl))) (mvT hZ (hw _ (List.mem_of_getElem? (i := 3) rfl))) (mvT hZ (hw _ (List.mem_of_getElem? (i := 4) rfl))) (by decide) (own_back (rm := ({ frames := 0, cells := 0, slots := 0, locals := 0 } : Room)) (W := 2) (own_c l Z a0 hw [] (77 : Int32) p1 (0 : Int32) (109 : Int32) h79 O81 rfl (Or.inr ⟨by decide, by decide, by decide, rfl⟩)) hZ (hw _ (List.mem_of_getElem? (i := 4) rfl)) (hw _ (List.mem_of_getElem? (i := 3) rfl)) (by decide) (by decide)) (g := (mkF m 155 #[.val (.int p0), .val (.int p1), .val (.ref b79), .unset] [(.int (0 : Int32)), (.int p1), (.int (77 : Int32)), (.int (0 : Int32)), (.ref b79)])) rfl (by rw [hml]; rfl) (argsL := [(.int (77 : Int32)), (.int p1), (.int (0 : Int32))]) (rest := [(.int (0 : Int32)), (.ref b79)]) (lenOf own_pd295 rfl) rfl (by show 2 * 0 + _ ≤ _; exact Nat.le_of_eq rfl) (hb hby at_155) (fun _ _ => ⟨rfl, e79, (by decide : 0 + 1 + 0 ≤ _), (by decide : 0 + 7 + 0 ≤ _)⟩)
    dsimp only [Pt.U, Pt.locs, Pt.cells, Pt.slots] at X83 l83 y83 z83 st83 hQ83
    subst l83 y83 z83
    obtain ⟨r83, rfl, N83q, eh83, c83⟩ := hQ83
    have N83 := Fr.app N0 N83q
    refine own_st st83 ?_
    show own_G _ _ _ _ (T83.setTop (mkF m 158 #[.val (.int p0), .val (.int p1), .val (.ref b79), .unset] [(.int r83), (.int (0 : Int32)), (.ref b79)]))
    obtain ⟨cl84, Ar84, qk84, Sz84, Mz84, Hz84, Uz84⟩ := id V79
    obtain ⟨T85, h85, X85, e85, W85, st85⟩ := stC X83 hx hZ eh83 Ar84 (j := (0 : Int32)) (inb_of Sz84 ⟨by decide, by decide⟩) (g := (mkF m 158 #[.val (.int p0), .val (.int p1), .val (.ref b79), .unset] [(.int r83), (.int (0 : Int32)), (.ref b79)])) rfl rfl (hb hby at_158)
    refine own_st st85 ?_
    have V85 := Arv.set Ar84 qk84 Sz84 Mz84 Hz84 Uz84 (fits_nar_char _) W85 0 rfl (Nat.le_of_ble_eq_true rfl)
    have z86 : h85.size = h79.size := W85.size
    have O87 := Old.wr O81 W85 (by omega)
    have K88 : Keep h0 h85 [] := K82.wr W85 (Or.inr (by omega))
    have N85 := Fr.snoc X85 N83 (by omega : Z.heap.size ≤ b79)
    have V85' : Arv Z h85 b79 k79 .char (7 : Int32) [(.int (nar .char r83)), (.int (0 : Int32)), (.int (0 : Int32)), (.int (0 : Int32)), (.int (0 : Int32)), (.int (0 : Int32)), (.int (0 : Int32))] (.int (0 : Int32)) := V85
    show own_G _ _ _ _ (T85.setTop (mkF m 159 #[.val (.int p0), .val (.int p1), .val (.ref b79), .unset] []))
    refine own_st (fun _ k => XS.aloadN X85.here hx rfl (hb hby at_159) rfl rfl k) ?_
    show own_G _ _ _ _ (T85.setTop (mkF m 160 #[.val (.int p0), .val (.int p1), .val (.ref b79), .unset] [(.ref b79)]))
    refine own_st (fun _ k => XS.iconst X85.here hx rfl (hb hby at_160) k) ?_
    show own_G _ _ _ _ (T85.setTop (mkF m 161 #[.val (.int p0), .val (.int p1), .val (.ref b79), .unset] [(.int (1 : Int32)), (.ref b79)]))
    refine own_st (fun _ k => XS.bipush X85.here hx rfl (hb hby at_161) k) ?_
    show own_G _ _ _ _ (T85.setTop (mkF m 163 #[.val (.int p0), .val (.int p1), .val (.ref b79), .unset] [(.int (97 : Int32)), (.int (1 : Int32)), (.ref b79)]))
    refine own_st (fun _ k => XS.iloadN X85.here hx rfl (hb hby at_163) rfl k) ?_
    show own_G _ _ _ _ (T85.setTop (mkF m 164 #[.val (.int p0), .val (.int p1), .val (.ref b79), .unset] [(.int p1), (.int (97 : Int32)), (.int (1 : Int32)), (.ref b79)]))
    refine own_st (fun _ k => XS.iconst X85.here hx rfl (hb hby at_164) k) ?_
    show own_G _ _ _ _ (T85.setTop (mkF m 165 #[.val (.int p0), .val (.int p1), .val (.ref b79), .unset] [(.int (1 : Int32)), (.int p1), (.int (97 : Int32)), (.int (1 : Int32)), (.ref b79)]))
    obtain ⟨_, _, ⟨T89, L89, k89, n89⟩, -, X89, ⟨Lc89, hQ89, l89, y89, z89⟩, st89⟩ := Jvm.LawKit.callS X85 hx (y := (⟨"com/example/limpet/limpet/jdbc/DialectOfProductPinLaw", "c", "(CII)C"⟩ : MethodName)) hown (mvT hZ (hw _ (List.mem_of_getElem? (i := 1) rfl))) (mvT hZ (hw _ (List.mem_of_getElem? (i := 2) rfl))) (mvT hZ (hw _ (List.mem_of_getElem? (i := 3) rfl))) (mvT hZ (hw _ (List.mem_of_getElem? (i := 4) rfl))) (by decide) (own_back (rm := ({ frames := 0, cells := 0, slots := 0, locals := 0 } : Room)) (W := 2) (own_c l Z a0 hw [] (97 : Int32) p1 (1 : Int32) (65 : Int32) h85 O87 rfl (Or.inl ⟨by decide, by decide, rfl⟩)) hZ (hw _ (List.mem_of_getElem? (i := 4) rfl)) (hw _ (List.mem_of_getElem? (i := 3) rfl)) (by decide) (by decide)) (g := (mkF m 165 #[.val (.int p0), .val (.int p1), .val (.ref b79), .unset] [(.int (1 : Int32)), (.int p1), (.int (97 : Int32)), (.int (1 : Int32)), (.ref b79)])) rfl (by rw [hml]; rfl) (argsL := [(.int (97 : Int32)), (.int p1), (.int (1 : Int32))]) (rest := [(.int (1 : Int32)), (.ref b79)]) (lenOf own_pd295 rfl) rfl (by show 2 * 0 + _ ≤ _; exact Nat.le_of_eq rfl) (hb hby at_165) (fun _ _ => ⟨rfl, e85, (by decide : 0 + 1 + 0 + 0 ≤ _), (by decide : 0 + 7 + 0 + 0 ≤ _)⟩)
    dsimp only [Pt.U, Pt.locs, Pt.cells, Pt.slots] at X89 l89 y89 z89 st89 hQ89
    subst l89 y89 z89
    obtain ⟨r89, rfl, N89q, eh89, c89⟩ := hQ89
    have N89 := Fr.app N85 N89q
    refine own_st st89 ?_
    show own_G _ _ _ _ (T89.setTop (mkF m 168 #[.val (.int p0), .val (.int p1), .val (.ref b79), .unset] [(.int r89), (.int (1 : Int32)), (.ref b79)]))
    obtain ⟨cl90, Ar90, qk90, Sz90, Mz90, Hz90, Uz90⟩ := id V85'
    obtain ⟨T91, h91, X91, e91, W91, st91⟩ := stC X89 hx hZ eh89 Ar90 (j := (1 : Int32)) (inb_of Sz90 ⟨by decide, by decide⟩) (g := (mkF m 168 #[.val (.int p0), .val (.int p1), .val (.ref b79), .unset] [(.int r89), (.int (1 : Int32)), (.ref b79)])) rfl rfl (hb hby at_168)
    refine own_st st91 ?_
    have V91 := Arv.set Ar90 qk90 Sz90 Mz90 Hz90 Uz90 (fits_nar_char _) W91 1 rfl (Nat.le_of_ble_eq_true rfl)
    have z92 : h91.size = h85.size := W91.size
    have O93 := Old.wr O87 W91 (by omega)
    have K94 : Keep h0 h91 [] := K88.wr W91 (Or.inr (by omega))
    have N91 := Fr.snoc X91 N89 (by omega : Z.heap.size ≤ b79)
    have V91' : Arv Z h91 b79 k79 .char (7 : Int32) [(.int (nar .char r83)), (.int (nar .char r89)), (.int (0 : Int32)), (.int (0 : Int32)), (.int (0 : Int32)), (.int (0 : Int32)), (.int (0 : Int32))] (.int (0 : Int32)) := V91
    show own_G _ _ _ _ (T91.setTop (mkF m 169 #[.val (.int p0), .val (.int p1), .val (.ref b79), .unset] []))
    refine own_st (fun _ k => XS.aloadN X91.here hx rfl (hb hby at_169) rfl rfl k) ?_
    show own_G _ _ _ _ (T91.setTop (mkF m 170 #[.val (.int p0), .val (.int p1), .val (.ref b79), .unset] [(.ref b79)]))
    refine own_st (fun _ k => XS.iconst X91.here hx rfl (hb hby at_170) k) ?_
    show own_G _ _ _ _ (T91.setTop (mkF m 171 #[.val (.int p0), .val (.int p1), .val (.ref b79), .unset] [(.int (2 : Int32)), (.ref b79)]))
    refine own_st (fun _ k => XS.bipush X91.here hx rfl (hb hby at_171) k) ?_
    show own_G _ _ _ _ (T91.setTop (mkF m 173 #[.val (.int p0), .val (.int p1), .val (.ref b79), .unset] [(.int (114 : Int32)), (.int (2 : Int32)), (.ref b79)]))
    refine own_st (fun _ k => XS.iloadN X91.here hx rfl (hb hby at_173) rfl k) ?_
    show own_G _ _ _ _ (T91.setTop (mkF m 174 #[.val (.int p0), .val (.int p1), .val (.ref b79), .unset] [(.int p1), (.int (114 : Int32)), (.int (2 : Int32)), (.ref b79)]))
    refine own_st (fun _ k => XS.iconst X91.here hx rfl (hb hby at_174) k) ?_
    show own_G _ _ _ _ (T91.setTop (mkF m 175 #[.val (.int p0), .val (.int p1), .val (.ref b79), .unset] [(.int (2 : Int32)), (.int p1), (.int (114 : Int32)), (.int (2 : Int32)), (.ref b79)]))
    obtain ⟨_, _, ⟨T95, L95, k95, n95⟩, -, X95, ⟨Lc95, hQ95, l95, y95, z95⟩, st95⟩ := Jvm.LawKit.callS X91 hx (y := (⟨"com/example/limpet/limpet/jdbc/DialectOfProductPinLaw", "c", "(CII)C"⟩ : MethodName)) hown (mvT hZ (hw _ (List.mem_of_getElem? (i := 1) rfl))) (mvT hZ (hw _ (List.mem_of_getElem? (i := 2) rfl))) (mvT hZ (hw _ (List.mem_of_getElem? (i := 3) rfl))) (mvT hZ (hw _ (List.mem_of_getElem? (i := 4) rfl))) (by decide) (own_back (rm := ({ frames := 0, cells := 0, slots := 0, locals := 0 } : Room)) (W := 2) (own_c l Z a0 hw [] (114 : Int32) p1 (2 : Int32) (82 : Int32) h91 O93 rfl (Or.inl ⟨by decide, by decide, rfl⟩)) hZ (hw _ (List.mem_of_getElem? (i := 4) rfl)) (hw _ (List.mem_of_getElem? (i := 3) rfl)) (by decide) (by decide)) (g := (mkF m 175 #[.val (.int p0), .val (.int p1), .val (.ref b79), .unset] [(.int (2 : Int32)), (.int p1), (.int (114 : Int32)), (.int (2 : Int32)), (.ref b79)])) rfl (by rw [hml]; rfl) (argsL := [(.int (114 : Int32)), (.int p1), (.int (2 : Int32))]) (rest := [(.int (2 : Int32)), (.ref b79)]) (lenOf own_pd295 rfl) rfl (by show 2 * 0 + _ ≤ _; exact Nat.le_of_eq rfl) (hb hby at_175) (fun _ _ => ⟨rfl, e91, (by decide : 0 + 1 + 0 + 0 + 0 ≤ _), (by decide : 0 + 7 + 0 + 0 + 0 ≤ _)⟩)
    dsimp only [Pt.U, Pt.locs, Pt.cells, Pt.slots] at X95 l95 y95 z95 st95 hQ95
    subst l95 y95 z95
    obtain ⟨r95, rfl, N95q, eh95, c95⟩ := hQ95
    have N95 := Fr.app N91 N95q
    refine own_st st95 ?_
    show own_G _ _ _ _ (T95.setTop (mkF m 178 #[.val (.int p0), .val (.int p1), .val (.ref b79), .unset] [(.int r95), (.int (2 : Int32)), (.ref b79)]))
    obtain ⟨cl96, Ar96, qk96, Sz96, Mz96, Hz96, Uz96⟩ := id V91'
    obtain ⟨T97, h97, X97, e97, W97, st97⟩ := stC X95 hx hZ eh95 Ar96 (j := (2 : Int32)) (inb_of Sz96 ⟨by decide, by decide⟩) (g := (mkF m 178 #[.val (.int p0), .val (.int p1), .val (.ref b79), .unset] [(.int r95), (.int (2 : Int32)), (.ref b79)])) rfl rfl (hb hby at_178)
    refine own_st st97 ?_
    have V97 := Arv.set Ar96 qk96 Sz96 Mz96 Hz96 Uz96 (fits_nar_char _) W97 2 rfl (Nat.le_of_ble_eq_true rfl)
    have z98 : h97.size = h91.size := W97.size
    have O99 := Old.wr O93 W97 (by omega)
    have K100 : Keep h0 h97 [] := K94.wr W97 (Or.inr (by omega))
    have N97 := Fr.snoc X97 N95 (by omega : Z.heap.size ≤ b79)
    have V97' : Arv Z h97 b79 k79 .char (7 : Int32) [(.int (nar .char r83)), (.int (nar .char r89)), (.int (nar .char r95)), (.int (0 : Int32)), (.int (0 : Int32)), (.int (0 : Int32)), (.int (0 : Int32))] (.int (0 : Int32)) := V97
    show own_G _ _ _ _ (T97.setTop (mkF m 179 #[.val (.int p0), .val (.int p1), .val (.ref b79), .unset] []))
    refine own_st (fun _ k => XS.aloadN X97.here hx rfl (hb hby at_179) rfl rfl k) ?_
    show own_G _ _ _ _ (T97.setTop (mkF m 180 #[.val (.int p0), .val (.int p1), .val (.ref b79), .unset] [(.ref b79)]))
    refine own_st (fun _ k => XS.iconst X97.here hx rfl (hb hby at_180) k) ?_
    show own_G _ _ _ _ (T97.setTop (mkF m 181 #[.val (.int p0), .val (.int p1), .val (.ref b79), .unset] [(.int (3 : Int32)), (.ref b79)]))
    refine own_st (fun _ k => XS.bipush X97.here hx rfl (hb hby at_181) k) ?_
    show own_G _ _ _ _ (T97.setTop (mkF m 183 #[.val (.int p0), .val (.int p1), .val (.ref b79), .unset] [(.int (105 : Int32)), (.int (3 : Int32)), (.ref b79)]))
    refine own_st (fun _ k => XS.iloadN X97.here hx rfl (hb hby at_183) rfl k) ?_
    show own_G _ _ _ _ (T97.setTop (mkF m 184 #[.val (.int p0), .val (.int p1), .val (.ref b79), .unset] [(.int p1), (.int (105 : Int32)), (.int (3 : Int32)), (.ref b79)]))
    refine own_st (fun _ k => XS.iconst X97.here hx rfl (hb hby at_184) k) ?_
    show own_G _ _ _ _ (T97.setTop (mkF m 185 #[.val (.int p0), .val (.int p1), .val (.ref b79), .unset] [(.int (3 : Int32)), (.int p1), (.int (105 : Int32)), (.int (3 : Int32)), (.ref b79)]))
    obtain ⟨_, _, ⟨T101, L101, k101, n101⟩, -, X101, ⟨Lc101, hQ101, l101, y101, z101⟩, st101⟩ := Jvm.LawKit.callS X97 hx (y := (⟨"com/example/limpet/limpet/jdbc/DialectOfProductPinLaw", "c", "(CII)C"⟩ : MethodName)) hown (mvT hZ (hw _ (List.mem_of_getElem? (i := 1) rfl))) (mvT hZ (hw _ (List.mem_of_getElem? (i := 2) rfl))) (mvT hZ (hw _ (List.mem_of_getElem? (i := 3) rfl))) (mvT hZ (hw _ (List.mem_of_getElem? (i := 4) rfl))) (by decide) (own_back (rm := ({ frames := 0, cells := 0, slots := 0, locals := 0 } : Room)) (W := 2) (own_c l Z a0 hw [] (105 : Int32) p1 (3 : Int32) (73 : Int32) h97 O99 rfl (Or.inl ⟨by decide, by decide, rfl⟩)) hZ (hw _ (List.mem_of_getElem? (i := 4) rfl)) (hw _ (List.mem_of_getElem? (i := 3) rfl)) (by decide) (by decide)) (g := (mkF m 185 #[.val (.int p0), .val (.int p1), .val (.ref b79), .unset] [(.int (3 : Int32)), (.int p1), (.int (105 : Int32)), (.int (3 : Int32)), (.ref b79)])) rfl (by rw [hml]; rfl) (argsL := [(.int (105 : Int32)), (.int p1), (.int (3 : Int32))]) (rest := [(.int (3 : Int32)), (.ref b79)]) (lenOf own_pd295 rfl) rfl (by show 2 * 0 + _ ≤ _; exact Nat.le_of_eq rfl) (hb hby at_185) (fun _ _ => ⟨rfl, e97, (by decide : 0 + 1 + 0 + 0 + 0 + 0 ≤ _), (by decide : 0 + 7 + 0 + 0 + 0 + 0 ≤ _)⟩)
    dsimp only [Pt.U, Pt.locs, Pt.cells, Pt.slots] at X101 l101 y101 z101 st101 hQ101
    subst l101 y101 z101
    obtain ⟨r101, rfl, N101q, eh101, c101⟩ := hQ101
    have N101 := Fr.app N97 N101q
    refine own_st st101 ?_
    show own_G _ _ _ _ (T101.setTop (mkF m 188 #[.val (.int p0), .val (.int p1), .val (.ref b79), .unset] [(.int r101), (.int (3 : Int32)), (.ref b79)]))
    obtain ⟨cl102, Ar102, qk102, Sz102, Mz102, Hz102, Uz102⟩ := id V97'
    obtain ⟨T103, h103, X103, e103, W103, st103⟩ := stC X101 hx hZ eh101 Ar102 (j := (3 : Int32)) (inb_of Sz102 ⟨by decide, by decide⟩) (g := (mkF m 188 #[.val (.int p0), .val (.int p1), .val (.ref b79), .unset] [(.int r101), (.int (3 : Int32)), (.ref b79)])) rfl rfl (hb hby at_188)
    refine own_st st103 ?_
    have V103 := Arv.set Ar102 qk102 Sz102 Mz102 Hz102 Uz102 (fits_nar_char _) W103 3 rfl (Nat.le_of_ble_eq_true rfl)
    have z104 : h103.size = h97.size := W103.size
    have O105 := Old.wr O99 W103 (by omega)
    have K106 : Keep h0 h103 [] := K100.wr W103 (Or.inr (by omega))
    have N103 := Fr.snoc X103 N101 (by omega : Z.heap.size ≤ b79)
    have V103' : Arv Z h103 b79 k79 .char (7 : Int32) [(.int (nar .char r83)), (.int (nar .char r89)), (.int (nar .char r95)), (.int (nar .char r101)), (.int (0 : Int32)), (.int (0 : Int32)), (.int (0 : Int32))] (.int (0 : Int32)) := V103
    show own_G _ _ _ _ (T103.setTop (mkF m 189 #[.val (.int p0), .val (.int p1), .val (.ref b79), .unset] []))
    refine own_st (fun _ k => XS.aloadN X103.here hx rfl (hb hby at_189) rfl rfl k) ?_
    show own_G _ _ _ _ (T103.setTop (mkF m 190 #[.val (.int p0), .val (.int p1), .val (.ref b79), .unset] [(.ref b79)]))
    refine own_st (fun _ k => XS.iconst X103.here hx rfl (hb hby at_190) k) ?_
    show own_G _ _ _ _ (T103.setTop (mkF m 191 #[.val (.int p0), .val (.int p1), .val (.ref b79), .unset] [(.int (4 : Int32)), (.ref b79)]))
    refine own_st (fun _ k => XS.bipush X103.here hx rfl (hb hby at_191) k) ?_
    show own_G _ _ _ _ (T103.setTop (mkF m 193 #[.val (.int p0), .val (.int p1), .val (.ref b79), .unset] [(.int (97 : Int32)), (.int (4 : Int32)), (.ref b79)]))
    refine own_st (fun _ k => XS.iloadN X103.here hx rfl (hb hby at_193) rfl k) ?_
    show own_G _ _ _ _ (T103.setTop (mkF m 194 #[.val (.int p0), .val (.int p1), .val (.ref b79), .unset] [(.int p1), (.int (97 : Int32)), (.int (4 : Int32)), (.ref b79)]))
    refine own_st (fun _ k => XS.iconst X103.here hx rfl (hb hby at_194) k) ?_
    show own_G _ _ _ _ (T103.setTop (mkF m 195 #[.val (.int p0), .val (.int p1), .val (.ref b79), .unset] [(.int (4 : Int32)), (.int p1), (.int (97 : Int32)), (.int (4 : Int32)), (.ref b79)]))
    obtain ⟨_, _, ⟨T107, L107, k107, n107⟩, -, X107, ⟨Lc107, hQ107, l107, y107, z107⟩, st107⟩ := Jvm.LawKit.callS X103 hx (y := (⟨"com/example/limpet/limpet/jdbc/DialectOfProductPinLaw", "c", "(CII)C"⟩ : MethodName)) hown (mvT hZ (hw _ (List.mem_of_getElem? (i := 1) rfl))) (mvT hZ (hw _ (List.mem_of_getElem? (i := 2) rfl))) (mvT hZ (hw _ (List.mem_of_getElem? (i := 3) rfl))) (mvT hZ (hw _ (List.mem_of_getElem? (i := 4) rfl))) (by decide) (own_back (rm := ({ frames := 0, cells := 0, slots := 0, locals := 0 } : Room)) (W := 2) (own_c l Z a0 hw [] (97 : Int32) p1 (4 : Int32) (65 : Int32) h103 O105 rfl (Or.inl ⟨by decide, by decide, rfl⟩)) hZ (hw _ (List.mem_of_getElem? (i := 4) rfl)) (hw _ (List.mem_of_getElem? (i := 3) rfl)) (by decide) (by decide)) (g := (mkF m 195 #[.val (.int p0), .val (.int p1), .val (.ref b79), .unset] [(.int (4 : Int32)), (.int p1), (.int (97 : Int32)), (.int (4 : Int32)), (.ref b79)])) rfl (by rw [hml]; rfl) (argsL := [(.int (97 : Int32)), (.int p1), (.int (4 : Int32))]) (rest := [(.int (4 : Int32)), (.ref b79)]) (lenOf own_pd295 rfl) rfl (by show 2 * 0 + _ ≤ _; exact Nat.le_of_eq rfl) (hb hby at_195) (fun _ _ => ⟨rfl, e103, (by decide : 0 + 1 + 0 + 0 + 0 + 0 + 0 ≤ _), (by decide : 0 + 7 + 0 + 0 + 0 + 0 + 0 ≤ _)⟩)
    dsimp only [Pt.U, Pt.locs, Pt.cells, Pt.slots] at X107 l107 y107 z107 st107 hQ107
    subst l107 y107 z107
    obtain ⟨r107, rfl, N107q, eh107, c107⟩ := hQ107
    have N107 := Fr.app N103 N107q
    refine own_st st107 ?_
    show own_G _ _ _ _ (T107.setTop (mkF m 198 #[.val (.int p0), .val (.int p1), .val (.ref b79), .unset] [(.int r107), (.int (4 : Int32)), (.ref b79)]))
    obtain ⟨cl108, Ar108, qk108, Sz108, Mz108, Hz108, Uz108⟩ := id V103'
    obtain ⟨T109, h109, X109, e109, W109, st109⟩ := stC X107 hx hZ eh107 Ar108 (j := (4 : Int32)) (inb_of Sz108 ⟨by decide, by decide⟩) (g := (mkF m 198 #[.val (.int p0), .val (.int p1), .val (.ref b79), .unset] [(.int r107), (.int (4 : Int32)), (.ref b79)])) rfl rfl (hb hby at_198)
    refine own_st st109 ?_
    have V109 := Arv.set Ar108 qk108 Sz108 Mz108 Hz108 Uz108 (fits_nar_char _) W109 4 rfl (Nat.le_of_ble_eq_true rfl)
    have z110 : h109.size = h103.size := W109.size
    have O111 := Old.wr O105 W109 (by omega)
    have K112 : Keep h0 h109 [] := K106.wr W109 (Or.inr (by omega))
    have N109 := Fr.snoc X109 N107 (by omega : Z.heap.size ≤ b79)
    have V109' : Arv Z h109 b79 k79 .char (7 : Int32) [(.int (nar .char r83)), (.int (nar .char r89)), (.int (nar .char r95)), (.int (nar .char r101)), (.int (nar .char r107)), (.int (0 : Int32)), (.int (0 : Int32))] (.int (0 : Int32)) := V109
    show own_G _ _ _ _ (T109.setTop (mkF m 199 #[.val (.int p0), .val (.int p1), .val (.ref b79), .unset] []))
    refine own_st (fun _ k => XS.aloadN X109.here hx rfl (hb hby at_199) rfl rfl k) ?_
    show own_G _ _ _ _ (T109.setTop (mkF m 200 #[.val (.int p0), .val (.int p1), .val (.ref b79), .unset] [(.ref b79)]))
    refine own_st (fun _ k => XS.iconst X109.here hx rfl (hb hby at_200) k) ?_
    show own_G _ _ _ _ (T109.setTop (mkF m 201 #[.val (.int p0), .val (.int p1), .val (.ref b79), .unset] [(.int (5 : Int32)), (.ref b79)]))
    refine own_st (fun _ k => XS.bipush X109.here hx rfl (hb hby at_201) k) ?_
    show own_G _ _ _ _ (T109.setTop (mkF m 203 #[.val (.int p0), .val (.int p1), .val (.ref b79), .unset] [(.int (68 : Int32)), (.int (5 : Int32)), (.ref b79)]))
    refine own_st (fun _ k => XS.iloadN X109.here hx rfl (hb hby at_203) rfl k) ?_
    show own_G _ _ _ _ (T109.setTop (mkF m 204 #[.val (.int p0), .val (.int p1), .val (.ref b79), .unset] [(.int p1), (.int (68 : Int32)), (.int (5 : Int32)), (.ref b79)]))
    refine own_st (fun _ k => XS.iconst X109.here hx rfl (hb hby at_204) k) ?_
    show own_G _ _ _ _ (T109.setTop (mkF m 205 #[.val (.int p0), .val (.int p1), .val (.ref b79), .unset] [(.int (5 : Int32)), (.int p1), (.int (68 : Int32)), (.int (5 : Int32)), (.ref b79)]))
    obtain ⟨_, _, ⟨T113, L113, k113, n113⟩, -, X113, ⟨Lc113, hQ113, l113, y113, z113⟩, st113⟩ := Jvm.LawKit.callS X109 hx (y := (⟨"com/example/limpet/limpet/jdbc/DialectOfProductPinLaw", "c", "(CII)C"⟩ : MethodName)) hown (mvT hZ (hw _ (List.mem_of_getElem? (i := 1) rfl))) (mvT hZ (hw _ (List.mem_of_getElem? (i := 2) rfl))) (mvT hZ (hw _ (List.mem_of_getElem? (i := 3) rfl))) (mvT hZ (hw _ (List.mem_of_getElem? (i := 4) rfl))) (by decide) (own_back (rm := ({ frames := 0, cells := 0, slots := 0, locals := 0 } : Room)) (W := 2) (own_c l Z a0 hw [] (68 : Int32) p1 (5 : Int32) (100 : Int32) h109 O111 rfl (Or.inr ⟨by decide, by decide, by decide, rfl⟩)) hZ (hw _ (List.mem_of_getElem? (i := 4) rfl)) (hw _ (List.mem_of_getElem? (i := 3) rfl)) (by decide) (by decide)) (g := (mkF m 205 #[.val (.int p0), .val (.int p1), .val (.ref b79), .unset] [(.int (5 : Int32)), (.int p1), (.int (68 : Int32)), (.int (5 : Int32)), (.ref b79)])) rfl (by rw [hml]; rfl) (argsL := [(.int (68 : Int32)), (.int p1), (.int (5 : Int32))]) (rest := [(.int (5 : Int32)), (.ref b79)]) (lenOf own_pd295 rfl) rfl (by show 2 * 0 + _ ≤ _; exact Nat.le_of_eq rfl) (hb hby at_205) (fun _ _ => ⟨rfl, e109, (by decide : 0 + 1 + 0 + 0 + 0 + 0 + 0 + 0 ≤ _), (by decide : 0 + 7 + 0 + 0 + 0 + 0 + 0 + 0 ≤ _)⟩)
    dsimp only [Pt.U, Pt.locs, Pt.cells, Pt.slots] at X113 l113 y113 z113 st113 hQ113
    subst l113 y113 z113
    obtain ⟨r113, rfl, N113q, eh113, c113⟩ := hQ113
    have N113 := Fr.app N109 N113q
    refine own_st st113 ?_
    show own_G _ _ _ _ (T113.setTop (mkF m 208 #[.val (.int p0), .val (.int p1), .val (.ref b79), .unset] [(.int r113), (.int (5 : Int32)), (.ref b79)]))
    obtain ⟨cl114, Ar114, qk114, Sz114, Mz114, Hz114, Uz114⟩ := id V109'
    obtain ⟨T115, h115, X115, e115, W115, st115⟩ := stC X113 hx hZ eh113 Ar114 (j := (5 : Int32)) (inb_of Sz114 ⟨by decide, by decide⟩) (g := (mkF m 208 #[.val (.int p0), .val (.int p1), .val (.ref b79), .unset] [(.int r113), (.int (5 : Int32)), (.ref b79)])) rfl rfl (hb hby at_208)
    refine own_st st115 ?_
    have V115 := Arv.set Ar114 qk114 Sz114 Mz114 Hz114 Uz114 (fits_nar_char _) W115 5 rfl (Nat.le_of_ble_eq_true rfl)
    have z116 : h115.size = h109.size := W115.size
    have O117 := Old.wr O111 W115 (by omega)
    have K118 : Keep h0 h115 [] := K112.wr W115 (Or.inr (by omega))
    have N115 := Fr.snoc X115 N113 (by omega : Z.heap.size ≤ b79)
    have V115' : Arv Z h115 b79 k79 .char (7 : Int32) [(.int (nar .char r83)), (.int (nar .char r89)), (.int (nar .char r95)), (.int (nar .char r101)), (.int (nar .char r107)), (.int (nar .char r113)), (.int (0 : Int32))] (.int (0 : Int32)) := V115
    show own_G _ _ _ _ (T115.setTop (mkF m 209 #[.val (.int p0), .val (.int p1), .val (.ref b79), .unset] []))
    refine own_st (fun _ k => XS.aloadN X115.here hx rfl (hb hby at_209) rfl rfl k) ?_
    show own_G _ _ _ _ (T115.setTop (mkF m 210 #[.val (.int p0), .val (.int p1), .val (.ref b79), .unset] [(.ref b79)]))
    refine own_st (fun _ k => XS.bipush X115.here hx rfl (hb hby at_210) k) ?_
    show own_G _ _ _ _ (T115.setTop (mkF m 212 #[.val (.int p0), .val (.int p1), .val (.ref b79), .unset] [(.int (6 : Int32)), (.ref b79)]))
    refine own_st (fun _ k => XS.bipush X115.here hx rfl (hb hby at_212) k) ?_
    show own_G _ _ _ _ (T115.setTop (mkF m 214 #[.val (.int p0), .val (.int p1), .val (.ref b79), .unset] [(.int (66 : Int32)), (.int (6 : Int32)), (.ref b79)]))
    refine own_st (fun _ k => XS.iloadN X115.here hx rfl (hb hby at_214) rfl k) ?_
    show own_G _ _ _ _ (T115.setTop (mkF m 215 #[.val (.int p0), .val (.int p1), .val (.ref b79), .unset] [(.int p1), (.int (66 : Int32)), (.int (6 : Int32)), (.ref b79)]))
    refine own_st (fun _ k => XS.bipush X115.here hx rfl (hb hby at_215) k) ?_
    show own_G _ _ _ _ (T115.setTop (mkF m 217 #[.val (.int p0), .val (.int p1), .val (.ref b79), .unset] [(.int (6 : Int32)), (.int p1), (.int (66 : Int32)), (.int (6 : Int32)), (.ref b79)]))
    obtain ⟨_, _, ⟨T119, L119, k119, n119⟩, -, X119, ⟨Lc119, hQ119, l119, y119, z119⟩, st119⟩ := Jvm.LawKit.callS X115 hx (y := (⟨"com/example/limpet/limpet/jdbc/DialectOfProductPinLaw", "c", "(CII)C"⟩ : MethodName)) hown (mvT hZ (hw _ (List.mem_of_getElem? (i := 1) rfl))) (mvT hZ (hw _ (List.mem_of_getElem? (i := 2) rfl))) (mvT hZ (hw _ (List.mem_of_getElem? (i := 3) rfl))) (mvT hZ (hw _ (List.mem_of_getElem? (i := 4) rfl))) (by decide) (own_back (rm := ({ frames := 0, cells := 0, slots := 0, locals := 0 } : Room)) (W := 2) (own_c l Z a0 hw [] (66 : Int32) p1 (6 : Int32) (98 : Int32) h115 O117 rfl (Or.inr ⟨by decide, by decide, by decide, rfl⟩)) hZ (hw _ (List.mem_of_getElem? (i := 4) rfl)) (hw _ (List.mem_of_getElem? (i := 3) rfl)) (by decide) (by decide)) (g := (mkF m 217 #[.val (.int p0), .val (.int p1), .val (.ref b79), .unset] [(.int (6 : Int32)), (.int p1), (.int (66 : Int32)), (.int (6 : Int32)), (.ref b79)])) rfl (by rw [hml]; rfl) (argsL := [(.int (66 : Int32)), (.int p1), (.int (6 : Int32))]) (rest := [(.int (6 : Int32)), (.ref b79)]) (lenOf own_pd295 rfl) rfl (by show 2 * 0 + _ ≤ _; exact Nat.le_of_eq rfl) (hb hby at_217) (fun _ _ => ⟨rfl, e115, (by decide : 0 + 1 + 0 + 0 + 0 + 0 + 0 + 0 + 0 ≤ _), (by decide : 0 + 7 + 0 + 0 + 0 + 0 + 0 + 0 + 0 ≤ _)⟩)
    dsimp only [Pt.U, Pt.locs, Pt.cells, Pt.slots] at X119 l119 y119 z119 st119 hQ119
    subst l119 y119 z119
    obtain ⟨r119, rfl, N119q, eh119, c119⟩ := hQ119
    have N119 := Fr.app N115 N119q
    refine own_st st119 ?_
    show own_G _ _ _ _ (T119.setTop (mkF m 220 #[.val (.int p0), .val (.int p1), .val (.ref b79), .unset] [(.int r119), (.int (6 : Int32)), (.ref b79)]))
    obtain ⟨cl120, Ar120, qk120, Sz120, Mz120, Hz120, Uz120⟩ := id V115'
    obtain ⟨T121, h121, X121, e121, W121, st121⟩ := stC X119 hx hZ eh119 Ar120 (j := (6 : Int32)) (inb_of Sz120 ⟨by decide, by decide⟩) (g := (mkF m 220 #[.val (.int p0), .val (.int p1), .val (.ref b79), .unset] [(.int r119), (.int (6 : Int32)), (.ref b79)])) rfl rfl (hb hby at_220)
    refine own_st st121 ?_
    have V121 := Arv.set Ar120 qk120 Sz120 Mz120 Hz120 Uz120 (fits_nar_char _) W121 6 rfl (Nat.le_of_ble_eq_true rfl)
    have z122 : h121.size = h115.size := W121.size
    have O123 := Old.wr O117 W121 (by omega)
    have K124 : Keep h0 h121 [] := K118.wr W121 (Or.inr (by omega))
    have N121 := Fr.snoc X121 N119 (by omega : Z.heap.size ≤ b79)
    have V121' : Arv Z h121 b79 k79 .char (7 : Int32) [(.int (nar .char r83)), (.int (nar .char r89)), (.int (nar .char r95)), (.int (nar .char r101)), (.int (nar .char r107)), (.int (nar .char r113)), (.int (nar .char r119))] (.int (0 : Int32)) := V121
    show own_G _ _ _ _ (T121.setTop (mkF m 221 #[.val (.int p0), .val (.int p1), .val (.ref b79), .unset] []))
    obtain ⟨T125, h125, X125, e125, E125, A125, D125, -, st125⟩ := newO X121 hx hZ hown (hw _ (List.mem_of_getElem? (i := 5) rfl)) (hw _ (List.mem_of_getElem? (i := 6) rfl)) (hw _ (List.mem_of_getElem? (i := 7) rfl)) e121 (g := (mkF m 221 #[.val (.int p0), .val (.int p1), .val (.ref b79), .unset] [])) rfl (hb hby at_221) (by decide) (by decide)
    obtain ⟨b125, g125⟩ : ∃ z, z = h121.size := ⟨_, rfl⟩
    rw [← g125] at A125 D125 st125
    refine own_st st125 ?_
    have z126 : h121.size ≤ h125.size := E125.1
    have O127 := Old.ext O123 E125
    have K128 : Keep h0 h125 [] := K124.ext E125
    have F125_coder : Fld Z h125 b125 "java/lang/String" "coder" "B" (.int (0 : Int32)) := D125 (Or.inr (hw _ (List.mem_of_getElem? (i := 31) rfl))) (ty := .byte) (by decide)
    have F125_value : Fld Z h125 b125 "java/lang/String" "value" "[B" .null := D125 (Or.inr (hw _ (List.mem_of_getElem? (i := 33) rfl))) (ty := (.array .byte)) (by decide)
    have lt125 := own_ltN A125.lt
    show own_G _ _ _ _ (T125.setTop (mkF m 224 #[.val (.int p0), .val (.int p1), .val (.ref b79), .unset] [(.ref b125)]))
    refine own_st (fun _ k => XS.dup X125.here hx rfl (hb hby at_224) rfl rfl k) ?_
    show own_G _ _ _ _ (T125.setTop (mkF m 225 #[.val (.int p0), .val (.int p1), .val (.ref b79), .unset] [(.ref b125), (.ref b125)]))
    refine own_st (fun _ k => XS.aloadN X125.here hx rfl (hb hby at_225) rfl rfl k) ?_
    show own_G _ _ _ _ (T125.setTop (mkF m 226 #[.val (.int p0), .val (.int p1), .val (.ref b79), .unset] [(.ref b79), (.ref b125), (.ref b125)]))
    have q129 : Arv Z h125 b79 k79 .char (7 : Int32) [(.int (nar .char r83)), (.int (nar .char r89)), (.int (nar .char r95)), (.int (nar .char r101)), (.int (nar .char r107)), (.int (nar .char r113)), (.int (nar .char r119))] (.int (0 : Int32)) := (V121'.ext E125)
    have Vc : Arv Z h125 b79 k79 .char (Int32.ofNat 7) (own_vals (own_fl [r83, r89, r95, r101, r107, r113, r119]) 7) (.int (0 : Int32)) := q129
    have hf : ∀ j, j < 7 → ¬ (255 : Int32) < (own_fl [r83, r89, r95, r101, r107, r113, r119]) j := fun j hj => by
      have : j = 0 ∨ j = 1 ∨ j = 2 ∨ j = 3 ∨ j = 4 ∨ j = 5 ∨ j = 6 := by omega
      rcases this with rfl | rfl | rfl | rfl | rfl | rfl | rfl
      · rcases c83 with rfl | rfl
        · exact (show ¬ (255 : Int32) < nar .char (77 : Int32) by decide)
        · exact (show ¬ (255 : Int32) < nar .char (109 : Int32) by decide)
      · rcases c89 with rfl | rfl
        · exact (show ¬ (255 : Int32) < nar .char (97 : Int32) by decide)
        · exact (show ¬ (255 : Int32) < nar .char (65 : Int32) by decide)
      · rcases c95 with rfl | rfl
        · exact (show ¬ (255 : Int32) < nar .char (114 : Int32) by decide)
        · exact (show ¬ (255 : Int32) < nar .char (82 : Int32) by decide)
      · rcases c101 with rfl | rfl
        · exact (show ¬ (255 : Int32) < nar .char (105 : Int32) by decide)
        · exact (show ¬ (255 : Int32) < nar .char (73 : Int32) by decide)
      · rcases c107 with rfl | rfl
        · exact (show ¬ (255 : Int32) < nar .char (97 : Int32) by decide)
        · exact (show ¬ (255 : Int32) < nar .char (65 : Int32) by decide)
      · rcases c113 with rfl | rfl
        · exact (show ¬ (255 : Int32) < nar .char (68 : Int32) by decide)
        · exact (show ¬ (255 : Int32) < nar .char (100 : Int32) by decide)
      · rcases c119 with rfl | rfl
        · exact (show ¬ (255 : Int32) < nar .char (66 : Int32) by decide)
        · exact (show ¬ (255 : Int32) < nar .char (98 : Int32) by decide)
    have he : ∀ j, j < 7 → own_eic (own_gm j) (own_lo ((own_fl [r83, r89, r95, r101, r107, r113, r119]) j)) := fun j hj => by
      have : j = 0 ∨ j = 1 ∨ j = 2 ∨ j = 3 ∨ j = 4 ∨ j = 5 ∨ j = 6 := by omega
      rcases this with rfl | rfl | rfl | rfl | rfl | rfl | rfl
      · rcases c83 with rfl | rfl
        · exact (show own_eic (77 : Int32) (own_lo (nar .char (77 : Int32))) from Or.inl rfl)
        · exact (show own_eic (77 : Int32) (own_lo (nar .char (109 : Int32))) from Or.inr ⟨rfl, by decide, by decide⟩)
      · rcases c89 with rfl | rfl
        · exact (show own_eic (97 : Int32) (own_lo (nar .char (97 : Int32))) from Or.inl rfl)
        · exact (show own_eic (97 : Int32) (own_lo (nar .char (65 : Int32))) from Or.inr ⟨rfl, by decide, by decide⟩)
      · rcases c95 with rfl | rfl
        · exact (show own_eic (114 : Int32) (own_lo (nar .char (114 : Int32))) from Or.inl rfl)
        · exact (show own_eic (114 : Int32) (own_lo (nar .char (82 : Int32))) from Or.inr ⟨rfl, by decide, by decide⟩)
      · rcases c101 with rfl | rfl
        · exact (show own_eic (105 : Int32) (own_lo (nar .char (105 : Int32))) from Or.inl rfl)
        · exact (show own_eic (105 : Int32) (own_lo (nar .char (73 : Int32))) from Or.inr ⟨rfl, by decide, by decide⟩)
      · rcases c107 with rfl | rfl
        · exact (show own_eic (97 : Int32) (own_lo (nar .char (97 : Int32))) from Or.inl rfl)
        · exact (show own_eic (97 : Int32) (own_lo (nar .char (65 : Int32))) from Or.inr ⟨rfl, by decide, by decide⟩)
      · rcases c113 with rfl | rfl
        · exact (show own_eic (68 : Int32) (own_lo (nar .char (68 : Int32))) from Or.inl rfl)
        · exact (show own_eic (68 : Int32) (own_lo (nar .char (100 : Int32))) from Or.inr ⟨rfl, by decide, by decide⟩)
      · rcases c119 with rfl | rfl
        · exact (show own_eic (66 : Int32) (own_lo (nar .char (66 : Int32))) from Or.inl rfl)
        · exact (show own_eic (66 : Int32) (own_lo (nar .char (98 : Int32))) from Or.inr ⟨rfl, by decide, by decide⟩)
    obtain ⟨_, _, ⟨T130, L130, k130, n130⟩, -, X130, ⟨Lc130, hQ130, l130, y130, z130⟩, st130⟩ := X125.specialBack hx (y := (⟨"java/lang/String", "<init>", "([C)V"⟩ : MethodName)) rfl hown (mvT hZ (hw _ (List.mem_of_getElem? (i := 8) rfl))) (mvT hZ (hw _ (List.mem_of_getElem? (i := 9) rfl))) (mvT hZ (hw _ (List.mem_of_getElem? (i := 10) rfl))) (by decide) (own_back (rm := ({ frames := 5, cells := 2, slots := 30, locals := 74 } : Room)) (W := 1) (own_newS l Z a0 hw [] b125 b79 7 (own_fl [r83, r89, r95, r101, r107, r113, r119]) k79 w1 .null (.int (0 : Int32)) h125 O127 (by decide) (by decide) hf S1 hw1 (by omega) (show @Ne Nat b125 b79 by omega) A125 F125_value F125_coder Vc) hZ (hw _ (List.mem_of_getElem? (i := 10) rfl)) (hw _ (List.mem_of_getElem? (i := 7) rfl)) (by decide) (by decide)) (g := (mkF m 226 #[.val (.int p0), .val (.int p1), .val (.ref b79), .unset] [(.ref b79), (.ref b125), (.ref b125)])) rfl (by rw [hml]; rfl) (Steps.refl _) (a := b125) (argsL := [(.ref b79)]) (rest := [(.ref b125)]) (lenOf own_pd364 rfl) rfl (by show 2 * 0 + _ ≤ _; exact Nat.le_of_eq rfl) (hb hby at_226) (fun _ _ => ⟨rfl, e125, (by decide : 0 + 1 + 0 + 0 + 0 + 0 + 0 + 0 + 0 + 1 + 2 ≤ _), (by decide : 0 + 7 + 0 + 0 + 0 + 0 + 0 + 0 + 0 + 4 + 30 ≤ _)⟩)
    dsimp only [Pt.U, Pt.locs, Pt.cells, Pt.slots] at X130 l130 y130 z130 st130 hQ130
    subst l130 y130 z130
    obtain ⟨rfl, N130q, K130_, t, kt, gt, Hs⟩ := hQ130
    have N130 := Fr.app N121 N130q
    refine own_tr st130 ?_
    have z131 : h125.size ≤ T130.heap.size := K130_.1
    have O132 := Old.keep O127 K130_ (allS (by omega) all0)
    have K133 : Keep h0 T130.heap [] := K128.trans K130_ (allS (Or.inr (by omega)) all0)
    show own_G _ _ _ _ (T130.setTop (mkF m 229 #[.val (.int p0), .val (.int p1), .val (.ref b79), .unset] [(.ref b125)]))
    obtain ⟨_, _, ⟨T134, L134, k134, n134⟩, -, X134, ⟨Lc134, hQ134, l134, y134, z134⟩, st134⟩ := Jvm.LawKit.callS X130 hx (y := (⟨"com/example/limpet/limpet/jdbc/Dialect", "ofProduct", "(Ljava/lang/String;)Lcom/example/limpet/limpet/jdbc/Dialect;"⟩ : MethodName)) hown (mvT hZ (hw _ (List.mem_of_getElem? (i := 34) rfl))) (mvT hZ (hw _ (List.mem_of_getElem? (i := 35) rfl))) (mvT hZ (hw _ (List.mem_of_getElem? (i := 36) rfl))) (mvT hZ (hw _ (List.mem_of_getElem? (i := 37) rfl))) (by decide) (own_back (rm := ({ frames := 4, cells := 1, slots := 2, locals := 76 } : Room)) (W := 0) (own_ofM l Z a0 hw [] b125 va pg mb sp sm tp tm kv kp km own_gp own_gm t kt (fun j => own_lo ((own_fl [r83, r89, r95, r101, r107, r113, r119]) j)) w1 T130.heap O132 HD S1 hw1 (by omega) Hs he) hZ (hw _ (List.mem_of_getElem? (i := 37) rfl)) (hw _ (List.mem_of_getElem? (i := 36) rfl)) (by decide) (by decide)) (g := (mkF m 229 #[.val (.int p0), .val (.int p1), .val (.ref b79), .unset] [(.ref b125)])) rfl (by rw [hml]; rfl) (argsL := [(.ref b125)]) (rest := []) (lenOf own_pd366 rfl) rfl (by show 2 * 0 + _ ≤ _; exact Nat.le_of_eq rfl) (hb hby at_229) (fun _ _ => ⟨rfl, rfl, (by decide : 0 + 1 + 0 + 0 + 0 + 0 + 0 + 0 + 0 + 1 + 2 + 1 ≤ _), (by decide : 0 + 7 + 0 + 0 + 0 + 0 + 0 + 0 + 0 + 4 + 30 + 2 ≤ _)⟩)
    dsimp only [Pt.U, Pt.locs, Pt.cells, Pt.slots] at X134 l134 y134 z134 st134 hQ134
    subst l134 y134 z134
    obtain ⟨rfl, N134q, K134_⟩ := hQ134
    have N134 := Fr.app N130 N134q
    refine own_st st134 ?_
    have z135 : T130.heap.size ≤ T134.heap.size := K134_.1
    have O136 := Old.keep O132 K134_ all0
    have K137 : Keep h0 T134.heap [] := K133.trans K134_ all0
    show own_G _ _ _ _ (T134.setTop (mkF m 232 #[.val (.int p0), .val (.int p1), .val (.ref b79), .unset] [(.ref mb)]))
    refine own_st (fun _ k => XS.astoreN X134.here hx rfl (hb hby at_232) rfl rfl (l' := #[.val (.int p0), .val (.int p1), .val (.ref b79), .val (.ref mb)]) rfl k) ?_
    show own_G _ _ _ _ (T134.setTop (mkF m 233 #[.val (.int p0), .val (.int p1), .val (.ref b79), .val (.ref mb)] []))
    refine own_st (fun _ k => XS.aloadN X134.here hx rfl (hb hby at_233) rfl rfl k) ?_
    show own_G _ _ _ _ (T134.setTop (mkF m 234 #[.val (.int p0), .val (.int p1), .val (.ref b79), .val (.ref mb)] [(.ref mb)]))
    obtain ⟨T138, X138, e138, st138⟩ := getS2 X134 hx hZ hown (host := "") (Or.inl (hw _ (List.mem_of_getElem? (i := 86) rfl))) Via.refl rfl (Sta.ext O136.2 D3) (g := (mkF m 234 #[.val (.int p0), .val (.int p1), .val (.ref b79), .val (.ref mb)] [(.ref mb)])) rfl (hb hby at_234)
    refine own_st st138 ?_
    show own_G _ _ _ _ (T138.setTop (mkF m 237 #[.val (.int p0), .val (.int p1), .val (.ref b79), .val (.ref mb)] [(.ref mb), (.ref mb)]))
    refine own_st (fun _ k => Jvm.RoadKit.acmp (g := (mkF m 237 #[.val (.int p0), .val (.int p1), .val (.ref b79), .val (.ref mb)] [(.ref mb), (.ref mb)])) X138 hx rfl rfl rfl (pc0 := 237) (pc' := 240) (same := true) rfl (hb hby at_237) rfl (decide_eq_true rfl) (by decide) (by decide) k) ?_
    show own_G _ _ _ _ (T138.setTop (mkF m 240 #[.val (.int p0), .val (.int p1), .val (.ref b79), .val (.ref mb)] []))
    refine own_st (fun _ k => XS.iconst X138.here hx rfl (hb hby at_240) k) ?_
    show own_G _ _ _ _ (T138.setTop (mkF m 241 #[.val (.int p0), .val (.int p1), .val (.ref b79), .val (.ref mb)] [(.int (1 : Int32))]))
    refine own_st (fun _ k => XS.goto X138.here hx rfl (pc0 := 241) (pc' := 245) rfl (hb hby at_241) (by decide) (by decide) k) ?_
    show own_G _ _ _ _ (T138.setTop (mkF m 245 #[.val (.int p0), .val (.int p1), .val (.ref b79), .val (.ref mb)] [(.int (1 : Int32))]))
    exact own_retN X138 hx hret hlk (by simp) (hb hby at_245) ⟨rfl, N134⟩ (by decide) (by decide)
theorem own_len_v {args : Array Value} {first s : State} {o : Option Outcome} {idx : List Nat} {t : Term} {x : Addr} {cl : Cell} {z : Int32} (h : (Term.length t).eval args first o idx s = some (.int z)) (ht : t.eval args first o idx s = some (.ref x)) (ha : s.arrayAt? x = some cl) : cl.slots.size < 2 ^ 31 ∧ cl.slots.size.toInt32 = z := by
  by_cases hl : cl.slots.size < 2 ^ 31
  · rw [len_f ht ha hl] at h
    cases h
    exact ⟨hl, rfl⟩
  · simp [Term.eval, ht, ha, hl] at h
theorem own_eqR {args : Array Value} {first s : State} {o : Option Outcome} {idx : List Nat} {a b : Term} {y : Addr} (h : (Jvm.Cond.eq a b).value args first o s idx = some true) (hb : b.eval args first o idx s = some (.ref y)) : a.eval args first o idx s = some (.ref y) := by
  obtain ⟨x, y', h1, h2, h3, h4⟩ := cmp_v (Or.inl h)
  have e : y' = .ref y := Option.some.inj (h2.symm.trans hb)
  subst e
  have hx : x.isRef = true := h4.2
  rw [h1, gotT (eq_R h1 h2 hx rfl) h]
theorem comes_1 {Post : Tables → Env → Array Value → State → Outcome → State → Prop} (hpost : ∀ tb e args s v u, (limb_1_1.after args s (.returned v) u = true ∧ limb_1_2.after args s (.returned v) u = true ∧ True) → FrameEnd s (.returned v) u (Jvm.fieldLocs frame_1_writes args s ++ Jvm.arrayLocs frame_1_arrays args s ++ Jvm.staticLocs frame_1_statics s) 16 128 → Post tb e args s (.returned v) u) :
    ArmFor flags0 classFile x code maxLocals ret World_1 tables_1 room_1 Calls_1 rest_1 Pre_1 Post := by
  intro l hfl _ _ p e ha hc hk s m args below hf hA hF happ hP
  obtain ⟨hcalls, hrest, hpre⟩ := hP
  obtain ⟨-, -, -, hnamed, -, -, -, hat⟩ := (Spec.applies_iff hf).mp happ
  obtain ⟨hg, hn⟩ := and_e (Cond.before_iff.mp (show (Jvm.Cond.and given_1 narrow_1).before args s = true from hpre))
  obtain ⟨hq0, hr0⟩ := and_e hg
  obtain ⟨hq1, hr1⟩ := and_e hr0
  obtain ⟨w0, w1, rfl⟩ : ∃ w0 w1 : Value, args = #[w0, w1] := by
    have hs : args.size = 2 := by simpa [Cond.value, given_1] using hq0
    obtain ⟨L⟩ := args
    match L, hs with
    | [w0, w1], _ => exact ⟨w0, w1, rfl⟩
  have hw := fun d (hd : d ∈ tables_1) => atoms_spec (ws := Jvm.Cond.code x code maxLocals ret :: tables_1) hat d (List.mem_cons_of_mem _ hd)
  obtain ⟨hsets, hown0⟩ := atoms_of _ (rest_1_c_eq ▸ (show rest_1_c.before _ s = true from hrest))
  have hfit : Fit s := fun {y c} hc i hi => by
    obtain ⟨ha, rfl⟩ := Array.getElem?_eq_some_iff.mp hc
    have q := List.all_eq_true.mp ((Array.all_eq_true_iff_forall_mem.mp hF) _ (Array.getElem_mem ha)) i (List.mem_range.mpr hi)
    simpa [Array.getElem?_eq_getElem hi] using q
  obtain ⟨p0, ep0⟩ := is_v hq1
  obtain rfl : w0 = (.int p0) := Option.some.inj ep0
  obtain ⟨p1, ep1⟩ := is_v hr1
  obtain rfl : w1 = (.int p1) := Option.some.inj ep1
  have n5 := not_v (Cond.before_iff.mp (hsets _ (List.mem_of_getElem? (i := 2) rfl)))
  obtain ⟨w1, e1⟩ := is_v (Cond.before_iff.mp (hsets _ (List.mem_of_getElem? (i := 1) rfl)))
  have S1 : Sta s s.heap "java/lang/String" "COMPACT_STRINGS" "Z" (.int w1) := Sta.start e1 (Or.inl (hsets _ (List.mem_of_getElem? (i := 0) rfl)))
  have c1 : ¬ (w1 = (0 : Int32)) := gotF (Cond.eq_ints e1 (Term.int_eval (0))) n5
  obtain ⟨m0, x1⟩ := and_e hn
  obtain ⟨m1, x2⟩ := and_e x1
  obtain ⟨m2, x3⟩ := and_e x2
  obtain ⟨m3, x4⟩ := and_e x3
  obtain ⟨m4, x5⟩ := and_e x4
  obtain ⟨m5, x6⟩ := and_e x5
  obtain ⟨m6, x7⟩ := and_e x6
  obtain ⟨m7, x8⟩ := and_e x7
  obtain ⟨m8, x9⟩ := and_e x8
  obtain ⟨m9, x10⟩ := and_e x9
  obtain ⟨m10, x11⟩ := and_e x10
  obtain ⟨m11, x12⟩ := and_e x11
  obtain ⟨m12, x13⟩ := and_e x12
  obtain ⟨m13, x14⟩ := and_e x13
  obtain ⟨m14, x15⟩ := and_e x14
  obtain ⟨m15, x16⟩ := and_e x15
  obtain ⟨m16, x17⟩ := and_e x16
  obtain ⟨m17, x18⟩ := and_e x17
  obtain ⟨m18, x19⟩ := and_e x18
  obtain ⟨m19, x20⟩ := and_e x19
  obtain ⟨m20, x21⟩ := and_e x20
  obtain ⟨m21, x22⟩ := and_e x21
  obtain ⟨m22, x23⟩ := and_e x22
  obtain ⟨m23, x24⟩ := and_e x23
  obtain ⟨m24, x25⟩ := and_e x24
  obtain ⟨m25, x26⟩ := and_e x25
  obtain ⟨m26, x27⟩ := and_e x26
  obtain ⟨m27, x28⟩ := and_e x27
  obtain ⟨m28, x29⟩ := and_e x28
  obtain ⟨m29, x30⟩ := and_e x29
  obtain ⟨m30, m31⟩ := and_e x30
  obtain ⟨va, ev⟩ := arr_v m0
  obtain ⟨pg, epg⟩ := exa_v m3
  obtain ⟨mb, emb⟩ := exa_v m5
  obtain ⟨cv, Av⟩ := Arr.start ev m0
  have lv := own_len_v (own_eqI m2) ev (Av.fin (Vm.Alike.refl _))
  have Vv : Arv s s.heap va cv.cls (.object "com/example/limpet/limpet/jdbc/Dialect") (2 : Int32) [.ref pg, .ref mb] .null := Arv.start hfit Av lv.1 lv.2 (by decide) rfl ⟨(elem_in (own_eqR m4 epg) ev (Term.int_eval 0) Av.1).2, (elem_in (own_eqR m6 emb) ev (Term.int_eval 1) Av.1).2, trivial⟩
  obtain ⟨sp, esp⟩ := exa_v m7
  obtain ⟨tp, etp⟩ := arr_v m8
  obtain ⟨cp, Acp⟩ := Arr.start etp m8
  have lcp := own_len_v (own_eqI m9) etp (Acp.fin (Vm.Alike.refl _))
  have Vcp : Arv s s.heap tp cp.cls .byte (10 : Int32) [(.int (80 : Int32)), (.int (111 : Int32)), (.int (115 : Int32)), (.int (116 : Int32)), (.int (103 : Int32)), (.int (114 : Int32)), (.int (101 : Int32)), (.int (83 : Int32)), (.int (81 : Int32)), (.int (76 : Int32))] (.int (0 : Int32)) := Arv.start hfit Acp lcp.1 lcp.2 (by decide) rfl ⟨(elem_in (own_eqI m15) etp (Term.int_eval 0) Acp.1).2, (elem_in (own_eqI m16) etp (Term.int_eval 1) Acp.1).2, (elem_in (own_eqI m17) etp (Term.int_eval 2) Acp.1).2, (elem_in (own_eqI m18) etp (Term.int_eval 3) Acp.1).2, (elem_in (own_eqI m19) etp (Term.int_eval 4) Acp.1).2, (elem_in (own_eqI m20) etp (Term.int_eval 5) Acp.1).2, (elem_in (own_eqI m21) etp (Term.int_eval 6) Acp.1).2, (elem_in (own_eqI m22) etp (Term.int_eval 7) Acp.1).2, (elem_in (own_eqI m23) etp (Term.int_eval 8) Acp.1).2, (elem_in (own_eqI m24) etp (Term.int_eval 9) Acp.1).2, trivial⟩
  have Fsp : Fld s s.heap pg "com/example/limpet/limpet/jdbc/Dialect" "product" "Ljava/lang/String;" (.ref sp) := Fld.start ((fld_at epg).symm.trans esp)
  have Hsp : own_StrL s s.heap sp tp cp.cls own_gp 10 := ⟨Exa.start esp m7, Fld.start ((fld_at esp).symm.trans (own_eqI m10)), Fld.start ((fld_at esp).symm.trans etp), Vcp⟩
  obtain ⟨sm, esm⟩ := exa_v m11
  obtain ⟨tm, etm⟩ := arr_v m12
  obtain ⟨cm, Acm⟩ := Arr.start etm m12
  have lcm := own_len_v (own_eqI m13) etm (Acm.fin (Vm.Alike.refl _))
  have Vcm : Arv s s.heap tm cm.cls .byte (7 : Int32) [(.int (77 : Int32)), (.int (97 : Int32)), (.int (114 : Int32)), (.int (105 : Int32)), (.int (97 : Int32)), (.int (68 : Int32)), (.int (66 : Int32))] (.int (0 : Int32)) := Arv.start hfit Acm lcm.1 lcm.2 (by decide) rfl ⟨(elem_in (own_eqI m25) etm (Term.int_eval 0) Acm.1).2, (elem_in (own_eqI m26) etm (Term.int_eval 1) Acm.1).2, (elem_in (own_eqI m27) etm (Term.int_eval 2) Acm.1).2, (elem_in (own_eqI m28) etm (Term.int_eval 3) Acm.1).2, (elem_in (own_eqI m29) etm (Term.int_eval 4) Acm.1).2, (elem_in (own_eqI m30) etm (Term.int_eval 5) Acm.1).2, (elem_in (own_eqI m31) etm (Term.int_eval 6) Acm.1).2, trivial⟩
  have Fsm : Fld s s.heap mb "com/example/limpet/limpet/jdbc/Dialect" "product" "Ljava/lang/String;" (.ref sm) := Fld.start ((fld_at emb).symm.trans esm)
  have Hsm : own_StrL s s.heap sm tm cm.cls own_gm 7 := ⟨Exa.start esm m11, Fld.start ((fld_at esm).symm.trans (own_eqI m14)), Fld.start ((fld_at esm).symm.trans etm), Vcm⟩
  have HD : own_D s va pg mb sp sm tp tm cv.cls cp.cls cm.cls own_gp own_gm := ⟨Sta.start ev (Or.inl (hw _ (List.mem_of_getElem? (i := 52) rfl))), Sta.start epg (Or.inr ⟨(hw _ (List.mem_of_getElem? (i := 36) rfl)), (hw _ (List.mem_of_getElem? (i := 50) rfl))⟩), Sta.start emb (Or.inr ⟨(hw _ (List.mem_of_getElem? (i := 36) rfl)), (hw _ (List.mem_of_getElem? (i := 51) rfl))⟩), Exa.start ev m1, Vv, Fsp, Fsm, Hsp, Hsm⟩
  obtain ⟨n, o, h1, h2, h3, _, L, rfl, ⟨rfl, N⟩, hq⟩ := own_law l s _ hw tables_1 p0 p1 va pg mb sp sm tp tm cv.cls cp.cls cm.cls w1 s.heap (Old.start s) HD S1 c1 p e ha hc hk s m _ below hf ((Spec.applies_iff_loose hf).mp happ).1 ⟨rfl, State.Warmed39.refl s, rfl⟩ trivial
  refine ⟨n, _, h1, h2, h3, hpost _ _ _ _ _ _ ⟨Cond.after_iff.mpr rfl, Cond.after_iff.mpr (eq_i res_at (Term.int_eval (1)) rfl), trivial⟩ ⟨hq.1, hq.2.1, (hq.2.2.sift fun y hy => Or.inr (N y hy)).mono (by decide) (by decide)⟩⟩
theorem main_1_1 : Claimed_1_1 := comes_1 fun _ _ _ _ _ _ h hF => ⟨h.1, hF⟩
theorem main_1_2 : Claimed_1_2 := comes_1 fun _ _ _ _ _ _ h hF => ⟨h.2.1, hF⟩
end Jvm.Pilot.@@N@@
namespace Jvm.Pilot.@@N@@
open Jvm Jvm.ClassFile Sem Op Lib Jvm.Free Jvm.Stand Jvm.Pilot.@@N@@.Jvm.D
/-! MADE BY PROGRAM (witnessworld.py) out of the Statement's table words and the real class files: 24 classes; the members and pool entries that the words name. The judged class is class 1, her method 1. -/
namespace start1
open Jvm.ClassFile
def u (s : String) : CpInfo := .utf8 (stringToUtf16 s)
/-- a pool by its gaps: so many unusable entries, then the entry; so many at the end -/
def gap : Nat → List CpInfo → List CpInfo
  | 0, r => r
  | n + 1, r => .unusable :: gap n r
def poolList (es : List (Nat × CpInfo)) (last : Nat) : List CpInfo := es.foldr (fun e r => gap e.1 (e.2 :: r)) (gap last [])
def pool (es : List (Nat × CpInfo)) (last : Nat) : Array CpInfo := ⟨poolList es last⟩
def fileOf (pool : Array CpInfo) (this : Nat) (attrs : Array Attribute := #[]) (ms : Array MethodInfo := #[]) (fl : Nat := 33) (sup : Nat := 0) (ifs : Array Nat := #[]) (fds : Array FieldInfo := #[]) : ClassFile where
  minorVersion := 0
  majorVersion := 65
  constantPool := pool
  accessFlags := fl
  thisClass := this
  superClass := sup
  interfaces := ifs
  fields := fds
  methods := ms
  attributes := attrs
def plain (name : String) (sup : Option ClassId) : Class where
  name := name
  kind := .ordinary
  loader := none
  accessFlags := 33
  super := sup
  interfaces := #[]
  cf := none
  fields := #[]
  methods := #[]
  instanceTypes := #[]
  staticTypes := #[]
  resolved := #[]
  callSites := []
  init := .initialized
  statics := none
  mirror := none

def pool0 : Array CpInfo := pool [(5, u "<init>"), (0, u "()V"), (1, .class_ 10), (1, u "java/lang/Object"), (85, u "clone"), (0, u "()Ljava/lang/Object;")] 26

def k0c0 : Code := { maxStack := 0, maxLocals := 1, code := object_method_1_code, exceptionTable := #[], attributes := #[] }
def k0m0 : Method := { name := "<init>", desc := "()V", sig := { parameters := [], returnType := none }, accessFlags := 1, code := some k0c0 }
def k0m1 : Method := { name := "clone", desc := "()Ljava/lang/Object;", sig := { parameters := [], returnType := some (.object "java/lang/Object") }, accessFlags := 260, code := none }
/-- java/lang/Object -/
def k0 : Class := { plain "java/lang/Object" none with
  accessFlags := 33
  interfaces := #[]
  cf := some (fileOf pool0 8 #[] #[{ accessFlags := 1, nameIndex := 5, descriptorIndex := 6, attributes := #[] }, { accessFlags := 260, nameIndex := 96, descriptorIndex := 97, attributes := #[] }] 33 0 #[] #[])
  fields := #[]
  methods := #[k0m0, k0m1]
  instanceTypes := #[]
  staticTypes := #[]
  resolved := Array.replicate 124 none
  statics := none }

def pool1 : Array CpInfo := pool [(2, .class_ 4), (1, u "java/lang/Object"), (0, u "<init>"), (0, u "()V"), (0, .methodref 8 9), (0, .class_ 10), (0, .nameAndType 11 12), (0, u "com/example/limpet/limpet/jdbc/DialectOfProductPinLaw"), (0, u "c"), (0, u "(CII)C"), (0, .class_ 14), (0, u "java/lang/String"), (0, .methodref 13 16), (0, .nameAndType 5 17), (0, u "([C)V"), (0, .methodref 19 20), (0, .class_ 21), (0, .nameAndType 22 23), (0, u "com/example/limpet/limpet/jdbc/Dialect"), (0, u "ofProduct"), (0, u "(Ljava/lang/String;)Lcom/example/limpet/limpet/jdbc/Dialect;"), (0, .fieldref 19 25), (0, .nameAndType 26 27), (0, u "POSTGRESQL"), (0, u "Lcom/example/limpet/limpet/jdbc/Dialect;"), (0, .fieldref 19 29), (0, .nameAndType 30 27), (0, u "MARIADB"), (2, u "law"), (0, u "(II)Z")] 5

def k1m0 : Method := { name := "<init>", desc := "()V", sig := { parameters := [], returnType := none }, accessFlags := 1, code := none }
def k1c1 : Code := { maxStack := 5, maxLocals := 4, code := code, exceptionTable := #[], attributes := #[] }
def k1m1 : Method := { name := "law", desc := "(II)Z", sig := { parameters := [.int, .int], returnType := some .boolean }, accessFlags := 9, code := some k1c1 }
def k1c2 : Code := { maxStack := 2, maxLocals := 3, code := method_3_code, exceptionTable := #[], attributes := #[] }
def k1m2 : Method := { name := "c", desc := "(CII)C", sig := { parameters := [.char, .int, .int], returnType := some .char }, accessFlags := 10, code := some k1c2 }
/-- com/example/limpet/limpet/jdbc/DialectOfProductPinLaw -/
def k1 : Class := { plain "com/example/limpet/limpet/jdbc/DialectOfProductPinLaw" (some 0) with
  accessFlags := 49
  interfaces := #[]
  cf := some (fileOf pool1 8 #[] #[{ accessFlags := 1, nameIndex := 5, descriptorIndex := 6, attributes := #[] }, { accessFlags := 9, nameIndex := 33, descriptorIndex := 34, attributes := #[] }, { accessFlags := 10, nameIndex := 11, descriptorIndex := 12, attributes := #[] }] 49 2 #[] #[])
  fields := #[]
  methods := #[k1m0, k1m1, k1m2]
  instanceTypes := #[]
  staticTypes := #[]
  resolved := Array.replicate 40 none
  statics := none }

def pool2 : Array CpInfo := pool [(1, .class_ 2), (0, u "java/io/Serializable"), (0, .class_ 4), (0, u "java/lang/Object")] 2

/-- java/io/Serializable -/
def k2 : Class := { plain "java/io/Serializable" (some 0) with
  accessFlags := 1537
  interfaces := #[]
  cf := some (fileOf pool2 1 #[] #[] 1537 3 #[] #[])
  fields := #[]
  methods := #[]
  instanceTypes := #[]
  staticTypes := #[]
  resolved := Array.replicate 7 none
  statics := none }

def pool3 : Array CpInfo := pool [(1, .class_ 2), (0, u "java/lang/Comparable"), (0, .class_ 4), (0, u "java/lang/Object")] 7

/-- java/lang/Comparable -/
def k3 : Class := { plain "java/lang/Comparable" (some 0) with
  accessFlags := 1537
  interfaces := #[]
  cf := some (fileOf pool3 1 #[] #[] 1537 3 #[] #[])
  fields := #[]
  methods := #[]
  instanceTypes := #[]
  staticTypes := #[]
  resolved := Array.replicate 12 none
  statics := none }

def pool4 : Array CpInfo := pool [(2, .class_ 4), (1, u "java/lang/CharSequence"), (42, .class_ 48), (0, u "java/lang/CharSequence$1CodePointIterator"), (10, .class_ 60), (0, u "java/lang/CharSequence$1CharIterator"), (5, .class_ 67), (0, u "java/lang/Object")] 63

/-- java/lang/CharSequence -/
def k4 : Class := { plain "java/lang/CharSequence" (some 0) with
  accessFlags := 1537
  interfaces := #[]
  cf := some (fileOf pool4 2 #[.nestMembers #[47, 59]] #[] 1537 66 #[] #[])
  fields := #[]
  methods := #[]
  instanceTypes := #[]
  staticTypes := #[]
  resolved := Array.replicate 131 none
  statics := none }

def pool5 : Array CpInfo := pool [(1, .class_ 2), (0, u "java/lang/constant/Constable"), (0, .class_ 4), (0, u "java/lang/Object")] 6

/-- java/lang/constant/Constable -/
def k5 : Class := { plain "java/lang/constant/Constable" (some 0) with
  accessFlags := 1537
  interfaces := #[]
  cf := some (fileOf pool5 1 #[] #[] 1537 3 #[] #[])
  fields := #[]
  methods := #[]
  instanceTypes := #[]
  staticTypes := #[]
  resolved := Array.replicate 11 none
  statics := none }

def pool6 : Array CpInfo := pool [(1, .class_ 2), (0, u "java/lang/constant/ConstantDesc"), (0, .class_ 4), (0, u "java/lang/Object")] 32

/-- java/lang/constant/ConstantDesc -/
def k6 : Class := { plain "java/lang/constant/ConstantDesc" (some 0) with
  accessFlags := 1537
  interfaces := #[]
  cf := some (fileOf pool6 1 #[] #[] 1537 3 #[] #[])
  fields := #[]
  methods := #[]
  instanceTypes := #[]
  staticTypes := #[]
  resolved := Array.replicate 37 none
  statics := none }

def pool7 : Array CpInfo := pool [(1, .methodref 2 3), (0, .class_ 4), (0, .nameAndType 5 6), (0, u "java/lang/Object"), (0, u "<init>"), (0, u "()V"), (2, .fieldref 10 11), (0, .class_ 12), (0, .nameAndType 13 14), (0, u "java/lang/String"), (0, u "value"), (0, u "[B"), (0, .fieldref 10 16), (0, .nameAndType 17 18), (0, u "coder"), (0, u "B"), (2, u "hash"), (0, u "I"), (2, u "hashIsZero"), (0, u "Z"), (0, .methodref 10 28), (0, .nameAndType 5 29), (0, u "([CIILjava/lang/Void;)V"), (8, .fieldref 10 39), (0, .nameAndType 40 26), (0, u "COMPACT_STRINGS"), (1, .class_ 44), (1, u "java/lang/StringUTF16"), (0, u "compress"), (1, .methodref 42 48), (0, .nameAndType 49 50), (0, u "coderFromArrayLen"), (0, u "([BI)B"), (56, .class_ 109), (1, u "java/lang/StringLatin1"), (67, .methodref 42 178), (0, .nameAndType 45 179), (0, u "([CII)[B"), (154, u "()I"), (0, .methodref 10 336), (0, .nameAndType 17 337), (0, u "()B"), (167, .methodref 10 506), (0, .nameAndType 507 334), (0, u "length"), (67, .class_ 576), (0, u "java/lang/CharSequence"), (5, .methodref 10 583), (0, .nameAndType 584 585), (0, u "regionMatches"), (0, u "(ZILjava/lang/String;II)Z"), (13, u "CASE_INSENSITIVE_ORDER"), (0, u "Ljava/util/Comparator;"), (12, .methodref 107 614), (0, .nameAndType 615 616), (0, u "regionMatchesCI"), (0, u "([BI[BII)Z"), (393, u "([C)V"), (90, u "serialPersistentFields"), (0, u "[Ljava/io/ObjectStreamField;"), (0, .class_ 1104), (0, u "java/lang/String$CaseInsensitiveComparator"), (1, .class_ 1107), (0, u "java/io/Serializable"), (0, .class_ 1109), (0, u "java/lang/Comparable"), (0, .class_ 1111), (0, u "java/lang/constant/Constable"), (0, .class_ 1113), (0, u "java/lang/constant/ConstantDesc"), (2, u "serialVersionUID"), (0, u "J"), (3, u "REPL"), (0, u "C"), (2, u "LATIN1"), (1, u "UTF16"), (128, u "equalsIgnoreCase"), (0, u "(Ljava/lang/String;)Z")] 193

def k7m0 : Method := { name := "<init>", desc := "()V", sig := { parameters := [], returnType := none }, accessFlags := 1, code := none }
def k7c1 : Code := { maxStack := 5, maxLocals := 2, code := jdk_42_method_3_code, exceptionTable := #[], attributes := #[] }
def k7m1 : Method := { name := "<init>", desc := "([C)V", sig := { parameters := [(.array .char)], returnType := none }, accessFlags := 1, code := some k7c1 }
def k7c2 : Code := { maxStack := 2, maxLocals := 1, code := jdk_42_method_54_code, exceptionTable := #[], attributes := #[] }
def k7m2 : Method := { name := "length", desc := "()I", sig := { parameters := [], returnType := some .int }, accessFlags := 1, code := some k7c2 }
def k7c3 : Code := { maxStack := 6, maxLocals := 2, code := jdk_42_method_70_code, exceptionTable := #[], attributes := #[] }
def k7m3 : Method := { name := "equalsIgnoreCase", desc := "(Ljava/lang/String;)Z", sig := { parameters := [(.object "java/lang/String")], returnType := some .boolean }, accessFlags := 1, code := some k7c3 }
def k7c4 : Code := { maxStack := 6, maxLocals := 9, code := jdk_42_method_74_code, exceptionTable := #[], attributes := #[] }
def k7m4 : Method := { name := "regionMatches", desc := "(ZILjava/lang/String;II)Z", sig := { parameters := [.boolean, .int, (.object "java/lang/String"), .int, .int], returnType := some .boolean }, accessFlags := 1, code := some k7c4 }
def k7c5 : Code := { maxStack := 4, maxLocals := 6, code := jdk_42_method_149_code, exceptionTable := #[], attributes := #[] }
def k7m5 : Method := { name := "<init>", desc := "([CIILjava/lang/Void;)V", sig := { parameters := [(.array .char), .int, .int, (.object "java/lang/Void")], returnType := none }, accessFlags := 2, code := some k7c5 }
def k7c6 : Code := { maxStack := 1, maxLocals := 1, code := jdk_42_method_152_code, exceptionTable := #[], attributes := #[] }
def k7m6 : Method := { name := "coder", desc := "()B", sig := { parameters := [], returnType := some .byte }, accessFlags := 0, code := some k7c6 }
/-- java/lang/String -/
def k7 : Class := { plain "java/lang/String" (some 0) with
  accessFlags := 49
  interfaces := #[2, 3, 4, 5, 6]
  cf := some (fileOf pool7 10 #[.nestMembers #[1103]] #[{ accessFlags := 1, nameIndex := 5, descriptorIndex := 6, attributes := #[] }, { accessFlags := 1, nameIndex := 5, descriptorIndex := 1010, attributes := #[] }, { accessFlags := 1, nameIndex := 507, descriptorIndex := 334, attributes := #[] }, { accessFlags := 1, nameIndex := 1256, descriptorIndex := 1257, attributes := #[] }, { accessFlags := 1, nameIndex := 584, descriptorIndex := 585, attributes := #[] }, { accessFlags := 2, nameIndex := 5, descriptorIndex := 29, attributes := #[] }, { accessFlags := 0, nameIndex := 17, descriptorIndex := 337, attributes := #[] }] 49 2 #[1106, 1108, 575, 1110, 1112] #[{ accessFlags := 18, nameIndex := 13, descriptorIndex := 14, attributes := #[] }, { accessFlags := 18, nameIndex := 17, descriptorIndex := 18, attributes := #[] }, { accessFlags := 2, nameIndex := 21, descriptorIndex := 22, attributes := #[] }, { accessFlags := 2, nameIndex := 25, descriptorIndex := 26, attributes := #[] }, { accessFlags := 26, nameIndex := 1116, descriptorIndex := 1117, attributes := #[] }, { accessFlags := 24, nameIndex := 40, descriptorIndex := 26, attributes := #[] }, { accessFlags := 26, nameIndex := 1101, descriptorIndex := 1102, attributes := #[] }, { accessFlags := 26, nameIndex := 1121, descriptorIndex := 1122, attributes := #[] }, { accessFlags := 25, nameIndex := 599, descriptorIndex := 600, attributes := #[] }, { accessFlags := 24, nameIndex := 1125, descriptorIndex := 18, attributes := #[] }, { accessFlags := 24, nameIndex := 1127, descriptorIndex := 18, attributes := #[] }])
  fields := #[{ name := "value", type := (.array .byte), accessFlags := 18, slot := 0, constantValue := 0 }, { name := "coder", type := .byte, accessFlags := 18, slot := 1, constantValue := 0 }, { name := "hash", type := .int, accessFlags := 2, slot := 2, constantValue := 0 }, { name := "hashIsZero", type := .boolean, accessFlags := 2, slot := 3, constantValue := 0 }, { name := "serialVersionUID", type := .long, accessFlags := 26, slot := 0, constantValue := 0 }, { name := "COMPACT_STRINGS", type := .boolean, accessFlags := 24, slot := 1, constantValue := 0 }, { name := "serialPersistentFields", type := (.array (.object "java/io/ObjectStreamField")), accessFlags := 26, slot := 2, constantValue := 0 }, { name := "REPL", type := .char, accessFlags := 26, slot := 3, constantValue := 0 }, { name := "CASE_INSENSITIVE_ORDER", type := (.object "java/util/Comparator"), accessFlags := 25, slot := 4, constantValue := 0 }, { name := "LATIN1", type := .byte, accessFlags := 24, slot := 5, constantValue := 0 }, { name := "UTF16", type := .byte, accessFlags := 24, slot := 6, constantValue := 0 }]
  methods := #[k7m0, k7m1, k7m2, k7m3, k7m4, k7m5, k7m6]
  instanceTypes := #[(.array .byte), .byte, .int, .boolean]
  staticTypes := #[.long, .boolean, (.array (.object "java/io/ObjectStreamField")), .char, (.object "java/util/Comparator"), .byte, .byte]
  resolved := Array.replicate 1451 none
  statics := some 0 }

def pool8 : Array CpInfo := pool [(6, .class_ 8), (1, u "java/lang/Object"), (0, u "<init>"), (0, u "()V"), (1, .class_ 14), (1, u "java/lang/StringUTF16"), (31, u "$assertionsDisabled"), (0, u "Z"), (13, u "HI_BYTE_SHIFT"), (0, u "I"), (2, u "LO_BYTE_SHIFT"), (49, .methodref 12 116), (0, .nameAndType 117 118), (0, u "compress"), (0, u "([CI[BII)I"), (3, u "([CII)[B"), (138, u "coderFromArrayLen"), (0, u "([BI)B"), (106, .class_ 371), (1, u "java/lang/StringUTF16$LinesSpliterator"), (58, u "MAX_LENGTH"), (196, .class_ 628), (0, u "java/lang/StringUTF16$CodePointsSpliterator"), (0, .class_ 630), (0, u "java/lang/StringUTF16$CharsSpliterator")] 4

def k8m0 : Method := { name := "<init>", desc := "()V", sig := { parameters := [], returnType := none }, accessFlags := 0, code := none }
def k8c1 : Code := { maxStack := 2, maxLocals := 2, code := jdk_52_method_15_code, exceptionTable := #[], attributes := #[] }
def k8m1 : Method := { name := "coderFromArrayLen", desc := "([BI)B", sig := { parameters := [(.array .byte), .int], returnType := some .byte }, accessFlags := 8, code := some k8c1 }
def k8c2 : Code := { maxStack := 5, maxLocals := 6, code := jdk_52_method_16_code, exceptionTable := #[], attributes := #[] }
def k8m2 : Method := { name := "compress", desc := "([CII)[B", sig := { parameters := [(.array .char), .int, .int], returnType := some (.array .byte) }, accessFlags := 9, code := some k8c2 }
def k8c3 : Code := { maxStack := 3, maxLocals := 7, code := jdk_52_method_21_code, exceptionTable := #[], attributes := #[] }
def k8m3 : Method := { name := "compress", desc := "([CI[BII)I", sig := { parameters := [(.array .char), .int, (.array .byte), .int, .int], returnType := some .int }, accessFlags := 9, code := some k8c3 }
/-- java/lang/StringUTF16 -/
def k8 : Class := { plain "java/lang/StringUTF16" (some 0) with
  accessFlags := 48
  interfaces := #[]
  cf := some (fileOf pool8 12 #[.nestMembers #[627, 629, 369]] #[{ accessFlags := 0, nameIndex := 9, descriptorIndex := 10, attributes := #[] }, { accessFlags := 8, nameIndex := 261, descriptorIndex := 262, attributes := #[] }, { accessFlags := 9, nameIndex := 117, descriptorIndex := 122, attributes := #[] }, { accessFlags := 9, nameIndex := 117, descriptorIndex := 118, attributes := #[] }] 48 6 #[] #[{ accessFlags := 26, nameIndex := 61, descriptorIndex := 62, attributes := #[] }, { accessFlags := 26, nameIndex := 65, descriptorIndex := 62, attributes := #[] }, { accessFlags := 24, nameIndex := 430, descriptorIndex := 62, attributes := #[] }, { accessFlags := 4120, nameIndex := 46, descriptorIndex := 47, attributes := #[] }])
  fields := #[{ name := "HI_BYTE_SHIFT", type := .int, accessFlags := 26, slot := 0, constantValue := 0 }, { name := "LO_BYTE_SHIFT", type := .int, accessFlags := 26, slot := 1, constantValue := 0 }, { name := "MAX_LENGTH", type := .int, accessFlags := 24, slot := 2, constantValue := 0 }, { name := "$assertionsDisabled", type := .boolean, accessFlags := 4120, slot := 3, constantValue := 0 }]
  methods := #[k8m0, k8m1, k8m2, k8m3]
  instanceTypes := #[]
  staticTypes := #[.int, .int, .int, .boolean]
  resolved := Array.replicate 635 none
  statics := none }

def pool9 : Array CpInfo := pool [(2, .class_ 4), (1, u "java/lang/Enum"), (0, u "name"), (0, u "Ljava/lang/String;"), (2, u "ordinal"), (0, u "I"), (1, .class_ 14), (1, u "java/lang/Object"), (4, u "hash"), (86, .class_ 108), (1, u "java/lang/Enum$EnumDesc"), (2, .class_ 112), (0, u "java/lang/constant/Constable"), (0, .class_ 114), (0, u "java/lang/Comparable"), (0, .class_ 116), (0, u "java/io/Serializable")] 87

/-- java/lang/Enum -/
def k9 : Class := { plain "java/lang/Enum" (some 0) with
  accessFlags := 1057
  interfaces := #[5, 3, 2]
  cf := some (fileOf pool9 2 #[.nestMembers #[106]] #[] 1057 12 #[111, 113, 115] #[{ accessFlags := 18, nameIndex := 5, descriptorIndex := 6, attributes := #[] }, { accessFlags := 18, nameIndex := 9, descriptorIndex := 10, attributes := #[] }, { accessFlags := 2, nameIndex := 19, descriptorIndex := 10, attributes := #[] }])
  fields := #[{ name := "name", type := (.object "java/lang/String"), accessFlags := 18, slot := 0, constantValue := 0 }, { name := "ordinal", type := .int, accessFlags := 18, slot := 1, constantValue := 0 }, { name := "hash", type := .int, accessFlags := 2, slot := 2, constantValue := 0 }]
  methods := #[]
  instanceTypes := #[(.object "java/lang/String"), .int, .int]
  staticTypes := #[]
  resolved := Array.replicate 204 none
  statics := none }

def pool10 : Array CpInfo := pool [(1, .class_ 2), (0, u "com/example/limpet/limpet/jdbc/Dialect"), (2, u "POSTGRESQL"), (0, u "Lcom/example/limpet/limpet/jdbc/Dialect;"), (2, u "MARIADB"), (0, .fieldref 1 11), (0, .nameAndType 12 13), (0, u "$VALUES"), (0, u "[Lcom/example/limpet/limpet/jdbc/Dialect;"), (0, .methodref 15 16), (0, .class_ 13), (0, .nameAndType 17 18), (0, u "clone"), (0, u "()Ljava/lang/Object;"), (1, .class_ 22), (1, u "java/lang/Enum"), (6, .fieldref 1 30), (0, .nameAndType 31 32), (0, u "product"), (0, u "Ljava/lang/String;"), (2, u "urlPrefix"), (2, u "connectTimeout"), (2, u "socketTimeout"), (2, u "createTable"), (2, u "take"), (2, u "renew"), (2, u "release"), (0, .methodref 1 55), (0, .nameAndType 56 57), (0, u "values"), (0, u "()[Lcom/example/limpet/limpet/jdbc/Dialect;"), (1, .class_ 61), (1, u "java/lang/String"), (1, u "(Ljava/lang/String;)Z"), (7, .methodref 59 72), (0, .nameAndType 73 63), (0, u "equalsIgnoreCase"), (55, u "CREATE_SEQUENCE"), (3, u "DELETE"), (2, u "SUPPORTED"), (4, u "(Ljava/lang/String;)Lcom/example/limpet/limpet/jdbc/Dialect;"), (5, u "ofProduct")] 23

def k10c0 : Code := { maxStack := 1, maxLocals := 0, code := prog_8_method_1_code, exceptionTable := #[], attributes := #[] }
def k10m0 : Method := { name := "values", desc := "()[Lcom/example/limpet/limpet/jdbc/Dialect;", sig := { parameters := [], returnType := some (.array (.object "com/example/limpet/limpet/jdbc/Dialect")) }, accessFlags := 9, code := some k10c0 }
def k10c1 : Code := { maxStack := 3, maxLocals := 5, code := prog_8_method_5_code, exceptionTable := #[], attributes := #[] }
def k10m1 : Method := { name := "ofProduct", desc := "(Ljava/lang/String;)Lcom/example/limpet/limpet/jdbc/Dialect;", sig := { parameters := [(.object "java/lang/String")], returnType := some (.object "com/example/limpet/limpet/jdbc/Dialect") }, accessFlags := 8, code := some k10c1 }
/-- com/example/limpet/limpet/jdbc/Dialect -/
def k10 : Class := { plain "com/example/limpet/limpet/jdbc/Dialect" (some 9) with
  accessFlags := 16432
  interfaces := #[]
  cf := some (fileOf pool10 1 #[] #[{ accessFlags := 9, nameIndex := 56, descriptorIndex := 57, attributes := #[] }, { accessFlags := 8, nameIndex := 147, descriptorIndex := 141, attributes := #[] }] 16432 20 #[] #[{ accessFlags := 16409, nameIndex := 5, descriptorIndex := 6, attributes := #[] }, { accessFlags := 16409, nameIndex := 9, descriptorIndex := 6, attributes := #[] }, { accessFlags := 24, nameIndex := 129, descriptorIndex := 32, attributes := #[] }, { accessFlags := 24, nameIndex := 133, descriptorIndex := 32, attributes := #[] }, { accessFlags := 26, nameIndex := 136, descriptorIndex := 32, attributes := #[] }, { accessFlags := 18, nameIndex := 31, descriptorIndex := 32, attributes := #[] }, { accessFlags := 18, nameIndex := 35, descriptorIndex := 32, attributes := #[] }, { accessFlags := 18, nameIndex := 38, descriptorIndex := 32, attributes := #[] }, { accessFlags := 18, nameIndex := 41, descriptorIndex := 32, attributes := #[] }, { accessFlags := 16, nameIndex := 44, descriptorIndex := 32, attributes := #[] }, { accessFlags := 16, nameIndex := 47, descriptorIndex := 32, attributes := #[] }, { accessFlags := 16, nameIndex := 50, descriptorIndex := 32, attributes := #[] }, { accessFlags := 16, nameIndex := 53, descriptorIndex := 32, attributes := #[] }, { accessFlags := 4122, nameIndex := 12, descriptorIndex := 13, attributes := #[] }])
  fields := #[{ name := "POSTGRESQL", type := (.object "com/example/limpet/limpet/jdbc/Dialect"), accessFlags := 16409, slot := 0, constantValue := 0 }, { name := "MARIADB", type := (.object "com/example/limpet/limpet/jdbc/Dialect"), accessFlags := 16409, slot := 1, constantValue := 0 }, { name := "CREATE_SEQUENCE", type := (.object "java/lang/String"), accessFlags := 24, slot := 2, constantValue := 0 }, { name := "DELETE", type := (.object "java/lang/String"), accessFlags := 24, slot := 3, constantValue := 0 }, { name := "SUPPORTED", type := (.object "java/lang/String"), accessFlags := 26, slot := 4, constantValue := 0 }, { name := "product", type := (.object "java/lang/String"), accessFlags := 18, slot := 3, constantValue := 0 }, { name := "urlPrefix", type := (.object "java/lang/String"), accessFlags := 18, slot := 4, constantValue := 0 }, { name := "connectTimeout", type := (.object "java/lang/String"), accessFlags := 18, slot := 5, constantValue := 0 }, { name := "socketTimeout", type := (.object "java/lang/String"), accessFlags := 18, slot := 6, constantValue := 0 }, { name := "createTable", type := (.object "java/lang/String"), accessFlags := 16, slot := 7, constantValue := 0 }, { name := "take", type := (.object "java/lang/String"), accessFlags := 16, slot := 8, constantValue := 0 }, { name := "renew", type := (.object "java/lang/String"), accessFlags := 16, slot := 9, constantValue := 0 }, { name := "release", type := (.object "java/lang/String"), accessFlags := 16, slot := 10, constantValue := 0 }, { name := "$VALUES", type := (.array (.object "com/example/limpet/limpet/jdbc/Dialect")), accessFlags := 4122, slot := 5, constantValue := 0 }]
  methods := #[k10m0, k10m1]
  instanceTypes := #[(.object "java/lang/String"), .int, .int, (.object "java/lang/String"), (.object "java/lang/String"), (.object "java/lang/String"), (.object "java/lang/String"), (.object "java/lang/String"), (.object "java/lang/String"), (.object "java/lang/String"), (.object "java/lang/String")]
  staticTypes := #[(.object "com/example/limpet/limpet/jdbc/Dialect"), (.object "com/example/limpet/limpet/jdbc/Dialect"), (.object "java/lang/String"), (.object "java/lang/String"), (.object "java/lang/String"), (.array (.object "com/example/limpet/limpet/jdbc/Dialect"))]
  resolved := Array.replicate 171 none
  statics := some 1 }

def pool11 : Array CpInfo := pool [(1, .class_ 2), (0, u "java/lang/Cloneable"), (0, .class_ 4), (0, u "java/lang/Object")] 2

/-- java/lang/Cloneable -/
def k11 : Class := { plain "java/lang/Cloneable" (some 0) with
  accessFlags := 1537
  interfaces := #[]
  cf := some (fileOf pool11 1 #[] #[] 1537 3 #[] #[])
  fields := #[]
  methods := #[]
  instanceTypes := #[]
  staticTypes := #[]
  resolved := Array.replicate 7 none
  statics := none }

def pool12 : Array CpInfo := pool [(4, .class_ 6), (1, u "java/lang/Object"), (0, u "<init>"), (0, u "()V"), (5, .class_ 16), (1, u "java/lang/StringLatin1"), (50, .class_ 69), (1, u "java/lang/CharacterDataLatin1"), (51, u "$assertionsDisabled"), (0, u "Z"), (30, .methodref 67 154), (0, .nameAndType 155 156), (0, u "equalsIgnoreCase"), (0, u "(BB)Z"), (64, .class_ 223), (1, u "java/lang/StringLatin1$LinesSpliterator"), (116, u "regionMatchesCI"), (0, u "([BI[BII)Z"), (48, .class_ 391), (0, u "java/lang/StringLatin1$CharsSpliterator")] 3

def k12m0 : Method := { name := "<init>", desc := "()V", sig := { parameters := [], returnType := none }, accessFlags := 0, code := none }
def k12c1 : Code := { maxStack := 2, maxLocals := 8, code := jdk_43_method_30_code, exceptionTable := #[], attributes := #[] }
def k12m1 : Method := { name := "regionMatchesCI", desc := "([BI[BII)Z", sig := { parameters := [(.array .byte), .int, (.array .byte), .int, .int], returnType := some .boolean }, accessFlags := 9, code := some k12c1 }
/-- java/lang/StringLatin1 -/
def k12 : Class := { plain "java/lang/StringLatin1" (some 0) with
  accessFlags := 48
  interfaces := #[]
  cf := some (fileOf pool12 14 #[.nestMembers #[390, 221]] #[{ accessFlags := 0, nameIndex := 7, descriptorIndex := 8, attributes := #[] }, { accessFlags := 9, nameIndex := 340, descriptorIndex := 341, attributes := #[] }] 48 4 #[] #[{ accessFlags := 4120, nameIndex := 121, descriptorIndex := 122, attributes := #[] }])
  fields := #[{ name := "$assertionsDisabled", type := .boolean, accessFlags := 4120, slot := 0, constantValue := 0 }]
  methods := #[k12m0, k12m1]
  instanceTypes := #[]
  staticTypes := #[.boolean]
  resolved := Array.replicate 395 none
  statics := none }

def pool13 : Array CpInfo := pool [(2, .class_ 4), (1, u "java/lang/Object"), (0, u "<init>"), (0, u "()V"), (1, .class_ 10), (1, u "java/lang/CharacterData")] 75

def k13m0 : Method := { name := "<init>", desc := "()V", sig := { parameters := [], returnType := none }, accessFlags := 0, code := none }
/-- java/lang/CharacterData -/
def k13 : Class := { plain "java/lang/CharacterData" (some 0) with
  accessFlags := 1056
  interfaces := #[]
  cf := some (fileOf pool13 8 #[] #[{ accessFlags := 0, nameIndex := 5, descriptorIndex := 6, attributes := #[] }] 1056 2 #[] #[])
  fields := #[]
  methods := #[k13m0]
  instanceTypes := #[]
  staticTypes := #[]
  resolved := Array.replicate 86 none
  statics := none }

def pool14 : Array CpInfo := pool [(2, .class_ 4), (1, u "java/lang/CharacterDataLatin1"), (0, u "A"), (0, u "[I"), (2, u "B"), (0, u "[C"), (16, u "DIGITS"), (0, u "[B"), (8, u "sharpsMap"), (1, .class_ 41), (1, u "java/lang/CharacterData"), (0, u "<init>"), (0, u "()V"), (3, u "instance"), (0, u "Ljava/lang/CharacterDataLatin1;"), (66, u "equalsIgnoreCase"), (0, u "(BB)Z")] 24

def k14c0 : Code := { maxStack := 3, maxLocals := 3, code := jdk_116_method_22_code, exceptionTable := #[], attributes := #[] }
def k14m0 : Method := { name := "equalsIgnoreCase", desc := "(BB)Z", sig := { parameters := [.byte, .byte], returnType := some .boolean }, accessFlags := 8, code := some k14c0 }
def k14m1 : Method := { name := "<init>", desc := "()V", sig := { parameters := [], returnType := none }, accessFlags := 2, code := none }
/-- java/lang/CharacterDataLatin1 -/
def k14 : Class := { plain "java/lang/CharacterDataLatin1" (some 13) with
  accessFlags := 32
  interfaces := #[]
  cf := some (fileOf pool14 2 #[] #[{ accessFlags := 8, nameIndex := 115, descriptorIndex := 116, attributes := #[] }, { accessFlags := 2, nameIndex := 42, descriptorIndex := 43, attributes := #[] }] 32 39 #[] #[{ accessFlags := 26, nameIndex := 27, descriptorIndex := 28, attributes := #[] }, { accessFlags := 8, nameIndex := 37, descriptorIndex := 10, attributes := #[] }, { accessFlags := 24, nameIndex := 47, descriptorIndex := 48, attributes := #[] }, { accessFlags := 24, nameIndex := 5, descriptorIndex := 6, attributes := #[] }, { accessFlags := 24, nameIndex := 9, descriptorIndex := 10, attributes := #[] }])
  fields := #[{ name := "DIGITS", type := (.array .byte), accessFlags := 26, slot := 0, constantValue := 0 }, { name := "sharpsMap", type := (.array .char), accessFlags := 8, slot := 1, constantValue := 0 }, { name := "instance", type := (.object "java/lang/CharacterDataLatin1"), accessFlags := 24, slot := 2, constantValue := 0 }, { name := "A", type := (.array .int), accessFlags := 24, slot := 3, constantValue := 0 }, { name := "B", type := (.array .char), accessFlags := 24, slot := 4, constantValue := 0 }]
  methods := #[k14m0, k14m1]
  instanceTypes := #[]
  staticTypes := #[(.array .byte), (.array .char), (.object "java/lang/CharacterDataLatin1"), (.array .int), (.array .char)]
  resolved := Array.replicate 141 none
  statics := none }

def pool15 : Array CpInfo := pool [(2, .class_ 4), (1, u "java/lang/Object"), (0, u "<init>"), (0, u "()V"), (17, .class_ 26), (1, u "jdk/internal/util/Preconditions"), (28, .class_ 56), (0, u "jdk/internal/util/Preconditions$4"), (57, .class_ 115), (0, u "jdk/internal/util/Preconditions$1"), (7, u "SIOOBE_FORMATTER"), (0, u "Ljava/util/function/BiFunction;"), (0, .class_ 126), (0, u "jdk/internal/util/Preconditions$2"), (3, u "AIOOBE_FORMATTER"), (0, .class_ 132), (0, u "jdk/internal/util/Preconditions$3"), (3, u "IOOBE_FORMATTER")] 57

def k15m0 : Method := { name := "<init>", desc := "()V", sig := { parameters := [], returnType := none }, accessFlags := 1, code := none }
/-- jdk/internal/util/Preconditions -/
def k15 : Class := { plain "jdk/internal/util/Preconditions" (some 0) with
  accessFlags := 33
  interfaces := #[]
  cf := some (fileOf pool15 24 #[.nestMembers #[55, 131, 125, 114]] #[{ accessFlags := 1, nameIndex := 5, descriptorIndex := 6, attributes := #[] }] 33 2 #[] #[{ accessFlags := 25, nameIndex := 123, descriptorIndex := 124, attributes := #[] }, { accessFlags := 25, nameIndex := 130, descriptorIndex := 124, attributes := #[] }, { accessFlags := 25, nameIndex := 136, descriptorIndex := 124, attributes := #[] }])
  fields := #[{ name := "SIOOBE_FORMATTER", type := (.object "java/util/function/BiFunction"), accessFlags := 25, slot := 0, constantValue := 0 }, { name := "AIOOBE_FORMATTER", type := (.object "java/util/function/BiFunction"), accessFlags := 25, slot := 1, constantValue := 0 }, { name := "IOOBE_FORMATTER", type := (.object "java/util/function/BiFunction"), accessFlags := 25, slot := 2, constantValue := 0 }]
  methods := #[k15m0]
  instanceTypes := #[]
  staticTypes := #[(.object "java/util/function/BiFunction"), (.object "java/util/function/BiFunction"), (.object "java/util/function/BiFunction")]
  resolved := Array.replicate 194 none
  statics := some 2 }

def pool16 : Array CpInfo := pool [(9, u "<init>"), (6, .class_ 18), (1, u "java/lang/Object"), (0, u "()V"), (1, .class_ 23), (1, u "jdk/internal/util/ArraysSupport"), (0, u "LOG2_ARRAY_LONG_INDEX_SCALE"), (0, u "I"), (2, u "U"), (0, u "Ljdk/internal/misc/Unsafe;"), (8, u "BIG_ENDIAN"), (0, u "Z"), (8, u "LOG2_BYTE_BIT_SIZE"), (4, u "LOG2_ARRAY_INT_INDEX_SCALE"), (54, u "JLA"), (0, u "Ljdk/internal/access/JavaLangAccess;"), (11, u "LOG2_ARRAY_BOOLEAN_INDEX_SCALE"), (9, u "LOG2_ARRAY_BYTE_INDEX_SCALE"), (5, u "LOG2_ARRAY_CHAR_INDEX_SCALE"), (5, u "LOG2_ARRAY_SHORT_INDEX_SCALE"), (18, u "LOG2_ARRAY_FLOAT_INDEX_SCALE"), (24, u "LOG2_ARRAY_DOUBLE_INDEX_SCALE"), (89, u "T_BOOLEAN"), (2, u "T_CHAR"), (1, u "T_FLOAT"), (1, u "T_DOUBLE"), (1, u "T_BYTE"), (1, u "T_SHORT"), (1, u "T_INT"), (1, u "T_LONG"), (1, u "SOFT_MAX_ARRAY_LENGTH")] 83

def k16m0 : Method := { name := "<init>", desc := "()V", sig := { parameters := [], returnType := none }, accessFlags := 2, code := none }
/-- jdk/internal/util/ArraysSupport -/
def k16 : Class := { plain "jdk/internal/util/ArraysSupport" (some 0) with
  accessFlags := 33
  interfaces := #[]
  cf := some (fileOf pool16 21 #[] #[{ accessFlags := 2, nameIndex := 9, descriptorIndex := 19, attributes := #[] }] 33 16 #[] #[{ accessFlags := 24, nameIndex := 28, descriptorIndex := 29, attributes := #[] }, { accessFlags := 26, nameIndex := 38, descriptorIndex := 39, attributes := #[] }, { accessFlags := 25, nameIndex := 121, descriptorIndex := 25, attributes := #[] }, { accessFlags := 25, nameIndex := 131, descriptorIndex := 25, attributes := #[] }, { accessFlags := 25, nameIndex := 137, descriptorIndex := 25, attributes := #[] }, { accessFlags := 25, nameIndex := 143, descriptorIndex := 25, attributes := #[] }, { accessFlags := 25, nameIndex := 53, descriptorIndex := 25, attributes := #[] }, { accessFlags := 25, nameIndex := 24, descriptorIndex := 25, attributes := #[] }, { accessFlags := 25, nameIndex := 162, descriptorIndex := 25, attributes := #[] }, { accessFlags := 25, nameIndex := 187, descriptorIndex := 25, attributes := #[] }, { accessFlags := 26, nameIndex := 48, descriptorIndex := 25, attributes := #[] }, { accessFlags := 25, nameIndex := 277, descriptorIndex := 25, attributes := #[] }, { accessFlags := 25, nameIndex := 280, descriptorIndex := 25, attributes := #[] }, { accessFlags := 25, nameIndex := 282, descriptorIndex := 25, attributes := #[] }, { accessFlags := 25, nameIndex := 284, descriptorIndex := 25, attributes := #[] }, { accessFlags := 25, nameIndex := 286, descriptorIndex := 25, attributes := #[] }, { accessFlags := 25, nameIndex := 288, descriptorIndex := 25, attributes := #[] }, { accessFlags := 25, nameIndex := 290, descriptorIndex := 25, attributes := #[] }, { accessFlags := 25, nameIndex := 292, descriptorIndex := 25, attributes := #[] }, { accessFlags := 26, nameIndex := 108, descriptorIndex := 109, attributes := #[] }, { accessFlags := 25, nameIndex := 294, descriptorIndex := 25, attributes := #[] }])
  fields := #[{ name := "U", type := (.object "jdk/internal/misc/Unsafe"), accessFlags := 24, slot := 0, constantValue := 0 }, { name := "BIG_ENDIAN", type := .boolean, accessFlags := 26, slot := 1, constantValue := 0 }, { name := "LOG2_ARRAY_BOOLEAN_INDEX_SCALE", type := .int, accessFlags := 25, slot := 2, constantValue := 0 }, { name := "LOG2_ARRAY_BYTE_INDEX_SCALE", type := .int, accessFlags := 25, slot := 3, constantValue := 0 }, { name := "LOG2_ARRAY_CHAR_INDEX_SCALE", type := .int, accessFlags := 25, slot := 4, constantValue := 0 }, { name := "LOG2_ARRAY_SHORT_INDEX_SCALE", type := .int, accessFlags := 25, slot := 5, constantValue := 0 }, { name := "LOG2_ARRAY_INT_INDEX_SCALE", type := .int, accessFlags := 25, slot := 6, constantValue := 0 }, { name := "LOG2_ARRAY_LONG_INDEX_SCALE", type := .int, accessFlags := 25, slot := 7, constantValue := 0 }, { name := "LOG2_ARRAY_FLOAT_INDEX_SCALE", type := .int, accessFlags := 25, slot := 8, constantValue := 0 }, { name := "LOG2_ARRAY_DOUBLE_INDEX_SCALE", type := .int, accessFlags := 25, slot := 9, constantValue := 0 }, { name := "LOG2_BYTE_BIT_SIZE", type := .int, accessFlags := 26, slot := 10, constantValue := 0 }, { name := "T_BOOLEAN", type := .int, accessFlags := 25, slot := 11, constantValue := 0 }, { name := "T_CHAR", type := .int, accessFlags := 25, slot := 12, constantValue := 0 }, { name := "T_FLOAT", type := .int, accessFlags := 25, slot := 13, constantValue := 0 }, { name := "T_DOUBLE", type := .int, accessFlags := 25, slot := 14, constantValue := 0 }, { name := "T_BYTE", type := .int, accessFlags := 25, slot := 15, constantValue := 0 }, { name := "T_SHORT", type := .int, accessFlags := 25, slot := 16, constantValue := 0 }, { name := "T_INT", type := .int, accessFlags := 25, slot := 17, constantValue := 0 }, { name := "T_LONG", type := .int, accessFlags := 25, slot := 18, constantValue := 0 }, { name := "JLA", type := (.object "jdk/internal/access/JavaLangAccess"), accessFlags := 26, slot := 19, constantValue := 0 }, { name := "SOFT_MAX_ARRAY_LENGTH", type := .int, accessFlags := 25, slot := 20, constantValue := 0 }]
  methods := #[k16m0]
  instanceTypes := #[]
  staticTypes := #[(.object "jdk/internal/misc/Unsafe"), .boolean, .int, .int, .int, .int, .int, .int, .int, .int, .int, .int, .int, .int, .int, .int, .int, .int, .int, (.object "jdk/internal/access/JavaLangAccess"), .int]
  resolved := Array.replicate 378 none
  statics := none }

/-- the primitive byte -/
def k17 : Class := { plain "byte" none with kind := .primitive 'B', accessFlags := 0x411 }
/-- [B -/
def k18 : Class := { plain "[B" (some 0) with kind := .array 17 .byte, interfaces := #[11, 2], accessFlags := 1041 }

/-- the primitive char -/
def k19 : Class := { plain "char" none with kind := .primitive 'C', accessFlags := 0x411 }
/-- [C -/
def k20 : Class := { plain "[C" (some 0) with kind := .array 19 .char, interfaces := #[11, 2], accessFlags := 1041 }

/-- the primitive int -/
def k21 : Class := { plain "int" none with kind := .primitive 'I', accessFlags := 0x411 }
/-- [I -/
def k22 : Class := { plain "[I" (some 0) with kind := .array 21 .int, interfaces := #[11, 2], accessFlags := 1041 }

/-- [Lcom/example/limpet/limpet/jdbc/Dialect; -/
def k23 : Class := { plain "[Lcom/example/limpet/limpet/jdbc/Dialect;" (some 0) with kind := .array 10 (.object "com/example/limpet/limpet/jdbc/Dialect"), interfaces := #[11, 2], accessFlags := 1041 }

def heap : Heap := #[{ cls := 7, slots := #[.long 0, .int 1, .null, .int 0, .null, .int 0, .int 0], vm := .statics 7 },
  { cls := 10, slots := #[.ref 4, .ref 5, .null, .null, .null, .ref 3], vm := .statics 10 },
  { cls := 15, slots := #[.null, .null, .null], vm := .statics 15 },
  { cls := 23, slots := #[.ref 4, .ref 5], vm := .none },
  { cls := 10, slots := #[.null, .int 0, .int 0, .ref 6, .null, .null, .null, .null, .null, .null, .null], vm := .none },
  { cls := 10, slots := #[.null, .int 1, .int 0, .ref 7, .null, .null, .null, .null, .null, .null, .null], vm := .none },
  { cls := 7, slots := #[.ref 8, .int 0, .int 0, .int 0], vm := .none },
  { cls := 7, slots := #[.ref 9, .int 0, .int 0, .int 0], vm := .none },
  { cls := 18, slots := #[.int 80, .int 111, .int 115, .int 116, .int 103, .int 114, .int 101, .int 83, .int 81, .int 76], vm := .none },
  { cls := 18, slots := #[.int 77, .int 97, .int 114, .int 105, .int 97, .int 68, .int 66], vm := .none }]
def classes : Array Class := #[k0, k1, k2, k3, k4, k5, k6, k7, k8, k9, k10, k11, k12, k13, k14, k15, k16, k17, k18, k19, k20, k21, k22, k23]
def interned : List (Array UInt16 × Addr) := []
def slotsUsed : Nat := 65
def theMethod : MethodId := ⟨1, 1⟩
def args0 : Array Value := #[.int 0, .int 5]
def aboutOver (below : List Frame) : State where
  vm := { classes := classes, interned := interned.toArray }
  heap := heap
  slotsUsed := slotsUsed
  threads := #[{ frames := .invoking theMethod args0 :: below }]
def below0 : List Frame := [.native { method := ⟨0, 0⟩, args := #[] }]
def about1 : State := aboutOver below0
def p0 : Program := .bare "" "" ""
def e0 : Env := launch0.env 0 0 0
theorem w_frames : about1.frames = Frame.invoking theMethod args0 :: below0 := rfl
set_option maxRecDepth 65536 in
theorem w_args : argsFit about1.vm theMethod args0 = true := by decide +kernel
set_option maxRecDepth 65536 in
theorem w_heap : heapFits about1 = true := by decide +kernel
set_option maxRecDepth 65536 in
theorem w_runnable : about1.curStatus? = some .runnable := by decide +kernel
set_option maxRecDepth 65536 in
theorem w_alone : about1.alone = true := by decide +kernel
set_option maxRecDepth 65536 in
theorem w_named : about1.methodNamed? x = some theMethod := by decide +kernel
set_option maxRecDepth 65536 in
theorem w_hears : about1.hears theMethod below0 = true := by decide +kernel
set_option maxRecDepth 65536 in
theorem w_ripe : about1.ripe theMethod args0 below0 = true := by decide +kernel
theorem w_running : about1.status = .running := rfl
set_option maxRecDepth 65536 in
theorem w_room : about1.hasRoom e0.platform room_1 = true :=
  launch0.hasRoom_least _ room_1 (by decide +kernel) (by decide +kernel) (by decide +kernel) (by decide +kernel) (by decide +kernel) (by decide +kernel)
theorem allAtoms_all (ts : List Jvm.Cond) (a : Array Jvm.Value) (st : Jvm.State) : (allAtoms ts).before a st = ts.all (fun c => c.before a st) := by
  induction ts with
  | nil => rfl
  | cons c t ih =>
    show (Jvm.Cond.and c (allAtoms t)).before a st = _
    rw [Jvm.Cond.before_and, ih, List.all_cons]
def words1 : List Jvm.Cond := Jvm.Cond.code x code maxLocals ret :: tables_1
/-- a 'code' word, met by the world's own term for the bytes: nothing is compared byte by byte -/
theorem code_word {y : MethodName} {bytes : ByteArray} {mx : Nat} {rt : Option FieldType} {a : Array Value} {s : State} {m : MethodId} {meth : Method} {c : Code} (h1 : s.methodNamed? y = some m) (h2 : s.vm.method? m = some meth) (h3 : meth.code = some c) (h4 : c.code = bytes)
    (h5 : (c.maxLocals == mx && c.exceptionTable.isEmpty && decide (c.maxStack ≤ mostOperands) && decide (meth.sig.returnType = rt) && !meth.locks && decide (parseMethodDescriptor y.desc = some meth.sig)) = true) : (Jvm.Cond.code y bytes mx rt).before a s = true := by
  simp only [Bool.and_eq_true, beq_iff_eq, Bool.not_eq_true', decide_eq_true_eq] at h5
  obtain ⟨⟨⟨⟨⟨g1, g2⟩, g3⟩, g4⟩, g5⟩, g6⟩ := h5
  simp [Cond.before, Cond.holds, Cond.value, h1, h2, h3, h4, g1, g2, g3, g4, g5, g6]
def isCode : Jvm.Cond → Bool
  | .code _ _ _ _ => true
  | _ => false
theorem all_split {L : List Jvm.Cond} {P : Jvm.Cond → Bool} (h1 : L.all (fun c => isCode c || P c) = true) (h2 : ∀ c ∈ L.filter isCode, P c = true) : L.all P = true := by
  refine List.all_eq_true.mpr fun c hc => ?_
  have h := List.all_eq_true.mp h1 c hc
  rcases Bool.eq_false_or_eq_true (isCode c) with hi | hi
  · exact h2 c (List.mem_filter.mpr ⟨hc, hi⟩)
  · simpa [hi] using h
set_option maxRecDepth 65536 in
theorem w_c0 : (Jvm.Cond.code x code maxLocals ret).before args0 about1 = true := code_word (m := ⟨1, 1⟩) (meth := k1m1) (c := k1c1) (by decide +kernel) rfl rfl rfl (by decide +kernel)
set_option maxRecDepth 65536 in
theorem w_c1 : (Jvm.Cond.code ({ cls := "com/example/limpet/limpet/jdbc/DialectOfProductPinLaw", name := "c", desc := "(CII)C" } : Jvm.MethodName) method_3_code (3 : Nat) (Option.some Jvm.ClassFile.FieldType.char)).before args0 about1 = true := code_word (m := ⟨1, 2⟩) (meth := k1m2) (c := k1c2) (by decide +kernel) rfl rfl rfl (by decide +kernel)
set_option maxRecDepth 65536 in
theorem w_c2 : (Jvm.Cond.code ({ cls := "java/lang/String", name := "<init>", desc := "([C)V" } : Jvm.MethodName) jdk_42_method_3_code (2 : Nat) (Option.none : Option Jvm.ClassFile.FieldType)).before args0 about1 = true := code_word (m := ⟨7, 1⟩) (meth := k7m1) (c := k7c1) (by decide +kernel) rfl rfl rfl (by decide +kernel)
set_option maxRecDepth 65536 in
theorem w_c3 : (Jvm.Cond.code ({ cls := "java/lang/String", name := "<init>", desc := "([CIILjava/lang/Void;)V" } : Jvm.MethodName) jdk_42_method_149_code (6 : Nat) (Option.none : Option Jvm.ClassFile.FieldType)).before args0 about1 = true := code_word (m := ⟨7, 5⟩) (meth := k7m5) (c := k7c5) (by decide +kernel) rfl rfl rfl (by decide +kernel)
set_option maxRecDepth 65536 in
theorem w_c4 : (Jvm.Cond.code ({ cls := "java/lang/Object", name := "<init>", desc := "()V" } : Jvm.MethodName) object_method_1_code (1 : Nat) (Option.none : Option Jvm.ClassFile.FieldType)).before args0 about1 = true := code_word (m := ⟨0, 0⟩) (meth := k0m0) (c := k0c0) (by decide +kernel) rfl rfl rfl (by decide +kernel)
set_option maxRecDepth 65536 in
theorem w_c5 : (Jvm.Cond.code ({ cls := "java/lang/StringUTF16", name := "compress", desc := "([CII)[B" } : Jvm.MethodName) jdk_52_method_16_code (6 : Nat) (Option.some (Jvm.ClassFile.FieldType.array Jvm.ClassFile.FieldType.byte))).before args0 about1 = true := code_word (m := ⟨8, 2⟩) (meth := k8m2) (c := k8c2) (by decide +kernel) rfl rfl rfl (by decide +kernel)
set_option maxRecDepth 65536 in
theorem w_c6 : (Jvm.Cond.code ({ cls := "java/lang/StringUTF16", name := "compress", desc := "([CI[BII)I" } : Jvm.MethodName) jdk_52_method_21_code (7 : Nat) (Option.some Jvm.ClassFile.FieldType.int)).before args0 about1 = true := code_word (m := ⟨8, 3⟩) (meth := k8m3) (c := k8c3) (by decide +kernel) rfl rfl rfl (by decide +kernel)
set_option maxRecDepth 65536 in
theorem w_c7 : (Jvm.Cond.code ({ cls := "java/lang/StringUTF16", name := "coderFromArrayLen", desc := "([BI)B" } : Jvm.MethodName) jdk_52_method_15_code (2 : Nat) (Option.some Jvm.ClassFile.FieldType.byte)).before args0 about1 = true := code_word (m := ⟨8, 1⟩) (meth := k8m1) (c := k8c1) (by decide +kernel) rfl rfl rfl (by decide +kernel)
set_option maxRecDepth 65536 in
theorem w_c8 : (Jvm.Cond.code ({ cls := "com/example/limpet/limpet/jdbc/Dialect", name := "ofProduct", desc := "(Ljava/lang/String;)Lcom/example/limpet/limpet/jdbc/Dialect;" } : Jvm.MethodName) prog_8_method_5_code (5 : Nat) (Option.some (Jvm.ClassFile.FieldType.object "com/example/limpet/limpet/jdbc/Dialect"))).before args0 about1 = true := code_word (m := ⟨10, 1⟩) (meth := k10m1) (c := k10c1) (by decide +kernel) rfl rfl rfl (by decide +kernel)
set_option maxRecDepth 65536 in
theorem w_c9 : (Jvm.Cond.code ({ cls := "com/example/limpet/limpet/jdbc/Dialect", name := "values", desc := "()[Lcom/example/limpet/limpet/jdbc/Dialect;" } : Jvm.MethodName) prog_8_method_1_code (0 : Nat) (Option.some (Jvm.ClassFile.FieldType.array (Jvm.ClassFile.FieldType.object "com/example/limpet/limpet/jdbc/Dialect")))).before args0 about1 = true := code_word (m := ⟨10, 0⟩) (meth := k10m0) (c := k10c0) (by decide +kernel) rfl rfl rfl (by decide +kernel)
set_option maxRecDepth 65536 in
theorem w_c10 : (Jvm.Cond.code ({ cls := "java/lang/String", name := "equalsIgnoreCase", desc := "(Ljava/lang/String;)Z" } : Jvm.MethodName) jdk_42_method_70_code (2 : Nat) (Option.some Jvm.ClassFile.FieldType.boolean)).before args0 about1 = true := code_word (m := ⟨7, 3⟩) (meth := k7m3) (c := k7c3) (by decide +kernel) rfl rfl rfl (by decide +kernel)
set_option maxRecDepth 65536 in
theorem w_c11 : (Jvm.Cond.code ({ cls := "java/lang/String", name := "length", desc := "()I" } : Jvm.MethodName) jdk_42_method_54_code (1 : Nat) (Option.some Jvm.ClassFile.FieldType.int)).before args0 about1 = true := code_word (m := ⟨7, 2⟩) (meth := k7m2) (c := k7c2) (by decide +kernel) rfl rfl rfl (by decide +kernel)
set_option maxRecDepth 65536 in
theorem w_c12 : (Jvm.Cond.code ({ cls := "java/lang/String", name := "coder", desc := "()B" } : Jvm.MethodName) jdk_42_method_152_code (1 : Nat) (Option.some Jvm.ClassFile.FieldType.byte)).before args0 about1 = true := code_word (m := ⟨7, 6⟩) (meth := k7m6) (c := k7c6) (by decide +kernel) rfl rfl rfl (by decide +kernel)
set_option maxRecDepth 65536 in
theorem w_c13 : (Jvm.Cond.code ({ cls := "java/lang/String", name := "regionMatches", desc := "(ZILjava/lang/String;II)Z" } : Jvm.MethodName) jdk_42_method_74_code (9 : Nat) (Option.some Jvm.ClassFile.FieldType.boolean)).before args0 about1 = true := code_word (m := ⟨7, 4⟩) (meth := k7m4) (c := k7c4) (by decide +kernel) rfl rfl rfl (by decide +kernel)
set_option maxRecDepth 65536 in
theorem w_c14 : (Jvm.Cond.code ({ cls := "java/lang/StringLatin1", name := "regionMatchesCI", desc := "([BI[BII)Z" } : Jvm.MethodName) jdk_43_method_30_code (8 : Nat) (Option.some Jvm.ClassFile.FieldType.boolean)).before args0 about1 = true := code_word (m := ⟨12, 1⟩) (meth := k12m1) (c := k12c1) (by decide +kernel) rfl rfl rfl (by decide +kernel)
set_option maxRecDepth 65536 in
theorem w_c15 : (Jvm.Cond.code ({ cls := "java/lang/CharacterDataLatin1", name := "equalsIgnoreCase", desc := "(BB)Z" } : Jvm.MethodName) jdk_116_method_22_code (3 : Nat) (Option.some Jvm.ClassFile.FieldType.boolean)).before args0 about1 = true := code_word (m := ⟨14, 0⟩) (meth := k14m0) (c := k14c0) (by decide +kernel) rfl rfl rfl (by decide +kernel)
def codes1 : List Jvm.Cond := [Jvm.Cond.code x code maxLocals ret, Jvm.Cond.code ({ cls := "com/example/limpet/limpet/jdbc/DialectOfProductPinLaw", name := "c", desc := "(CII)C" } : Jvm.MethodName) method_3_code (3 : Nat) (Option.some Jvm.ClassFile.FieldType.char), Jvm.Cond.code ({ cls := "java/lang/String", name := "<init>", desc := "([C)V" } : Jvm.MethodName) jdk_42_method_3_code (2 : Nat) (Option.none : Option Jvm.ClassFile.FieldType), Jvm.Cond.code ({ cls := "java/lang/String", name := "<init>", desc := "([CIILjava/lang/Void;)V" } : Jvm.MethodName) jdk_42_method_149_code (6 : Nat) (Option.none : Option Jvm.ClassFile.FieldType), Jvm.Cond.code ({ cls := "java/lang/Object", name := "<init>", desc := "()V" } : Jvm.MethodName) object_method_1_code (1 : Nat) (Option.none : Option Jvm.ClassFile.FieldType), Jvm.Cond.code ({ cls := "java/lang/StringUTF16", name := "compress", desc := "([CII)[B" } : Jvm.MethodName) jdk_52_method_16_code (6 : Nat) (Option.some (Jvm.ClassFile.FieldType.array Jvm.ClassFile.FieldType.byte)), Jvm.Cond.code ({ cls := "java/lang/StringUTF16", name := "compress", desc := "([CI[BII)I" } : Jvm.MethodName) jdk_52_method_21_code (7 : Nat) (Option.some Jvm.ClassFile.FieldType.int), Jvm.Cond.code ({ cls := "java/lang/StringUTF16", name := "coderFromArrayLen", desc := "([BI)B" } : Jvm.MethodName) jdk_52_method_15_code (2 : Nat) (Option.some Jvm.ClassFile.FieldType.byte), Jvm.Cond.code ({ cls := "com/example/limpet/limpet/jdbc/Dialect", name := "ofProduct", desc := "(Ljava/lang/String;)Lcom/example/limpet/limpet/jdbc/Dialect;" } : Jvm.MethodName) prog_8_method_5_code (5 : Nat) (Option.some (Jvm.ClassFile.FieldType.object "com/example/limpet/limpet/jdbc/Dialect")), Jvm.Cond.code ({ cls := "com/example/limpet/limpet/jdbc/Dialect", name := "values", desc := "()[Lcom/example/limpet/limpet/jdbc/Dialect;" } : Jvm.MethodName) prog_8_method_1_code (0 : Nat) (Option.some (Jvm.ClassFile.FieldType.array (Jvm.ClassFile.FieldType.object "com/example/limpet/limpet/jdbc/Dialect"))), Jvm.Cond.code ({ cls := "java/lang/String", name := "equalsIgnoreCase", desc := "(Ljava/lang/String;)Z" } : Jvm.MethodName) jdk_42_method_70_code (2 : Nat) (Option.some Jvm.ClassFile.FieldType.boolean), Jvm.Cond.code ({ cls := "java/lang/String", name := "length", desc := "()I" } : Jvm.MethodName) jdk_42_method_54_code (1 : Nat) (Option.some Jvm.ClassFile.FieldType.int), Jvm.Cond.code ({ cls := "java/lang/String", name := "coder", desc := "()B" } : Jvm.MethodName) jdk_42_method_152_code (1 : Nat) (Option.some Jvm.ClassFile.FieldType.byte), Jvm.Cond.code ({ cls := "java/lang/String", name := "regionMatches", desc := "(ZILjava/lang/String;II)Z" } : Jvm.MethodName) jdk_42_method_74_code (9 : Nat) (Option.some Jvm.ClassFile.FieldType.boolean), Jvm.Cond.code ({ cls := "java/lang/StringLatin1", name := "regionMatchesCI", desc := "([BI[BII)Z" } : Jvm.MethodName) jdk_43_method_30_code (8 : Nat) (Option.some Jvm.ClassFile.FieldType.boolean), Jvm.Cond.code ({ cls := "java/lang/CharacterDataLatin1", name := "equalsIgnoreCase", desc := "(BB)Z" } : Jvm.MethodName) jdk_116_method_22_code (3 : Nat) (Option.some Jvm.ClassFile.FieldType.boolean)]
set_option maxRecDepth 65536 in
theorem codes_eq : words1.filter isCode = codes1 := rfl
theorem w_codes : ∀ c ∈ words1.filter isCode, c.before args0 about1 = true := by
  rw [codes_eq]
  intro c hc
  simp only [codes1, List.mem_cons, List.not_mem_nil, or_false] at hc
  rcases hc with rfl | rfl | rfl | rfl | rfl | rfl | rfl | rfl | rfl | rfl | rfl | rfl | rfl | rfl | rfl | rfl
  · exact w_c0
  · exact w_c1
  · exact w_c2
  · exact w_c3
  · exact w_c4
  · exact w_c5
  · exact w_c6
  · exact w_c7
  · exact w_c8
  · exact w_c9
  · exact w_c10
  · exact w_c11
  · exact w_c12
  · exact w_c13
  · exact w_c14
  · exact w_c15
set_option maxRecDepth 65536 in
theorem w_t1 : (words1.take 24).all (fun c => isCode c || c.before args0 about1) = true := by decide +kernel
set_option maxRecDepth 65536 in
theorem w_t2 : ((words1.drop 24).take 24).all (fun c => isCode c || c.before args0 about1) = true := by decide +kernel
set_option maxRecDepth 65536 in
theorem w_t3 : (((words1.drop 24).drop 24).take 24).all (fun c => isCode c || c.before args0 about1) = true := by decide +kernel
set_option maxRecDepth 65536 in
theorem w_t4 : (((words1.drop 24).drop 24).drop 24).all (fun c => isCode c || c.before args0 about1) = true := by decide +kernel
theorem w_tables : (allAtoms (Jvm.Cond.code x code maxLocals ret :: tables_1)).before args0 about1 = true := by
  rw [allAtoms_all]
  show words1.all (fun c => c.before args0 about1) = true
  refine all_split ?_ w_codes
  rw [← List.take_append_drop 24 words1, List.all_append, w_t1, ← List.take_append_drop 24 (words1.drop 24), List.all_append, w_t2, ← List.take_append_drop 24 ((words1.drop 24).drop 24), List.all_append, w_t3, w_t4]
  rfl
set_option maxRecDepth 65536 in
theorem w_rest : rest_1_c.before args0 about1 = true := by decide +kernel
set_option maxRecDepth 65536 in
theorem w_case : (Jvm.Cond.and given_1 narrow_1).before args0 about1 = true := by decide +kernel
theorem w_applies : (headSpec (Jvm.Cond.code x code maxLocals ret :: tables_1) room_1).applies x e0.platform about1 = true :=
  (Spec.applies_iff w_frames).mpr ⟨w_running, w_runnable, w_alone, w_named, w_hears, w_ripe, w_room, w_tables⟩
theorem atStart : AtStart classFile x code maxLocals ret World_1 tables_1 room_1 Calls_1 rest_1 Pre_1 launch0 p0 e0 about1 theMethod args0 below0 :=
  ⟨lists_1, trivial, launch0.admits_env _ _ _, launch0.least_env, fairChoices_fair.cas, fairChoices_fair.clock, w_frames, w_args, w_heap, w_applies, trivial, w_rest, w_case⟩
end start1
theorem witness_1 : WitnessClaimed_1 := ⟨start1.p0, start1.e0, start1.about1, start1.theMethod, start1.args0, start1.below0, start1.atStart⟩
end Jvm.Pilot.@@N@@
