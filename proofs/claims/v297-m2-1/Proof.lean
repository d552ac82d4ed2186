import JvmDerived
import JvmDerived.Pilot.@@N@@Statement
import JvmDerived.Pilot.@@N@@Code
set_option linter.unusedVariables false
set_option linter.unusedSimpArgs false
namespace Jvm.RoadKit
open Sem ClassFile Op Lib Jvm.Stand Jvm.Free Jvm.LawKit
section New
variable {p : Program} {l : Launch} {e : Env} {R : Room} {s : State} {m : MethodId} {args : Array Value} {below : List Frame} {meth : Method} {c : Code} {T : State} {locs : List Loc} {cells slots : Nat}
theorem retI (X : Stand p l e R s m args below meth c T locs cells slots) (hx : p.tables.exec = Jvm.exec) {pc : Nat} {Ls : Array Slot} {z : Int32} {rest : List Value} (hret : meth.sig.returnType = some .int) (hd : decode c.code pc = .ok (.ireturn, 1)) {fs : List Frame}
    (hl : ∀ (f : JFrame) (acts : List Action), f.method = m → f.locked = none → f.entered = [] → (doReturn e (T.setTop f) acts (some (.int z))).1 = T.setFrames fs) : Steps p.tables e below (T.setTop (mkF m pc Ls (.int z :: rest))) (T.setFrames fs) := by
  have hm' : T.vm.method? m = some meth := X.method'
  have hn : narrow .int (.int z) = .int z := rfl
  show Steps p.tables e below (T.setTop { method := m, pc := pc, locals := Ls, stack := _ :: rest, locked := none }) _
  jvm_step X.here [X.here.top, hx, hd, hm', hret, hn]
  first | (intro acts; rw [hl _ acts rfl rfl rfl]) | rw [hl _ _ rfl rfl rfl]
  exact Steps.refl _
end New
end Jvm.RoadKit
namespace Jvm.Pilot.@@N@@
open Jvm Jvm.ClassFile Sem Op Lib Jvm.Free Jvm.Stand Jvm.LawKit Jvm.RoadKit Bundle Jvm.Pilot.@@N@@.Jvm.D
section OwnKit
variable {tb : Tables} {p : Program} {l : Launch} {e : Env} {R : Room} {s : State} {m : MethodId} {args : Array Value} {below : List Frame} {meth : Method} {c : Code} {T : State} {locs : List Loc} {cells slots : Nat} {Z : State} {a0 : Array Value} {F : State → Prop} {S S' : State}
/-- from S the run comes to a state of which F holds -/
def own_G (tb : Tables) (e : Env) (below : List Frame) (F : State → Prop) (S : State) : Prop := ∃ t, Steps tb e below S t ∧ F t
theorem own_st (st : ∀ t, Steps tb e below S' t → Steps tb e below S t) (k : own_G tb e below F S') : own_G tb e below F S := by
  obtain ⟨t, h1, h2⟩ := k
  exact ⟨t, st t h1, h2⟩
theorem own_tr (st : Steps tb e below S S') (k : own_G tb e below F S') : own_G tb e below F S := by
  obtain ⟨t, h1, h2⟩ := k
  exact ⟨t, st.trans h1, h2⟩
/-- the end of a body: it has returned v, Q holds, the frame is kept -/
def own_F (s : State) (below : List Frame) (Q : Option Value → Heap → List Loc → Prop) (k n : Nat) (t : State) : Prop := ∃ o, t.status = .running ∧ Ended t below o ∧ ∃ v L, o = .returned v ∧ Q v t.heap L ∧ FrameEnd s o t L k n
/-- a contract -/
def own_Met (l : Launch) (Z : State) (y : MethodName) (bytes : ByteArray) (maxL : Nat) (ret : Option FieldType) (ws : List Cond) (rm : Room) (as : Array Value) (h : Heap) (Q : Option Value → Heap → List Loc → Prop) (k n : Nat) : Prop :=
  MetFree l y (head1 (Jvm.Cond.code y bytes maxL ret :: ws) rm) (fun a U => a = as ∧ Z.Warmed39 U.vm ∧ U.heap = h) (fun _ _ _ _ _ => True) (fun _ U o U' => ∃ v L, o = .returned v ∧ Q v U'.heap L ∧ FrameEnd U o U' L k n)
theorem own_body {y : MethodName} {bytes : ByteArray} {maxL : Nat} {ret : Option FieldType} {ws : List Jvm.Cond} {rm : Room} {as : Array Value} {h : Heap} {Q : Option Value → Heap → List Loc → Prop} {k n : Nat} {ef : MethodId → JFrame} (hp : plainFor y = true) (hef : ∀ m, entryFrame m as maxL = ef m)
    (body : ∀ (p : Program) (e : Env) (s : State) (m : MethodId) (below : List Frame) (meth : Method) (c : Code) (T0 : State), p.tables.exec = Jvm.exec → Z.Warmed39 s.vm → c.code = bytes → c.maxLocals = maxL → s.vm.findClass y.cls = some m.cls → meth.name = y.name → meth.sig.returnType = ret → meth.locks = false →
      Stand p l e rm s m as below meth c T0 [] 0 0 → T0.heap = h → own_G p.tables e below (own_F s below Q k n) (T0.setTop (ef m))) : own_Met l Z y bytes maxL ret ws rm as h Q k n := by
  refine MetFree.of_bodySF hp hisR ?_
  intro p e s m args below meth c s₁ Bd hml0 hP hK
  obtain ⟨rfl, hZ, hh⟩ := hP
  have e0 : s₁.heap = h := by rw [← hh, Bd.state]; rfl
  obtain ⟨t, h1, o, h2, h3, v, L, h4, h5, h6⟩ := body p e s m below meth c s₁ Bd.exec hZ Bd.bytes hml0 (findClass_of_methodNamed Bd.named) (name_of_methodNamed Bd.named Bd.method).1 Bd.returns Bd.notSynchronized (Stand.of_body Bd) e0
  exact ⟨t, o, castTop (hef m) h1, h2, h3, v, L, h4, h5, h6⟩
theorem own_back {y : MethodName} {bytes : ByteArray} {maxL : Nat} {ret : Option FieldType} {rm : Room} {len W : Nat} {as' : Array Value} {h : Heap} {Q : Option Value → Heap → List Loc → Prop} (hM : own_Met l Z y bytes maxL ret [] rm as' h Q rm.cells rm.slots)
    (hZ : Z.Warmed39 s.vm) (wc : (Jvm.Cond.code y bytes maxL ret).before a0 Z = true) (wz : (Jvm.Cond.initialized y.cls).before a0 Z = true) (hf : rm.frames + 1 ≤ R.frames) (hl : W + (maxL + 11) + rm.locals ≤ R.locals) :
    Back l R p e below s args y len W (fun A a => a = as' ∧ A.U.heap = h ∧ A.cells + rm.cells ≤ R.cells ∧ A.slots + rm.slots ≤ R.slots) (fun A _ v B => ∃ L, Q v B.U.heap L ∧ B.locs = A.locs ++ L ∧ B.cells = A.cells + rm.cells ∧ B.slots = A.slots + rm.slots) := backOf (Q := Q) hM hZ wc wz hf hl
theorem own_end {Q : Option Value → Heap → List Loc → Prop} {k n : Nat} {v : Option Value} (X : Stand p l e R s m args below meth c T locs cells slots) (hlk : meth.locks = false) (hv : meth.sig.returnType = none → v = none) (hQ : Q v T.heap locs) (hk : cells ≤ k) (hn : slots ≤ n)
    (h : ∀ fs, (∀ (f : JFrame) (acts : List Action), f.method = m → f.locked = none → f.entered = [] → (doReturn e (T.setTop f) acts v).1 = T.setFrames fs) → Steps p.tables e below S (T.setFrames fs)) : own_G p.tables e below (own_F s below Q k n) S := by
  obtain ⟨fs, hr, hrun, hended, hW, hsame⟩ := X.leave (v := v) hv hlk
  exact ⟨_, h fs hr, _, hrun, hended, v, locs, rfl, hQ, ⟨_, rfl⟩, hW, hsame.mono hk hn⟩
theorem own_retI {Q : Option Value → Heap → List Loc → Prop} {k n : Nat} {pc : Nat} {Ls : Array Slot} {z : Int32} {rest : List Value} (X : Stand p l e R s m args below meth c T locs cells slots) (hx : p.tables.exec = Jvm.exec) (hret : meth.sig.returnType = some .int) (hlk : meth.locks = false) (hd : decode c.code pc = .ok (.ireturn, 1)) (hQ : Q (some (.int z)) T.heap locs) (hk : cells ≤ k) (hn : slots ≤ n) :
    own_G p.tables e below (own_F s below Q k n) (T.setTop (mkF m pc Ls (.int z :: rest))) :=
  own_end X hlk (fun h => by rw [hret] at h; cases h) hQ hk hn fun fs hr => retI X hx hret hd hr
theorem own_retN {Q : Option Value → Heap → List Loc → Prop} {k n : Nat} {pc : Nat} {Ls : Array Slot} {z : Int32} {t : FieldType} {rest : List Value} (X : Stand p l e R s m args below meth c T locs cells slots) (hx : p.tables.exec = Jvm.exec) (hret : meth.sig.returnType = some t) (hlk : meth.locks = false) (ht : t = .boolean ∨ t = .byte ∨ t = .char ∨ t = .short) (hd : decode c.code pc = .ok (.ireturn, 1)) (hQ : Q (some (.int (nar t z))) T.heap locs) (hk : cells ≤ k) (hn : slots ≤ n) :
    own_G p.tables e below (own_F s below Q k n) (T.setTop (mkF m pc Ls (.int z :: rest))) :=
  own_end X hlk (fun h => by rw [hret] at h; cases h) hQ hk hn fun fs hr => retN X hx hret ht hd hr
theorem own_retA {Q : Option Value → Heap → List Loc → Prop} {k n : Nat} {pc : Nat} {Ls : Array Slot} {w : Value} {t : FieldType} {rest : List Value} (X : Stand p l e R s m args below meth c T locs cells slots) (hx : p.tables.exec = Jvm.exec) (hret : meth.sig.returnType = some t) (ht : t.isReference = true) (hw : w.isRef = true) (hlk : meth.locks = false) (hd : decode c.code pc = .ok (.areturn, 1)) (hQ : Q (some w) T.heap locs) (hk : cells ≤ k) (hn : slots ≤ n) :
    own_G p.tables e below (own_F s below Q k n) (T.setTop (mkF m pc Ls (w :: rest))) :=
  own_end X hlk (fun h => by rw [hret] at h; cases h) hQ hk hn fun fs hr => by
    jvm_step X.here [X.here.top, hx, hd, X.method', hret, hw, ht]
    first | (intro acts; rw [hr _ acts rfl rfl rfl]) | rw [hr _ _ rfl rfl rfl]
    exact Steps.refl _
theorem own_retJ {Q : Option Value → Heap → List Loc → Prop} {k n : Nat} {pc : Nat} {Ls : Array Slot} {z : Int64} {rest : List Value} (X : Stand p l e R s m args below meth c T locs cells slots) (hx : p.tables.exec = Jvm.exec) (hret : meth.sig.returnType = some .long) (hlk : meth.locks = false) (hd : decode c.code pc = .ok (.lreturn, 1)) (hQ : Q (some (.long z)) T.heap locs) (hk : cells ≤ k) (hn : slots ≤ n) :
    own_G p.tables e below (own_F s below Q k n) (T.setTop (mkF m pc Ls (.long z :: rest))) :=
  own_end X hlk (fun h => by rw [hret] at h; cases h) hQ hk hn fun fs hr => by
    jvm_step X.here [X.here.top, hx, hd, X.method', hret, narrow]
    first | (intro acts; rw [hr _ acts rfl rfl rfl]) | rw [hr _ _ rfl rfl rfl]
    exact Steps.refl _
theorem own_ret0 {Q : Option Value → Heap → List Loc → Prop} {k n : Nat} {pc : Nat} {Ls : Array Slot} (X : Stand p l e R s m args below meth c T locs cells slots) (hx : p.tables.exec = Jvm.exec) (hret : meth.sig.returnType = none) (hlk : meth.locks = false) (hd : decode c.code pc = .ok (.return_, 1)) (hQ : Q none T.heap locs) (hk : cells ≤ k) (hn : slots ≤ n) :
    own_G p.tables e below (own_F s below Q k n) (T.setTop (mkF m pc Ls [])) :=
  own_end X hlk (fun _ => rfl) hQ hk hn fun fs hr => X.returnOut hx hret hd hr
theorem own_ltN {a b : Nat} (h : @LT.lt Addr instLTNat a b) : @LT.lt Nat instLTNat a b := h
theorem own_nat {n : Nat} (hn : n < 2147483648) : (Int32.ofNat n).toInt = (n : Int) := Int32.toInt_ofNat_of_lt hn
theorem own_clamp {n : Nat} (hn : n < 2147483648) : (Int32.ofNat n).toNatClampNeg = n := by
  rw [Int32.toNatClampNeg, own_nat hn]; rfl
theorem own_lt {i n : Nat} (h : i < n) (hn : n < 2147483648) : Int32.ofNat i < Int32.ofNat n := by
  rw [Int32.lt_iff_toInt_lt, own_nat (by omega), own_nat hn]; omega
theorem own_nn {n : Nat} (hn : n < 2147483648) : ¬ Int32.ofNat n < 0 := by
  rw [Int32.lt_iff_toInt_lt, own_nat hn, show (0 : Int32).toInt = 0 from rfl]; omega
theorem own_one (i : Nat) : Int32.ofNat i + (1 : Int32) = Int32.ofNat (i + 1) := (Int32.ofNat_add i 1).symm
theorem own_in {i n : Nat} {cl : Cell} (hs : cl.slots.size = (Int32.ofNat n).toNatClampNeg) (h : i < n) (hn : n < 2147483648) : ¬ (Int32.ofNat i < 0 ∨ cl.slots.size ≤ (Int32.ofNat i).toNatClampNeg) := by
  rw [hs, own_clamp hn, own_clamp (by omega)]
  exact fun q => q.elim (own_nn (by omega)) (fun q => by omega)
/-- the list f 0, f 1, .. : i of them -/
def own_vals (f : Nat → Int32) (i : Nat) : List Value := (List.range i).map fun j => .int (f j)
theorem own_len (f : Nat → Int32) (i : Nat) : (own_vals f i).length = i := by simp [own_vals]
theorem own_next (f : Nat → Int32) (i : Nat) : own_vals f i ++ [.int (f i)] = own_vals f (i + 1) := by simp [own_vals, List.range_succ]
theorem own_at (f : Nat → Int32) {i j : Nat} (h : j < i) (d : Value) : (own_vals f i).getD j d = .int (f j) := by simp [own_vals, List.getD_eq_getElem?_getD, h]
theorem own_set (vs : List Value) (x v : Value) : (vs ++ [x]).set vs.length v = vs ++ [v] := by simp
/-- .. where a String constant may have been interned -/
def own_FW (s : State) (below : List Frame) (Q : Option Value → Heap → List Loc → Prop) (k n : Nat) (t : State) : Prop := ∃ o, t.status = .running ∧ Ended t below o ∧ ∃ v L, o = .returned v ∧ Q v t.heap L ∧ ReturnedEndW s o t L k n
def own_MetW (l : Launch) (Z : State) (y : MethodName) (bytes : ByteArray) (maxL : Nat) (ret : Option FieldType) (ws : List Cond) (rm : Room) (as : Array Value) (h : Heap) (Q : Option Value → Heap → List Loc → Prop) (k n : Nat) : Prop :=
  MetFree l y (head1 (Jvm.Cond.code y bytes maxL ret :: ws) rm) (fun a U => a = as ∧ Z.Warmed39 U.vm ∧ U.heap = h) (fun _ _ _ _ _ => True) (fun _ U o U' => ∃ v L, o = .returned v ∧ Q v U'.heap L ∧ ReturnedEndW U o U' L k n)
theorem own_bodyW {y : MethodName} {bytes : ByteArray} {maxL : Nat} {ret : Option FieldType} {ws : List Jvm.Cond} {rm : Room} {as : Array Value} {h : Heap} {Q : Option Value → Heap → List Loc → Prop} {k n : Nat} {ef : MethodId → JFrame} (hp : plainFor y = true) (hef : ∀ m, entryFrame m as maxL = ef m)
    (body : ∀ (p : Program) (e : Env) (s : State) (m : MethodId) (below : List Frame) (meth : Method) (c : Code) (T0 : State), p.tables.exec = Jvm.exec → Z.Warmed39 s.vm → c.code = bytes → c.maxLocals = maxL → s.vm.findClass y.cls = some m.cls → meth.name = y.name → meth.sig.returnType = ret → meth.locks = false →
      Stand p l e rm s m as below meth c T0 [] 0 0 → T0.heap = h → s.Since s.vm 0 → own_G p.tables e below (own_FW s below Q k n) (T0.setTop (ef m))) : own_MetW l Z y bytes maxL ret ws rm as h Q k n := by
  refine MetFree.of_bodySF hp hisR ?_
  intro p e s m args below meth c s₁ Bd hml0 hP hK
  obtain ⟨rfl, hZ, hh⟩ := hP
  have e0 : s₁.heap = h := by rw [← hh, Bd.state]; rfl
  obtain ⟨t, h1, o, h2, h3, v, L, h4, h5, h6⟩ := body p e s m below meth c s₁ Bd.exec hZ Bd.bytes hml0 (findClass_of_methodNamed Bd.named) (name_of_methodNamed Bd.named Bd.method).1 Bd.returns Bd.notSynchronized (Stand.of_body Bd) e0 ((State.WarmedH.refl s).since 0)
  exact ⟨t, o, castTop (hef m) h1, h2, h3, v, L, h4, h5, h6⟩
theorem own_backS {y : MethodName} {bytes : ByteArray} {maxL : Nat} {ret : Option FieldType} {rm : Room} {len W : Nat} {as' : Array Value} {h : Heap} {Q : Option Value → Heap → List Loc → Prop} (hM : own_MetW l Z y bytes maxL ret [] rm as' h Q rm.cells rm.slots)
    (hZ : Z.Warmed39 s.vm) (wc : (Jvm.Cond.code y bytes maxL ret).before a0 Z = true) (wz : (Jvm.Cond.initialized y.cls).before a0 Z = true) (hf : rm.frames + 1 ≤ R.frames) (hl : W + (maxL + 11) + rm.locals ≤ R.locals) :
    BackS l R p e below s args y len W (fun A a => a = as' ∧ A.U.heap = h ∧ A.cells + rm.cells ≤ R.cells ∧ A.slots + rm.slots ≤ R.slots) (fun A _ v B => ∃ L, Q v B.U.heap L ∧ B.locs = A.locs ++ L ∧ B.cells = A.cells + rm.cells ∧ B.slots = A.slots + rm.slots) := backOfS (Q := Q) hM hZ wc wz hf hl
theorem own_endW {Q : Option Value → Heap → List Loc → Prop} {k n n1 : Nat} {v : Option Value} {vm1 : Vm} (X : Stand p l e R (s.setVm vm1) m args below meth c T locs cells slots) (hS : s.Since vm1 n1) (hSn : n1 ≤ T.heap.size) (hlk : meth.locks = false) (hv : meth.sig.returnType = none → v = none) (hQ : Q v T.heap locs) (hk : cells ≤ k) (hn : slots ≤ n)
    (h : ∀ fs, (∀ (f : JFrame) (acts : List Action), f.method = m → f.locked = none → f.entered = [] → (doReturn e (T.setTop f) acts v).1 = T.setFrames fs) → Steps p.tables e below S (T.setFrames fs)) : own_G p.tables e below (own_FW s below Q k n) S := by
  obtain ⟨fs, hr, hrun, hended, hW⟩ := X.leaveW hS hSn (v := v) hv hlk
  exact ⟨_, h fs hr, _, hrun, hended, v, locs, rfl, hQ, hW.1, hW.2.1, hW.2.2.1, hW.2.2.2.mono hk hn⟩
theorem own_retIW {Q : Option Value → Heap → List Loc → Prop} {k n n1 : Nat} {pc : Nat} {Ls : Array Slot} {z : Int32} {rest : List Value} {vm1 : Vm} (X : Stand p l e R (s.setVm vm1) m args below meth c T locs cells slots) (hS : s.Since vm1 n1) (hSn : n1 ≤ T.heap.size) (hx : p.tables.exec = Jvm.exec) (hret : meth.sig.returnType = some .int) (hlk : meth.locks = false) (hd : decode c.code pc = .ok (.ireturn, 1)) (hQ : Q (some (.int z)) T.heap locs) (hk : cells ≤ k) (hn : slots ≤ n) :
    own_G p.tables e below (own_FW s below Q k n) (T.setTop (mkF m pc Ls (.int z :: rest))) :=
  own_endW X hS hSn hlk (fun h => by rw [hret] at h; cases h) hQ hk hn fun fs hr => retI X hx hret hd hr
theorem own_retNW {Q : Option Value → Heap → List Loc → Prop} {k n n1 : Nat} {pc : Nat} {Ls : Array Slot} {z : Int32} {t : FieldType} {rest : List Value} {vm1 : Vm} (X : Stand p l e R (s.setVm vm1) m args below meth c T locs cells slots) (hS : s.Since vm1 n1) (hSn : n1 ≤ T.heap.size) (hx : p.tables.exec = Jvm.exec) (hret : meth.sig.returnType = some t) (hlk : meth.locks = false) (ht : t = .boolean ∨ t = .byte ∨ t = .char ∨ t = .short) (hd : decode c.code pc = .ok (.ireturn, 1)) (hQ : Q (some (.int (nar t z))) T.heap locs) (hk : cells ≤ k) (hn : slots ≤ n) :
    own_G p.tables e below (own_FW s below Q k n) (T.setTop (mkF m pc Ls (.int z :: rest))) :=
  own_endW X hS hSn hlk (fun h => by rw [hret] at h; cases h) hQ hk hn fun fs hr => retN X hx hret ht hd hr
theorem own_retAW {Q : Option Value → Heap → List Loc → Prop} {k n n1 : Nat} {pc : Nat} {Ls : Array Slot} {w : Value} {t : FieldType} {rest : List Value} {vm1 : Vm} (X : Stand p l e R (s.setVm vm1) m args below meth c T locs cells slots) (hS : s.Since vm1 n1) (hSn : n1 ≤ T.heap.size) (hx : p.tables.exec = Jvm.exec) (hret : meth.sig.returnType = some t) (ht : t.isReference = true) (hw : w.isRef = true) (hlk : meth.locks = false) (hd : decode c.code pc = .ok (.areturn, 1)) (hQ : Q (some w) T.heap locs) (hk : cells ≤ k) (hn : slots ≤ n) :
    own_G p.tables e below (own_FW s below Q k n) (T.setTop (mkF m pc Ls (w :: rest))) :=
  own_endW X hS hSn hlk (fun h => by rw [hret] at h; cases h) hQ hk hn fun fs hr => by
    jvm_step X.here [X.here.top, hx, hd, X.method', hret, hw, ht]
    first | (intro acts; rw [hr _ acts rfl rfl rfl]) | rw [hr _ _ rfl rfl rfl]
    exact Steps.refl _
theorem own_ret0W {Q : Option Value → Heap → List Loc → Prop} {k n n1 : Nat} {pc : Nat} {Ls : Array Slot} {vm1 : Vm} (X : Stand p l e R (s.setVm vm1) m args below meth c T locs cells slots) (hS : s.Since vm1 n1) (hSn : n1 ≤ T.heap.size) (hx : p.tables.exec = Jvm.exec) (hret : meth.sig.returnType = none) (hlk : meth.locks = false) (hd : decode c.code pc = .ok (.return_, 1)) (hQ : Q none T.heap locs) (hk : cells ≤ k) (hn : slots ≤ n) :
    own_G p.tables e below (own_FW s below Q k n) (T.setTop (mkF m pc Ls [])) :=
  own_endW X hS hSn hlk (fun _ => rfl) hQ hk hn fun fs hr => X.returnOut hx hret hd hr
theorem own_eqI {args : Array Value} {first s : State} {o : Option Outcome} {idx : List Nat} {t : Term} {k : Int32} (h : (Jvm.Cond.eq t (.int k)).value args first o s idx = some true) : t.eval args first o idx s = some (.int k) := by
  obtain ⟨x, y, h1, h2, h3, -⟩ := cmp_v (Or.inl h)
  have h4 : y = .int k := (Option.some.inj (h2.symm.trans (Term.int_eval k)))
  subst h4
  cases x with
  | int x => rw [h1]; exact congrArg (fun z => some (Value.int z)) (gotT (Cond.eq_ints h1 h2) h)
  | _ => simp [Kin, Value.isRef] at h3
end OwnKit


/-- the byte that compress keeps of a char -/
def own_lo (c : Int32) : Int32 := nar .byte (c.toInt8.toInt32)
/-- a char's two bytes, as putChar lays them -/
def own_b0 (c : Int32) : Int32 := nar .byte ((c >>> ((0 : Int32) &&& 31)).toInt8.toInt32)
def own_b1 (c : Int32) : Int32 := nar .byte ((c >>> ((8 : Int32) &&& 31)).toInt8.toInt32)
def own_wide (f : Nat → Int32) (j : Nat) : Int32 := if j % 2 = 0 then own_b0 (f (j / 2)) else own_b1 (f (j / 2))
theorem own_wide0 (f : Nat → Int32) (i : Nat) : own_wide f (2 * i) = own_b0 (f i) := by
  unfold own_wide
  rw [if_pos (by omega), show 2 * i / 2 = i by omega]
theorem own_wide1 (f : Nat → Int32) (i : Nat) : own_wide f (2 * i + 1) = own_b1 (f i) := by
  unfold own_wide
  rw [if_neg (by omega), show (2 * i + 1) / 2 = i by omega]
theorem own_shl1 {i : Nat} (h : i < 1000000) : Int32.ofNat i <<< ((1 : Int32) &&& 31) = Int32.ofNat (2 * i) := by
  apply Int32.toInt_inj.mp
  have h1 := c_ishl (Int32.ofNat i) 1 1 rfl
  have h2 := rng32 (Int32.ofNat i <<< ((1 : Int32) &&& 31))
  rw [own_nat (by omega)] at h1
  rw [own_nat (by omega)]
  omega
theorem own_pair {c : Int32} (h0 : 0 ≤ c.toInt) (h1 : c.toInt < 65536) : nar .char ((((own_b0 c &&& (255 : Int32)) <<< ((0 : Int32) &&& 31)) ||| ((own_b1 c &&& (255 : Int32)) <<< ((8 : Int32) &&& 31))).toUInt32.toUInt16.toUInt32.toInt32) = c := by
  apply Int32.toInt_inj.mp
  show (Int32.toUInt32 _).toUInt16.toUInt32.toInt32.toInt = _
  have a0 := c_ishr c 0 0 rfl
  have a1 := c_ishr c 8 8 rfl
  have b0 := c_i2b (c >>> ((0 : Int32) &&& 31))
  have b1 := c_i2b (c >>> ((8 : Int32) &&& 31))
  have d0 : ((own_b0 c).toInt - _) % 256 = 0 ∧ _ := c_i2b ((c >>> ((0 : Int32) &&& 31)).toInt8.toInt32)
  have d1 : ((own_b1 c).toInt - _) % 256 = 0 ∧ _ := c_i2b ((c >>> ((8 : Int32) &&& 31)).toInt8.toInt32)
  have e0 := c_mask (own_b0 c) 255 8 (by decide) rfl
  have e1 := c_mask (own_b1 c) 255 8 (by decide) rfl
  have f0 := c_ishl (own_b0 c &&& 255) 0 0 rfl
  have f1 := c_ishl (own_b1 c &&& 255) 8 8 rfl
  have r0 := rng32 ((own_b0 c &&& (255 : Int32)) <<< ((0 : Int32) &&& 31))
  have r1 := rng32 ((own_b1 c &&& (255 : Int32)) <<< ((8 : Int32) &&& 31))
  have g := c_or' ((own_b0 c &&& (255 : Int32)) <<< ((0 : Int32) &&& 31)) ((own_b1 c &&& (255 : Int32)) <<< ((8 : Int32) &&& 31)) 8 (by decide) 256 rfl (by omega) (by omega) (by omega)
  have r2 := rng32 (((own_b0 c &&& (255 : Int32)) <<< ((0 : Int32) &&& 31)) ||| ((own_b1 c &&& (255 : Int32)) <<< ((8 : Int32) &&& 31)))
  have i0 := c_i2c (((own_b0 c &&& (255 : Int32)) <<< ((0 : Int32) &&& 31)) ||| ((own_b1 c &&& (255 : Int32)) <<< ((8 : Int32) &&& 31)))
  have i1 := c_i2c ((((own_b0 c &&& (255 : Int32)) <<< ((0 : Int32) &&& 31)) ||| ((own_b1 c &&& (255 : Int32)) <<< ((8 : Int32) &&& 31))).toUInt32.toUInt16.toUInt32.toInt32)
  omega
theorem own_get {cl : Cell} {n i : Nat} {f : Nat → Int32} {d : Value} (S : cl.slots.size = (Int32.ofNat n).toNatClampNeg) (H : Has cl (own_vals f n) d) (h : i < n) (hn : n < 2147483648) : cl.slots[(Int32.ofNat i).toNatClampNeg]? = some (.int (f i)) := by
  rw [own_clamp (by omega)]
  have q := H i (by rw [S, own_clamp hn]; exact h)
  rw [own_at f h] at q
  exact q
/-- a String's object a, its bytes at t: the chars f 0 .. f (n - 1) -/
def own_Str (Z : State) (h : Heap) (a t : Addr) (kb : ClassId) (f : Nat → Int32) (n : Nat) : Prop := Exa Z h a "java/lang/String" ∧ ∃ cd : Int32, Fld Z h a "java/lang/String" "coder" "B" (.int cd) ∧ Fld Z h a "java/lang/String" "value" "[B" (.ref t) ∧
  ((cd = 0 ∧ (∀ j, j < n → ¬ (255 : Int32) < f j) ∧ Arv Z h t kb .byte (Int32.ofNat n) (own_vals (fun j => own_lo (f j)) n) (.int (0 : Int32))) ∨ (cd = 1 ∧ Arv Z h t kb .byte (Int32.ofNat (2 * n)) (own_vals (own_wide f) (2 * n)) (.int (0 : Int32))))
/-- a Latin-1 String's object a, its bytes at t -/
def own_StrL (Z : State) (h : Heap) (a t : Addr) (kb : ClassId) (g : Nat → Int32) (n : Nat) : Prop := Exa Z h a "java/lang/String" ∧ Fld Z h a "java/lang/String" "coder" "B" (.int (0 : Int32)) ∧ Fld Z h a "java/lang/String" "value" "[B" (.ref t) ∧ Arv Z h t kb .byte (Int32.ofNat n) (own_vals g n) (.int (0 : Int32))
theorem own_StrL_ext {Z : State} {h h' : Heap} {a t : Addr} {kb : ClassId} {g : Nat → Int32} {n : Nat} (H : own_StrL Z h a t kb g n) (E : Ext h h') : own_StrL Z h' a t kb g n := ⟨H.1.ext E, H.2.1.ext E, H.2.2.1.ext E, H.2.2.2.ext E⟩
theorem own_StrL_keep {Z : State} {h h' : Heap} {a t : Addr} {kb : ClassId} {g : Nat → Int32} {n : Nat} {ws : List Addr} (H : own_StrL Z h a t kb g n) (K : Keep h h' ws) (q1 : a ∉ ws) (q2 : t ∉ ws) : own_StrL Z h' a t kb g n := ⟨H.1.keep K, H.2.1.keep K q1, H.2.2.1.keep K q1, H.2.2.2.keep K q2⟩
/-- StringUTF16's statics -/
def own_US (Z : State) : Prop := Sta Z Z.heap "java/lang/StringUTF16" "$assertionsDisabled" "Z" (.int (1 : Int32)) ∧ Sta Z Z.heap "java/lang/StringUTF16" "HI_BYTE_SHIFT" "I" (.int (0 : Int32)) ∧ Sta Z Z.heap "java/lang/StringUTF16" "LO_BYTE_SHIFT" "I" (.int (8 : Int32))

theorem own_pn0 : plainName "java/lang/StringUTF16" = true := by first | (simp [plainName, overriddenIn]; done) | decide +kernel
theorem own_d_jdk_52_m5_0 : decode jdk_52_method_5_code 0 = .ok (.getstatic 44, 3) := by decide +kernel
theorem own_d_jdk_52_m5_3 : decode jdk_52_method_5_code 3 = .ok (.ifCond .ne 25, 3) := by decide +kernel
theorem own_d_jdk_52_m5_28 : decode jdk_52_method_5_code 28 = .ok (.iload_n 1, 1) := by decide +kernel
theorem own_d_jdk_52_m5_29 : decode jdk_52_method_5_code 29 = .ok (.iconst 1, 1) := by decide +kernel
theorem own_d_jdk_52_m5_30 : decode jdk_52_method_5_code 30 = .ok (.ishl, 1) := by decide +kernel
theorem own_d_jdk_52_m5_31 : decode jdk_52_method_5_code 31 = .ok (.istore_n 1, 1) := by decide +kernel
theorem own_d_jdk_52_m5_32 : decode jdk_52_method_5_code 32 = .ok (.aload_n 0, 1) := by decide +kernel
theorem own_d_jdk_52_m5_33 : decode jdk_52_method_5_code 33 = .ok (.iload_n 1, 1) := by decide +kernel
theorem own_d_jdk_52_m5_34 : decode jdk_52_method_5_code 34 = .ok (.iinc 1 1, 3) := by decide +kernel
theorem own_d_jdk_52_m5_37 : decode jdk_52_method_5_code 37 = .ok (.baload, 1) := by decide +kernel
theorem own_d_jdk_52_m5_38 : decode jdk_52_method_5_code 38 = .ok (.sipush 255, 3) := by decide +kernel
theorem own_d_jdk_52_m5_41 : decode jdk_52_method_5_code 41 = .ok (.iand, 1) := by decide +kernel
theorem own_d_jdk_52_m5_42 : decode jdk_52_method_5_code 42 = .ok (.getstatic 59, 3) := by decide +kernel
theorem own_d_jdk_52_m5_45 : decode jdk_52_method_5_code 45 = .ok (.ishl, 1) := by decide +kernel
theorem own_d_jdk_52_m5_46 : decode jdk_52_method_5_code 46 = .ok (.aload_n 0, 1) := by decide +kernel
theorem own_d_jdk_52_m5_47 : decode jdk_52_method_5_code 47 = .ok (.iload_n 1, 1) := by decide +kernel
theorem own_d_jdk_52_m5_48 : decode jdk_52_method_5_code 48 = .ok (.baload, 1) := by decide +kernel
theorem own_d_jdk_52_m5_49 : decode jdk_52_method_5_code 49 = .ok (.sipush 255, 3) := by decide +kernel
theorem own_d_jdk_52_m5_52 : decode jdk_52_method_5_code 52 = .ok (.iand, 1) := by decide +kernel
theorem own_d_jdk_52_m5_53 : decode jdk_52_method_5_code 53 = .ok (.getstatic 63, 3) := by decide +kernel
theorem own_d_jdk_52_m5_56 : decode jdk_52_method_5_code 56 = .ok (.ishl, 1) := by decide +kernel
theorem own_d_jdk_52_m5_57 : decode jdk_52_method_5_code 57 = .ok (.ior, 1) := by decide +kernel
theorem own_d_jdk_52_m5_58 : decode jdk_52_method_5_code 58 = .ok (.i2c, 1) := by decide +kernel
theorem own_d_jdk_52_m5_59 : decode jdk_52_method_5_code 59 = .ok (.ireturn, 1) := by decide +kernel
set_option maxRecDepth 65536 in
set_option maxHeartbeats 40000000 in
theorem own_getChar (l : Launch) (Z : State) (a0 : Array Value) (hw : ∀ d ∈ tables_1, d.before a0 Z = true) (ws : List Jvm.Cond) (a1 : Addr) (i n : Nat) (f : Nat → Int32) (kb : ClassId) (h0 : Heap) (O0 : Old Z Z.heap.size h0) (hi : i < n) (hn : n ≤ 3) (hf : 0 ≤ (f i).toInt ∧ (f i).toInt < 65536) (US : own_US Z) (V1 : Arv Z h0 a1 kb .byte (Int32.ofNat (2 * n)) (own_vals (own_wide f) (2 * n)) (.int (0 : Int32))) :
    own_Met l Z (⟨"java/lang/StringUTF16", "getChar", "([BI)C"⟩ : MethodName) jdk_52_method_5_code 2 (some .char) ws ({ frames := 0, cells := 0, slots := 0, locals := 0 } : Room) #[(.ref a1), (.int (Int32.ofNat i))] h0 (fun v h L => v = some (.int (f i)) ∧ Fr Z.heap.size L ∧ h = h0) (({ frames := 0, cells := 0, slots := 0, locals := 0 } : Room)).cells (({ frames := 0, cells := 0, slots := 0, locals := 0 } : Room)).slots := by
  refine own_body (ef := fun m => mkF m 0 #[.val (.ref a1), .val (.int (Int32.ofNat i))] []) (plainFor_of_name own_pn0) (fun m => by first | rfl | (simp [entryFrame, mkF, argsToLocals, Value.category]; done)) ?_
  intro p e s m below meth c T0 hx hZ hby hml hown hnm hret hlk X0 e0
  have N0 := Fr.nil Z.heap.size
  have z0 : Z.heap.size ≤ h0.size := O0.2.1
  have Kr := Keep.refl h0 []
  show own_G _ _ _ _ (T0.setTop (mkF m 0 #[.val (.ref a1), .val (.int (Int32.ofNat i))] []))
  obtain ⟨U1, U2, U3⟩ := US
  obtain ⟨T1, X1, e1, st1⟩ := getS2 X0 hx hZ hown (host := "") (Or.inl (hw _ (List.mem_of_getElem? (i := 54) rfl))) Via.refl e0 (Sta.ext O0.2 U1) (g := (mkF m 0 #[.val (.ref a1), .val (.int (Int32.ofNat i))] [])) rfl (hb hby own_d_jdk_52_m5_0)
  refine own_st st1 ?_
  show own_G _ _ _ _ (T1.setTop (mkF m 3 #[.val (.ref a1), .val (.int (Int32.ofNat i))] [(.int (1 : Int32))]))
  refine own_st (fun _ k => XS.ifYes X1.here hx rfl (pc0 := 3) (pc' := 28) rfl (hb hby own_d_jdk_52_m5_3) rfl ((if0 _ _).trans (feq (by decide)).2) (by decide) (by decide) k) ?_
  show own_G _ _ _ _ (T1.setTop (mkF m 28 #[.val (.ref a1), .val (.int (Int32.ofNat i))] []))
  refine own_st (fun _ k => XS.iloadN X1.here hx rfl (hb hby own_d_jdk_52_m5_28) rfl k) ?_
  show own_G _ _ _ _ (T1.setTop (mkF m 29 #[.val (.ref a1), .val (.int (Int32.ofNat i))] [(.int (Int32.ofNat i))]))
  refine own_st (fun _ k => XS.iconst X1.here hx rfl (hb hby own_d_jdk_52_m5_29) k) ?_
  show own_G _ _ _ _ (T1.setTop (mkF m 30 #[.val (.ref a1), .val (.int (Int32.ofNat i))] [(.int (1 : Int32)), (.int (Int32.ofNat i))]))
  refine own_st (fun _ k => XS.ishl X1.here hx rfl (hb hby own_d_jdk_52_m5_30) rfl k) ?_
  show own_G _ _ _ _ (T1.setTop (mkF m 31 #[.val (.ref a1), .val (.int (Int32.ofNat i))] [(.int ((Int32.ofNat i) <<< ((1 : Int32) &&& 31)))]))
  rw [own_shl1 (by omega)]
  show own_G _ _ _ _ (T1.setTop (mkF m 31 #[.val (.ref a1), .val (.int (Int32.ofNat i))] [(.int (Int32.ofNat (2 * i)))]))
  refine own_st (fun _ k => XS.istoreN X1.here hx rfl (hb hby own_d_jdk_52_m5_31) rfl (l' := #[.val (.ref a1), .val (.int (Int32.ofNat (2 * i)))]) rfl k) ?_
  show own_G _ _ _ _ (T1.setTop (mkF m 32 #[.val (.ref a1), .val (.int (Int32.ofNat (2 * i)))] []))
  refine own_st (fun _ k => XS.aloadN X1.here hx rfl (hb hby own_d_jdk_52_m5_32) rfl rfl k) ?_
  show own_G _ _ _ _ (T1.setTop (mkF m 33 #[.val (.ref a1), .val (.int (Int32.ofNat (2 * i)))] [(.ref a1)]))
  refine own_st (fun _ k => XS.iloadN X1.here hx rfl (hb hby own_d_jdk_52_m5_33) rfl k) ?_
  show own_G _ _ _ _ (T1.setTop (mkF m 34 #[.val (.ref a1), .val (.int (Int32.ofNat (2 * i)))] [(.int (Int32.ofNat (2 * i))), (.ref a1)]))
  refine own_st (fun _ k => XS.iinc X1.here hx rfl (hb hby own_d_jdk_52_m5_34) rfl (l' := #[.val (.ref a1), .val (.int ((Int32.ofNat (2 * i)) + (1 : Int32)))]) rfl k) ?_
  show own_G _ _ _ _ (T1.setTop (mkF m 37 #[.val (.ref a1), .val (.int ((Int32.ofNat (2 * i)) + (1 : Int32)))] [(.int (Int32.ofNat (2 * i))), (.ref a1)]))
  obtain ⟨cl2, Ar2, qk2, Sz2, Mz2, Hz2, Uz2⟩ := id V1
  refine own_st (X1.baloadBytes hx (j := (Int32.ofNat (2 * i))) (v := (.int (own_wide f (2 * i)))) (by rw [e1]; exact Ar2.1) (State.isArrayOf_alike hZ.alike Ar2.2.1) Ar2.2.2 (own_in Sz2 (by omega) (by omega)) (own_get Sz2 Hz2 (by omega) (by omega)) (g := (mkF m 37 #[.val (.ref a1), .val (.int ((Int32.ofNat (2 * i)) + (1 : Int32)))] [(.int (Int32.ofNat (2 * i))), (.ref a1)])) rfl rfl (hb hby own_d_jdk_52_m5_37)) ?_
  show own_G _ _ _ _ (T1.setTop (mkF m 38 #[.val (.ref a1), .val (.int ((Int32.ofNat (2 * i)) + (1 : Int32)))] [(.int (own_wide f (2 * i)))]))
  rw [own_one]
  show own_G _ _ _ _ (T1.setTop (mkF m 38 #[.val (.ref a1), .val (.int (Int32.ofNat (2 * i + 1)))] [(.int (own_wide f (2 * i)))]))
  refine own_st (fun _ k => XS.sipush X1.here hx rfl (hb hby own_d_jdk_52_m5_38) k) ?_
  show own_G _ _ _ _ (T1.setTop (mkF m 41 #[.val (.ref a1), .val (.int (Int32.ofNat (2 * i + 1)))] [(.int (255 : Int32)), (.int (own_wide f (2 * i)))]))
  refine own_st (fun _ k => XS.iand X1.here hx rfl (hb hby own_d_jdk_52_m5_41) rfl k) ?_
  show own_G _ _ _ _ (T1.setTop (mkF m 42 #[.val (.ref a1), .val (.int (Int32.ofNat (2 * i + 1)))] [(.int ((own_wide f (2 * i)) &&& (255 : Int32)))]))
  obtain ⟨T3, X3, e3, st3⟩ := getS2 X1 hx hZ hown (host := "") (Or.inl (hw _ (List.mem_of_getElem? (i := 55) rfl))) Via.refl e1 (Sta.ext O0.2 U2) (g := (mkF m 42 #[.val (.ref a1), .val (.int (Int32.ofNat (2 * i + 1)))] [(.int ((own_wide f (2 * i)) &&& (255 : Int32)))])) rfl (hb hby own_d_jdk_52_m5_42)
  refine own_st st3 ?_
  show own_G _ _ _ _ (T3.setTop (mkF m 45 #[.val (.ref a1), .val (.int (Int32.ofNat (2 * i + 1)))] [(.int (0 : Int32)), (.int ((own_wide f (2 * i)) &&& (255 : Int32)))]))
  refine own_st (fun _ k => XS.ishl X3.here hx rfl (hb hby own_d_jdk_52_m5_45) rfl k) ?_
  show own_G _ _ _ _ (T3.setTop (mkF m 46 #[.val (.ref a1), .val (.int (Int32.ofNat (2 * i + 1)))] [(.int (((own_wide f (2 * i)) &&& (255 : Int32)) <<< ((0 : Int32) &&& 31)))]))
  refine own_st (fun _ k => XS.aloadN X3.here hx rfl (hb hby own_d_jdk_52_m5_46) rfl rfl k) ?_
  show own_G _ _ _ _ (T3.setTop (mkF m 47 #[.val (.ref a1), .val (.int (Int32.ofNat (2 * i + 1)))] [(.ref a1), (.int (((own_wide f (2 * i)) &&& (255 : Int32)) <<< ((0 : Int32) &&& 31)))]))
  refine own_st (fun _ k => XS.iloadN X3.here hx rfl (hb hby own_d_jdk_52_m5_47) rfl k) ?_
  show own_G _ _ _ _ (T3.setTop (mkF m 48 #[.val (.ref a1), .val (.int (Int32.ofNat (2 * i + 1)))] [(.int (Int32.ofNat (2 * i + 1))), (.ref a1), (.int (((own_wide f (2 * i)) &&& (255 : Int32)) <<< ((0 : Int32) &&& 31)))]))
  obtain ⟨cl4, Ar4, qk4, Sz4, Mz4, Hz4, Uz4⟩ := id V1
  refine own_st (X3.baloadBytes hx (j := (Int32.ofNat (2 * i + 1))) (v := (.int (own_wide f (2 * i + 1)))) (by rw [e3]; exact Ar4.1) (State.isArrayOf_alike hZ.alike Ar4.2.1) Ar4.2.2 (own_in Sz4 (by omega) (by omega)) (own_get Sz4 Hz4 (by omega) (by omega)) (g := (mkF m 48 #[.val (.ref a1), .val (.int (Int32.ofNat (2 * i + 1)))] [(.int (Int32.ofNat (2 * i + 1))), (.ref a1), (.int (((own_wide f (2 * i)) &&& (255 : Int32)) <<< ((0 : Int32) &&& 31)))])) rfl rfl (hb hby own_d_jdk_52_m5_48)) ?_
  show own_G _ _ _ _ (T3.setTop (mkF m 49 #[.val (.ref a1), .val (.int (Int32.ofNat (2 * i + 1)))] [(.int (own_wide f (2 * i + 1))), (.int (((own_wide f (2 * i)) &&& (255 : Int32)) <<< ((0 : Int32) &&& 31)))]))
  refine own_st (fun _ k => XS.sipush X3.here hx rfl (hb hby own_d_jdk_52_m5_49) k) ?_
  show own_G _ _ _ _ (T3.setTop (mkF m 52 #[.val (.ref a1), .val (.int (Int32.ofNat (2 * i + 1)))] [(.int (255 : Int32)), (.int (own_wide f (2 * i + 1))), (.int (((own_wide f (2 * i)) &&& (255 : Int32)) <<< ((0 : Int32) &&& 31)))]))
  refine own_st (fun _ k => XS.iand X3.here hx rfl (hb hby own_d_jdk_52_m5_52) rfl k) ?_
  show own_G _ _ _ _ (T3.setTop (mkF m 53 #[.val (.ref a1), .val (.int (Int32.ofNat (2 * i + 1)))] [(.int ((own_wide f (2 * i + 1)) &&& (255 : Int32))), (.int (((own_wide f (2 * i)) &&& (255 : Int32)) <<< ((0 : Int32) &&& 31)))]))
  obtain ⟨T5, X5, e5, st5⟩ := getS2 X3 hx hZ hown (host := "") (Or.inl (hw _ (List.mem_of_getElem? (i := 56) rfl))) Via.refl e3 (Sta.ext O0.2 U3) (g := (mkF m 53 #[.val (.ref a1), .val (.int (Int32.ofNat (2 * i + 1)))] [(.int ((own_wide f (2 * i + 1)) &&& (255 : Int32))), (.int (((own_wide f (2 * i)) &&& (255 : Int32)) <<< ((0 : Int32) &&& 31)))])) rfl (hb hby own_d_jdk_52_m5_53)
  refine own_st st5 ?_
  show own_G _ _ _ _ (T5.setTop (mkF m 56 #[.val (.ref a1), .val (.int (Int32.ofNat (2 * i + 1)))] [(.int (8 : Int32)), (.int ((own_wide f (2 * i + 1)) &&& (255 : Int32))), (.int (((own_wide f (2 * i)) &&& (255 : Int32)) <<< ((0 : Int32) &&& 31)))]))
  refine own_st (fun _ k => XS.ishl X5.here hx rfl (hb hby own_d_jdk_52_m5_56) rfl k) ?_
  show own_G _ _ _ _ (T5.setTop (mkF m 57 #[.val (.ref a1), .val (.int (Int32.ofNat (2 * i + 1)))] [(.int (((own_wide f (2 * i + 1)) &&& (255 : Int32)) <<< ((8 : Int32) &&& 31))), (.int (((own_wide f (2 * i)) &&& (255 : Int32)) <<< ((0 : Int32) &&& 31)))]))
  refine own_st (fun _ k => XS.ior X5.here hx rfl (hb hby own_d_jdk_52_m5_57) rfl k) ?_
  show own_G _ _ _ _ (T5.setTop (mkF m 58 #[.val (.ref a1), .val (.int (Int32.ofNat (2 * i + 1)))] [(.int ((((own_wide f (2 * i)) &&& (255 : Int32)) <<< ((0 : Int32) &&& 31)) ||| (((own_wide f (2 * i + 1)) &&& (255 : Int32)) <<< ((8 : Int32) &&& 31))))]))
  refine own_st (fun _ k => XS.i2c X5.here hx rfl (hb hby own_d_jdk_52_m5_58) rfl k) ?_
  show own_G _ _ _ _ (T5.setTop (mkF m 59 #[.val (.ref a1), .val (.int (Int32.ofNat (2 * i + 1)))] [(.int (((((own_wide f (2 * i)) &&& (255 : Int32)) <<< ((0 : Int32) &&& 31)) ||| (((own_wide f (2 * i + 1)) &&& (255 : Int32)) <<< ((8 : Int32) &&& 31))).toUInt32.toUInt16.toUInt32.toInt32))]))
  exact own_retN X5 hx hret hlk (by simp) (hb hby own_d_jdk_52_m5_59) (by rw [e5]; exact ⟨by rw [own_wide0, own_wide1, own_pair hf.1 hf.2], N0, rfl⟩) (by decide) (by decide)
theorem own_d_jdk_52_m4_0 : decode jdk_52_method_4_code 0 = .ok (.getstatic 44, 3) := by decide +kernel
theorem own_d_jdk_52_m4_3 : decode jdk_52_method_4_code 3 = .ok (.ifCond .ne 25, 3) := by decide +kernel
theorem own_d_jdk_52_m4_28 : decode jdk_52_method_4_code 28 = .ok (.iload_n 1, 1) := by decide +kernel
theorem own_d_jdk_52_m4_29 : decode jdk_52_method_4_code 29 = .ok (.iconst 1, 1) := by decide +kernel
theorem own_d_jdk_52_m4_30 : decode jdk_52_method_4_code 30 = .ok (.ishl, 1) := by decide +kernel
theorem own_d_jdk_52_m4_31 : decode jdk_52_method_4_code 31 = .ok (.istore_n 1, 1) := by decide +kernel
theorem own_d_jdk_52_m4_32 : decode jdk_52_method_4_code 32 = .ok (.aload_n 0, 1) := by decide +kernel
theorem own_d_jdk_52_m4_33 : decode jdk_52_method_4_code 33 = .ok (.iload_n 1, 1) := by decide +kernel
theorem own_d_jdk_52_m4_34 : decode jdk_52_method_4_code 34 = .ok (.iinc 1 1, 3) := by decide +kernel
theorem own_d_jdk_52_m4_37 : decode jdk_52_method_4_code 37 = .ok (.iload_n 2, 1) := by decide +kernel
theorem own_d_jdk_52_m4_38 : decode jdk_52_method_4_code 38 = .ok (.getstatic 59, 3) := by decide +kernel
theorem own_d_jdk_52_m4_41 : decode jdk_52_method_4_code 41 = .ok (.ishr, 1) := by decide +kernel
theorem own_d_jdk_52_m4_42 : decode jdk_52_method_4_code 42 = .ok (.i2b, 1) := by decide +kernel
theorem own_d_jdk_52_m4_43 : decode jdk_52_method_4_code 43 = .ok (.bastore, 1) := by decide +kernel
theorem own_d_jdk_52_m4_44 : decode jdk_52_method_4_code 44 = .ok (.aload_n 0, 1) := by decide +kernel
theorem own_d_jdk_52_m4_45 : decode jdk_52_method_4_code 45 = .ok (.iload_n 1, 1) := by decide +kernel
theorem own_d_jdk_52_m4_46 : decode jdk_52_method_4_code 46 = .ok (.iload_n 2, 1) := by decide +kernel
theorem own_d_jdk_52_m4_47 : decode jdk_52_method_4_code 47 = .ok (.getstatic 63, 3) := by decide +kernel
theorem own_d_jdk_52_m4_50 : decode jdk_52_method_4_code 50 = .ok (.ishr, 1) := by decide +kernel
theorem own_d_jdk_52_m4_51 : decode jdk_52_method_4_code 51 = .ok (.i2b, 1) := by decide +kernel
theorem own_d_jdk_52_m4_52 : decode jdk_52_method_4_code 52 = .ok (.bastore, 1) := by decide +kernel
theorem own_d_jdk_52_m4_53 : decode jdk_52_method_4_code 53 = .ok (.return_, 1) := by decide +kernel
set_option maxRecDepth 65536 in
set_option maxHeartbeats 40000000 in
theorem own_putChar (l : Launch) (Z : State) (a0 : Array Value) (hw : ∀ d ∈ tables_1, d.before a0 Z = true) (ws : List Jvm.Cond) (a1 : Addr) (i n : Nat) (f : Nat → Int32) (kb : ClassId) (h0 : Heap) (O0 : Old Z Z.heap.size h0) (hi : i < n) (hn : n ≤ 3) (g1 : Z.heap.size ≤ a1) (US : own_US Z) (V1 : Arv Z h0 a1 kb .byte (Int32.ofNat (2 * n)) (own_vals (own_wide f) (2 * i)) (.int (0 : Int32))) :
    own_Met l Z (⟨"java/lang/StringUTF16", "putChar", "([BII)V"⟩ : MethodName) jdk_52_method_4_code 3 none ws ({ frames := 0, cells := 0, slots := 0, locals := 0 } : Room) #[(.ref a1), (.int (Int32.ofNat i)), (.int (f i))] h0 (fun v h L => v = none ∧ Fr Z.heap.size L ∧ Keep h0 h [a1] ∧ Arv Z h a1 kb .byte (Int32.ofNat (2 * n)) (own_vals (own_wide f) (2 * (i + 1))) (.int (0 : Int32))) (({ frames := 0, cells := 0, slots := 0, locals := 0 } : Room)).cells (({ frames := 0, cells := 0, slots := 0, locals := 0 } : Room)).slots := by
  refine own_body (ef := fun m => mkF m 0 #[.val (.ref a1), .val (.int (Int32.ofNat i)), .val (.int (f i))] []) (plainFor_of_name own_pn0) (fun m => by first | rfl | (simp [entryFrame, mkF, argsToLocals, Value.category]; done)) ?_
  intro p e s m below meth c T0 hx hZ hby hml hown hnm hret hlk X0 e0
  have N0 := Fr.nil Z.heap.size
  have z0 : Z.heap.size ≤ h0.size := O0.2.1
  have Kr := Keep.refl h0 [a1]
  show own_G _ _ _ _ (T0.setTop (mkF m 0 #[.val (.ref a1), .val (.int (Int32.ofNat i)), .val (.int (f i))] []))
  obtain ⟨U1, U2, U3⟩ := US
  have lta := own_ltN V1.lt
  obtain ⟨T1, X1, e1, st1⟩ := getS2 X0 hx hZ hown (host := "") (Or.inl (hw _ (List.mem_of_getElem? (i := 54) rfl))) Via.refl e0 (Sta.ext O0.2 U1) (g := (mkF m 0 #[.val (.ref a1), .val (.int (Int32.ofNat i)), .val (.int (f i))] [])) rfl (hb hby own_d_jdk_52_m4_0)
  refine own_st st1 ?_
  show own_G _ _ _ _ (T1.setTop (mkF m 3 #[.val (.ref a1), .val (.int (Int32.ofNat i)), .val (.int (f i))] [(.int (1 : Int32))]))
  refine own_st (fun _ k => XS.ifYes X1.here hx rfl (pc0 := 3) (pc' := 28) rfl (hb hby own_d_jdk_52_m4_3) rfl ((if0 _ _).trans (feq (by decide)).2) (by decide) (by decide) k) ?_
  show own_G _ _ _ _ (T1.setTop (mkF m 28 #[.val (.ref a1), .val (.int (Int32.ofNat i)), .val (.int (f i))] []))
  refine own_st (fun _ k => XS.iloadN X1.here hx rfl (hb hby own_d_jdk_52_m4_28) rfl k) ?_
  show own_G _ _ _ _ (T1.setTop (mkF m 29 #[.val (.ref a1), .val (.int (Int32.ofNat i)), .val (.int (f i))] [(.int (Int32.ofNat i))]))
  refine own_st (fun _ k => XS.iconst X1.here hx rfl (hb hby own_d_jdk_52_m4_29) k) ?_
  show own_G _ _ _ _ (T1.setTop (mkF m 30 #[.val (.ref a1), .val (.int (Int32.ofNat i)), .val (.int (f i))] [(.int (1 : Int32)), (.int (Int32.ofNat i))]))
  refine own_st (fun _ k => XS.ishl X1.here hx rfl (hb hby own_d_jdk_52_m4_30) rfl k) ?_
  show own_G _ _ _ _ (T1.setTop (mkF m 31 #[.val (.ref a1), .val (.int (Int32.ofNat i)), .val (.int (f i))] [(.int ((Int32.ofNat i) <<< ((1 : Int32) &&& 31)))]))
  rw [own_shl1 (by omega)]
  show own_G _ _ _ _ (T1.setTop (mkF m 31 #[.val (.ref a1), .val (.int (Int32.ofNat i)), .val (.int (f i))] [(.int (Int32.ofNat (2 * i)))]))
  refine own_st (fun _ k => XS.istoreN X1.here hx rfl (hb hby own_d_jdk_52_m4_31) rfl (l' := #[.val (.ref a1), .val (.int (Int32.ofNat (2 * i))), .val (.int (f i))]) rfl k) ?_
  show own_G _ _ _ _ (T1.setTop (mkF m 32 #[.val (.ref a1), .val (.int (Int32.ofNat (2 * i))), .val (.int (f i))] []))
  refine own_st (fun _ k => XS.aloadN X1.here hx rfl (hb hby own_d_jdk_52_m4_32) rfl rfl k) ?_
  show own_G _ _ _ _ (T1.setTop (mkF m 33 #[.val (.ref a1), .val (.int (Int32.ofNat (2 * i))), .val (.int (f i))] [(.ref a1)]))
  refine own_st (fun _ k => XS.iloadN X1.here hx rfl (hb hby own_d_jdk_52_m4_33) rfl k) ?_
  show own_G _ _ _ _ (T1.setTop (mkF m 34 #[.val (.ref a1), .val (.int (Int32.ofNat (2 * i))), .val (.int (f i))] [(.int (Int32.ofNat (2 * i))), (.ref a1)]))
  refine own_st (fun _ k => XS.iinc X1.here hx rfl (hb hby own_d_jdk_52_m4_34) rfl (l' := #[.val (.ref a1), .val (.int ((Int32.ofNat (2 * i)) + (1 : Int32))), .val (.int (f i))]) rfl k) ?_
  show own_G _ _ _ _ (T1.setTop (mkF m 37 #[.val (.ref a1), .val (.int ((Int32.ofNat (2 * i)) + (1 : Int32))), .val (.int (f i))] [(.int (Int32.ofNat (2 * i))), (.ref a1)]))
  refine own_st (fun _ k => XS.iloadN X1.here hx rfl (hb hby own_d_jdk_52_m4_37) rfl k) ?_
  show own_G _ _ _ _ (T1.setTop (mkF m 38 #[.val (.ref a1), .val (.int ((Int32.ofNat (2 * i)) + (1 : Int32))), .val (.int (f i))] [(.int (f i)), (.int (Int32.ofNat (2 * i))), (.ref a1)]))
  obtain ⟨T2, X2, e2, st2⟩ := getS2 X1 hx hZ hown (host := "") (Or.inl (hw _ (List.mem_of_getElem? (i := 55) rfl))) Via.refl e1 (Sta.ext O0.2 U2) (g := (mkF m 38 #[.val (.ref a1), .val (.int ((Int32.ofNat (2 * i)) + (1 : Int32))), .val (.int (f i))] [(.int (f i)), (.int (Int32.ofNat (2 * i))), (.ref a1)])) rfl (hb hby own_d_jdk_52_m4_38)
  refine own_st st2 ?_
  show own_G _ _ _ _ (T2.setTop (mkF m 41 #[.val (.ref a1), .val (.int ((Int32.ofNat (2 * i)) + (1 : Int32))), .val (.int (f i))] [(.int (0 : Int32)), (.int (f i)), (.int (Int32.ofNat (2 * i))), (.ref a1)]))
  refine own_st (fun _ k => XS.ishr X2.here hx rfl (hb hby own_d_jdk_52_m4_41) rfl k) ?_
  show own_G _ _ _ _ (T2.setTop (mkF m 42 #[.val (.ref a1), .val (.int ((Int32.ofNat (2 * i)) + (1 : Int32))), .val (.int (f i))] [(.int ((f i) >>> ((0 : Int32) &&& 31))), (.int (Int32.ofNat (2 * i))), (.ref a1)]))
  refine own_st (fun _ k => XS.i2b X2.here hx rfl (hb hby own_d_jdk_52_m4_42) rfl k) ?_
  show own_G _ _ _ _ (T2.setTop (mkF m 43 #[.val (.ref a1), .val (.int ((Int32.ofNat (2 * i)) + (1 : Int32))), .val (.int (f i))] [(.int (((f i) >>> ((0 : Int32) &&& 31)).toInt8.toInt32)), (.int (Int32.ofNat (2 * i))), (.ref a1)]))
  have V3p : Arv Z h0 a1 kb .byte (Int32.ofNat (2 * n)) ((own_vals (own_wide f) (2 * i)) ++ [(.int (0 : Int32))]) (.int (0 : Int32)) := V1.pad (pad_rep (own_vals (own_wide f) (2 * i)) (.int (0 : Int32)) 1)
  obtain ⟨cl4, Ar4, qk4, Sz4, Mz4, Hz4, Uz4⟩ := id V3p
  obtain ⟨T5, h5, X5, e5, W5, st5⟩ := stB X2 hx hZ e2 Ar4 (j := (Int32.ofNat (2 * i))) (own_in Sz4 (by omega) (by omega)) (g := (mkF m 43 #[.val (.ref a1), .val (.int ((Int32.ofNat (2 * i)) + (1 : Int32))), .val (.int (f i))] [(.int (((f i) >>> ((0 : Int32) &&& 31)).toInt8.toInt32)), (.int (Int32.ofNat (2 * i))), (.ref a1)])) rfl rfl (hb hby own_d_jdk_52_m4_43)
  refine own_st st5 ?_
  have V5 := Arv.set Ar4 qk4 Sz4 Mz4 Hz4 Uz4 (fits_nar_byte _) W5 (own_vals (own_wide f) (2 * i)).length (by rw [own_clamp (by omega), own_len]) (by simp)
  have z6 : h5.size = h0.size := W5.size
  have O7 := Old.wr O0 W5 (by omega)
  have K8 : Keep h0 h5 [a1] := Kr.wr W5 (Or.inl (by simp))
  have N5 := Fr.snoc X5 N0 (by omega : Z.heap.size ≤ a1)
  have V5' : Arv Z h5 a1 kb .byte (Int32.ofNat (2 * n)) (own_vals (own_wide f) (2 * i + 1)) (.int (0 : Int32)) := by have q := V5; rw [own_set] at q; rw [← own_next, own_wide0]; exact q
  show own_G _ _ _ _ (T5.setTop (mkF m 44 #[.val (.ref a1), .val (.int ((Int32.ofNat (2 * i)) + (1 : Int32))), .val (.int (f i))] []))
  rw [own_one]
  show own_G _ _ _ _ (T5.setTop (mkF m 44 #[.val (.ref a1), .val (.int (Int32.ofNat (2 * i + 1))), .val (.int (f i))] []))
  refine own_st (fun _ k => XS.aloadN X5.here hx rfl (hb hby own_d_jdk_52_m4_44) rfl rfl k) ?_
  show own_G _ _ _ _ (T5.setTop (mkF m 45 #[.val (.ref a1), .val (.int (Int32.ofNat (2 * i + 1))), .val (.int (f i))] [(.ref a1)]))
  refine own_st (fun _ k => XS.iloadN X5.here hx rfl (hb hby own_d_jdk_52_m4_45) rfl k) ?_
  show own_G _ _ _ _ (T5.setTop (mkF m 46 #[.val (.ref a1), .val (.int (Int32.ofNat (2 * i + 1))), .val (.int (f i))] [(.int (Int32.ofNat (2 * i + 1))), (.ref a1)]))
  refine own_st (fun _ k => XS.iloadN X5.here hx rfl (hb hby own_d_jdk_52_m4_46) rfl k) ?_
  show own_G _ _ _ _ (T5.setTop (mkF m 47 #[.val (.ref a1), .val (.int (Int32.ofNat (2 * i + 1))), .val (.int (f i))] [(.int (f i)), (.int (Int32.ofNat (2 * i + 1))), (.ref a1)]))
  obtain ⟨T9, X9, e9, st9⟩ := getS2 X5 hx hZ hown (host := "") (Or.inl (hw _ (List.mem_of_getElem? (i := 56) rfl))) Via.refl e5 (Sta.ext O7.2 U3) (g := (mkF m 47 #[.val (.ref a1), .val (.int (Int32.ofNat (2 * i + 1))), .val (.int (f i))] [(.int (f i)), (.int (Int32.ofNat (2 * i + 1))), (.ref a1)])) rfl (hb hby own_d_jdk_52_m4_47)
  refine own_st st9 ?_
  show own_G _ _ _ _ (T9.setTop (mkF m 50 #[.val (.ref a1), .val (.int (Int32.ofNat (2 * i + 1))), .val (.int (f i))] [(.int (8 : Int32)), (.int (f i)), (.int (Int32.ofNat (2 * i + 1))), (.ref a1)]))
  refine own_st (fun _ k => XS.ishr X9.here hx rfl (hb hby own_d_jdk_52_m4_50) rfl k) ?_
  show own_G _ _ _ _ (T9.setTop (mkF m 51 #[.val (.ref a1), .val (.int (Int32.ofNat (2 * i + 1))), .val (.int (f i))] [(.int ((f i) >>> ((8 : Int32) &&& 31))), (.int (Int32.ofNat (2 * i + 1))), (.ref a1)]))
  refine own_st (fun _ k => XS.i2b X9.here hx rfl (hb hby own_d_jdk_52_m4_51) rfl k) ?_
  show own_G _ _ _ _ (T9.setTop (mkF m 52 #[.val (.ref a1), .val (.int (Int32.ofNat (2 * i + 1))), .val (.int (f i))] [(.int (((f i) >>> ((8 : Int32) &&& 31)).toInt8.toInt32)), (.int (Int32.ofNat (2 * i + 1))), (.ref a1)]))
  have V10p : Arv Z h5 a1 kb .byte (Int32.ofNat (2 * n)) ((own_vals (own_wide f) (2 * i + 1)) ++ [(.int (0 : Int32))]) (.int (0 : Int32)) := V5'.pad (pad_rep (own_vals (own_wide f) (2 * i + 1)) (.int (0 : Int32)) 1)
  obtain ⟨cl11, Ar11, qk11, Sz11, Mz11, Hz11, Uz11⟩ := id V10p
  obtain ⟨T12, h12, X12, e12, W12, st12⟩ := stB X9 hx hZ e9 Ar11 (j := (Int32.ofNat (2 * i + 1))) (own_in Sz11 (by omega) (by omega)) (g := (mkF m 52 #[.val (.ref a1), .val (.int (Int32.ofNat (2 * i + 1))), .val (.int (f i))] [(.int (((f i) >>> ((8 : Int32) &&& 31)).toInt8.toInt32)), (.int (Int32.ofNat (2 * i + 1))), (.ref a1)])) rfl rfl (hb hby own_d_jdk_52_m4_52)
  refine own_st st12 ?_
  have V12 := Arv.set Ar11 qk11 Sz11 Mz11 Hz11 Uz11 (fits_nar_byte _) W12 (own_vals (own_wide f) (2 * i + 1)).length (by rw [own_clamp (by omega), own_len]) (by simp)
  have z13 : h12.size = h5.size := W12.size
  have O14 := Old.wr O7 W12 (by omega)
  have K15 : Keep h0 h12 [a1] := K8.wr W12 (Or.inl (by simp))
  have N12 := Fr.snoc X12 N5 (by omega : Z.heap.size ≤ a1)
  have V12' : Arv Z h12 a1 kb .byte (Int32.ofNat (2 * n)) (own_vals (own_wide f) (2 * (i + 1))) (.int (0 : Int32)) := by have q := V12; rw [own_set] at q; rw [show 2 * (i + 1) = 2 * i + 1 + 1 by omega, ← own_next, own_wide1]; exact q
  show own_G _ _ _ _ (T12.setTop (mkF m 53 #[.val (.ref a1), .val (.int (Int32.ofNat (2 * i + 1))), .val (.int (f i))] []))
  exact own_ret0 X12 hx hret hlk (hb hby own_d_jdk_52_m4_53) (by rw [e12]; exact ⟨rfl, N12, K15, V12'⟩) (by decide) (by decide)
theorem own_d_jdk_52_m3_0 : decode jdk_52_method_3_code 0 = .ok (.iload_n 0, 1) := by decide +kernel
theorem own_d_jdk_52_m3_1 : decode jdk_52_method_3_code 1 = .ok (.ifCond .ge 11, 3) := by decide +kernel
theorem own_d_jdk_52_m3_12 : decode jdk_52_method_3_code 12 = .ok (.iload_n 0, 1) := by decide +kernel
theorem own_d_jdk_52_m3_13 : decode jdk_52_method_3_code 13 = .ok (.ldc 20, 2) := by decide +kernel
theorem own_d_jdk_52_m3_15 : decode jdk_52_method_3_code 15 = .ok (.if_icmp .lt 40, 3) := by decide +kernel
theorem own_d_jdk_52_m3_55 : decode jdk_52_method_3_code 55 = .ok (.iload_n 0, 1) := by decide +kernel
theorem own_d_jdk_52_m3_56 : decode jdk_52_method_3_code 56 = .ok (.iconst 1, 1) := by decide +kernel
theorem own_d_jdk_52_m3_57 : decode jdk_52_method_3_code 57 = .ok (.ishl, 1) := by decide +kernel
theorem own_d_jdk_52_m3_58 : decode jdk_52_method_3_code 58 = .ok (.ireturn, 1) := by decide +kernel
set_option maxRecDepth 65536 in
set_option maxHeartbeats 40000000 in
theorem own_nbl (l : Launch) (Z : State) (a0 : Array Value) (hw : ∀ d ∈ tables_1, d.before a0 Z = true) (ws : List Jvm.Cond)  (n : Nat) (h0 : Heap) (O0 : Old Z Z.heap.size h0) (hn : n ≤ 3) :
    own_Met l Z (⟨"java/lang/StringUTF16", "newBytesLength", "(I)I"⟩ : MethodName) jdk_52_method_3_code 1 (some .int) ws ({ frames := 0, cells := 0, slots := 0, locals := 0 } : Room) #[(.int (Int32.ofNat n))] h0 (fun v h L => v = some (.int (Int32.ofNat (2 * n))) ∧ Fr Z.heap.size L ∧ h = h0) (({ frames := 0, cells := 0, slots := 0, locals := 0 } : Room)).cells (({ frames := 0, cells := 0, slots := 0, locals := 0 } : Room)).slots := by
  refine own_body (ef := fun m => mkF m 0 #[.val (.int (Int32.ofNat n))] []) (plainFor_of_name own_pn0) (fun m => by first | rfl | (simp [entryFrame, mkF, argsToLocals, Value.category]; done)) ?_
  intro p e s m below meth c T0 hx hZ hby hml hown hnm hret hlk X0 e0
  have N0 := Fr.nil Z.heap.size
  have z0 : Z.heap.size ≤ h0.size := O0.2.1
  have Kr := Keep.refl h0 []
  show own_G _ _ _ _ (T0.setTop (mkF m 0 #[.val (.int (Int32.ofNat n))] []))
  refine own_st (fun _ k => XS.iloadN X0.here hx rfl (hb hby own_d_jdk_52_m3_0) rfl k) ?_
  show own_G _ _ _ _ (T0.setTop (mkF m 1 #[.val (.int (Int32.ofNat n))] [(.int (Int32.ofNat n))]))
  refine own_st (fun _ k => XS.ifYes X0.here hx rfl (pc0 := 1) (pc' := 12) rfl (hb hby own_d_jdk_52_m3_1) rfl ((if0 _ _).trans (flt (own_nn (by omega))).2.1) (by decide) (by decide) k) ?_
  show own_G _ _ _ _ (T0.setTop (mkF m 12 #[.val (.int (Int32.ofNat n))] []))
  refine own_st (fun _ k => XS.iloadN X0.here hx rfl (hb hby own_d_jdk_52_m3_12) rfl k) ?_
  show own_G _ _ _ _ (T0.setTop (mkF m 13 #[.val (.int (Int32.ofNat n))] [(.int (Int32.ofNat n))]))
  refine own_st (X0.ldcInt hx hown (mvT hZ (hw _ (List.mem_of_getElem? (i := 50) rfl))) (g := (mkF m 13 #[.val (.int (Int32.ofNat n))] [(.int (Int32.ofNat n))])) rfl (hb hby own_d_jdk_52_m3_13)) ?_
  show own_G _ _ _ _ (T0.setTop (mkF m 15 #[.val (.int (Int32.ofNat n))] [(.int (1073741823 : Int32)), (.int (Int32.ofNat n))]))
  refine own_st (fun _ k => XS.icmpYes X0.here hx rfl (pc0 := 15) (pc' := 55) rfl (hb hby own_d_jdk_52_m3_15) rfl (tlt (by show Int32.ofNat n < Int32.ofNat 1073741823; exact own_lt (by omega) (by omega))).1 (by decide) (by decide) k) ?_
  show own_G _ _ _ _ (T0.setTop (mkF m 55 #[.val (.int (Int32.ofNat n))] []))
  refine own_st (fun _ k => XS.iloadN X0.here hx rfl (hb hby own_d_jdk_52_m3_55) rfl k) ?_
  show own_G _ _ _ _ (T0.setTop (mkF m 56 #[.val (.int (Int32.ofNat n))] [(.int (Int32.ofNat n))]))
  refine own_st (fun _ k => XS.iconst X0.here hx rfl (hb hby own_d_jdk_52_m3_56) k) ?_
  show own_G _ _ _ _ (T0.setTop (mkF m 57 #[.val (.int (Int32.ofNat n))] [(.int (1 : Int32)), (.int (Int32.ofNat n))]))
  refine own_st (fun _ k => XS.ishl X0.here hx rfl (hb hby own_d_jdk_52_m3_57) rfl k) ?_
  show own_G _ _ _ _ (T0.setTop (mkF m 58 #[.val (.int (Int32.ofNat n))] [(.int ((Int32.ofNat n) <<< ((1 : Int32) &&& 31)))]))
  exact own_retI X0 hx hret hlk (hb hby own_d_jdk_52_m3_58) (by rw [e0]; exact ⟨by rw [own_shl1 (by omega)], N0, rfl⟩) (by decide) (by decide)
theorem own_d_jdk_52_m2_0 : decode jdk_52_method_2_code 0 = .ok (.iload_n 0, 1) := by decide +kernel
theorem own_d_jdk_52_m2_1 : decode jdk_52_method_2_code 1 = .ok (.invokestatic 11, 3) := by decide +kernel
theorem own_pd58 : parseMethodDescriptor "(I)I" = some ⟨[.int], some .int⟩ := by decide +kernel
theorem own_d_jdk_52_m2_4 : decode jdk_52_method_2_code 4 = .ok (.newarray .byte, 2) := by decide +kernel
theorem own_d_jdk_52_m2_6 : decode jdk_52_method_2_code 6 = .ok (.areturn, 1) := by decide +kernel
set_option maxRecDepth 65536 in
set_option maxHeartbeats 40000000 in
theorem own_nbf (l : Launch) (Z : State) (a0 : Array Value) (hw : ∀ d ∈ tables_1, d.before a0 Z = true) (ws : List Jvm.Cond)  (n : Nat) (h0 : Heap) (O0 : Old Z Z.heap.size h0) (hn : n ≤ 3) :
    own_Met l Z (⟨"java/lang/StringUTF16", "newBytesFor", "(I)[B"⟩ : MethodName) jdk_52_method_2_code 1 (some (.array .byte)) ws ({ frames := 1, cells := 1, slots := 6, locals := 12 } : Room) #[(.int (Int32.ofNat n))] h0 (fun v h L => ∃ b kb, v = some (.ref b) ∧ Fr Z.heap.size L ∧ Keep h0 h [] ∧ h0.size ≤ b ∧ b < h.size ∧ Arv Z h b kb .byte (Int32.ofNat (2 * n)) [] (.int (0 : Int32))) (({ frames := 1, cells := 1, slots := 6, locals := 12 } : Room)).cells (({ frames := 1, cells := 1, slots := 6, locals := 12 } : Room)).slots := by
  refine own_body (ef := fun m => mkF m 0 #[.val (.int (Int32.ofNat n))] []) (plainFor_of_name own_pn0) (fun m => by first | rfl | (simp [entryFrame, mkF, argsToLocals, Value.category]; done)) ?_
  intro p e s m below meth c T0 hx hZ hby hml hown hnm hret hlk X0 e0
  have N0 := Fr.nil Z.heap.size
  have z0 : Z.heap.size ≤ h0.size := O0.2.1
  have Kr := Keep.refl h0 []
  show own_G _ _ _ _ (T0.setTop (mkF m 0 #[.val (.int (Int32.ofNat n))] []))
  refine own_st (fun _ k => XS.iloadN X0.here hx rfl (hb hby own_d_jdk_52_m2_0) rfl k) ?_
  show own_G _ _ _ _ (T0.setTop (mkF m 1 #[.val (.int (Int32.ofNat n))] [(.int (Int32.ofNat n))]))
  obtain ⟨_, _, ⟨T1, L1, k1, n1⟩, -, X1, ⟨Lc1, hQ1, l1, y1, z1⟩, st1⟩ := Jvm.LawKit.callS X0 hx (y := (⟨"java/lang/StringUTF16", "newBytesLength", "(I)I"⟩ : MethodName)) hown (mvT hZ (hw _ (List.mem_of_getElem? (i := 47) rfl))) (mvT hZ (hw _ (List.mem_of_getElem? (i := 48) rfl))) (mvT hZ (hw _ (List.mem_of_getElem? (i := 35) rfl))) (mvT hZ (hw _ (List.mem_of_getElem? (i := 49) rfl))) (by decide) (own_back (rm := ({ frames := 0, cells := 0, slots := 0, locals := 0 } : Room)) (W := 0) (own_nbl l Z a0 hw [] n h0 O0 hn) hZ (hw _ (List.mem_of_getElem? (i := 49) rfl)) (hw _ (List.mem_of_getElem? (i := 35) rfl)) (by decide) (by decide)) (g := (mkF m 1 #[.val (.int (Int32.ofNat n))] [(.int (Int32.ofNat n))])) rfl (by rw [hml]; rfl) (argsL := [(.int (Int32.ofNat n))]) (rest := []) (lenOf own_pd58 rfl) rfl (by show 2 * 0 + _ ≤ _; exact Nat.le_of_eq rfl) (hb hby own_d_jdk_52_m2_1) (fun _ _ => ⟨rfl, e0, (by decide : 0 + 0 ≤ _), (by decide : 0 + 0 ≤ _)⟩)
  dsimp only [Pt.U, Pt.locs, Pt.cells, Pt.slots] at X1 l1 y1 z1 st1 hQ1
  subst l1 y1 z1
  obtain ⟨rfl, N1q, eh1⟩ := hQ1
  have N1 := Fr.app N0 N1q
  refine own_st st1 ?_
  show own_G _ _ _ _ (T1.setTop (mkF m 4 #[.val (.int (Int32.ofNat n))] [(.int (Int32.ofNat (2 * n)))]))
  obtain ⟨T2, h2, k2, X2, e2, E2, A2, st2⟩ := newP X1 hx hZ (hw _ (List.mem_of_getElem? (i := 37) rfl)) eh1 (g := (mkF m 4 #[.val (.int (Int32.ofNat n))] [(.int (Int32.ofNat (2 * n)))])) rfl (hb hby own_d_jdk_52_m2_4) rfl (own_nn (by omega)) (cap := 6) (by rw [own_clamp (by omega)]; omega) (by decide) (by decide) (by decide)
  obtain ⟨b2, g2⟩ : ∃ z, z = h0.size := ⟨_, rfl⟩
  rw [← g2] at A2 st2
  refine own_st st2 ?_
  have z3 : h0.size ≤ h2.size := E2.1
  have O4 := Old.ext O0 E2
  have K5 : Keep h0 h2 [] := Kr.ext E2
  have V2 : Arv Z h2 b2 k2 .byte (Int32.ofNat (2 * n)) [] (.int (0 : Int32)) := Arv.new A2 (own_nn (by omega))
  have lt2 := own_ltN A2.lt
  show own_G _ _ _ _ (T2.setTop (mkF m 6 #[.val (.int (Int32.ofNat n))] [(.ref b2)]))
  exact own_retA X2 hx hret rfl rfl hlk (hb hby own_d_jdk_52_m2_6) (by rw [e2]; exact ⟨b2, k2, rfl, N1, K5, by omega, by omega, V2⟩) (by decide) (by decide)
theorem own_d_jdk_52_m14_8 : decode jdk_52_method_14_code 8 = .ok (.iload 4, 2) := by decide +kernel
theorem own_d_jdk_52_m14_10 : decode jdk_52_method_14_code 10 = .ok (.iload_n 2, 1) := by decide +kernel
theorem own_d_jdk_52_m14_11 : decode jdk_52_method_14_code 11 = .ok (.if_icmp .ge 21, 3) := by decide +kernel
theorem own_d_jdk_52_m14_14 : decode jdk_52_method_14_code 14 = .ok (.aload_n 3, 1) := by decide +kernel
theorem own_d_jdk_52_m14_15 : decode jdk_52_method_14_code 15 = .ok (.iload 4, 2) := by decide +kernel
theorem own_d_jdk_52_m14_17 : decode jdk_52_method_14_code 17 = .ok (.aload_n 0, 1) := by decide +kernel
theorem own_d_jdk_52_m14_18 : decode jdk_52_method_14_code 18 = .ok (.iload_n 1, 1) := by decide +kernel
theorem own_d_jdk_52_m14_19 : decode jdk_52_method_14_code 19 = .ok (.caload, 1) := by decide +kernel
theorem own_d_jdk_52_m14_20 : decode jdk_52_method_14_code 20 = .ok (.invokestatic 111, 3) := by decide +kernel
theorem own_pd70 : parseMethodDescriptor "([BII)V" = some ⟨[(.array .byte), .int, .int], none⟩ := by decide +kernel
theorem own_d_jdk_52_m14_23 : decode jdk_52_method_14_code 23 = .ok (.iinc 1 1, 3) := by decide +kernel
theorem own_d_jdk_52_m14_26 : decode jdk_52_method_14_code 26 = .ok (.iinc 4 1, 3) := by decide +kernel
theorem own_d_jdk_52_m14_29 : decode jdk_52_method_14_code 29 = .ok (.goto (-21), 3) := by decide +kernel
set_option maxRecDepth 65536 in
set_option maxHeartbeats 40000000 in
theorem own_tb_turn {p : Program} {l : Launch} {e : Env} {s : State} {m : MethodId} {args : Array Value} {below : List Frame} {meth : Method} {c : Code} {Z : State} {a0 : Array Value} {locs : List Loc} {cells slots : Nat} {T0 : State} {h0 : Heap} {F : State → Prop} (a1 b : Addr) (i n : Nat) (f : Nat → Int32) (kb kc : ClassId) (hx : p.tables.exec = Jvm.exec) (hZ : Z.Warmed39 s.vm) (hw : ∀ d ∈ tables_1, d.before a0 Z = true) (hby : c.code = jdk_52_method_14_code) (hml : c.maxLocals = 5) (hown : s.vm.findClass "java/lang/StringUTF16" = some m.cls) (X0 : Stand p l e ({ frames := 2, cells := 1, slots := 6, locals := 24 } : Room) s m args below meth c T0 locs cells slots) (e0 : T0.heap = h0) (N0 : Fr Z.heap.size locs) (O0 : Old Z Z.heap.size h0) (hi : i < n) (hn : n ≤ 3) (gb : Z.heap.size ≤ b) (hne : a1 ≠ b) (US : own_US Z) (hc : cells + 0 ≤ ({ frames := 2, cells := 1, slots := 6, locals := 24 } : Room).cells) (hs : slots + 0 ≤ ({ frames := 2, cells := 1, slots := 6, locals := 24 } : Room).slots) (Vc : Arv Z h0 a1 kc .char (Int32.ofNat n) (own_vals f n) (.int (0 : Int32))) (Vb : Arv Z h0 b kb .byte (Int32.ofNat (2 * n)) (own_vals (own_wide f) (2 * i)) (.int (0 : Int32)))
    (k : ∀ (T' : State) (h' : Heap) (locs' : List Loc), Stand p l e ({ frames := 2, cells := 1, slots := 6, locals := 24 } : Room) s m args below meth c T' locs' cells slots → T'.heap = h' → Fr Z.heap.size locs' → Old Z Z.heap.size h' → Keep h0 h' [b] → Arv Z h' a1 kc .char (Int32.ofNat n) (own_vals f n) (.int (0 : Int32)) → Arv Z h' b kb .byte (Int32.ofNat (2 * n)) (own_vals (own_wide f) (2 * (i + 1))) (.int (0 : Int32)) → own_G p.tables e below F (T'.setTop (mkF m 8 #[.val (.ref a1), .val (.int (Int32.ofNat (i + 1))), .val (.int (Int32.ofNat n)), .val (.ref b), .val (.int (Int32.ofNat (i + 1)))] []))) :
    own_G p.tables e below F (T0.setTop (mkF m 8 #[.val (.ref a1), .val (.int (Int32.ofNat (i))), .val (.int (Int32.ofNat n)), .val (.ref b), .val (.int (Int32.ofNat (i)))] [])) := by
  have z0 : Z.heap.size ≤ h0.size := O0.2.1
  have Kr := Keep.refl h0 [b]
  show own_G _ _ _ _ (T0.setTop (mkF m 8 #[.val (.ref a1), .val (.int (Int32.ofNat (i))), .val (.int (Int32.ofNat n)), .val (.ref b), .val (.int (Int32.ofNat (i)))] []))
  have ltc := own_ltN Vc.lt
  have ltb := own_ltN Vb.lt
  refine own_st (fun _ k => XS.iload X0.here hx rfl (hb hby own_d_jdk_52_m14_8) rfl k) ?_
  show own_G _ _ _ _ (T0.setTop (mkF m 10 #[.val (.ref a1), .val (.int (Int32.ofNat (i))), .val (.int (Int32.ofNat n)), .val (.ref b), .val (.int (Int32.ofNat (i)))] [(.int (Int32.ofNat (i)))]))
  refine own_st (fun _ k => XS.iloadN X0.here hx rfl (hb hby own_d_jdk_52_m14_10) rfl k) ?_
  show own_G _ _ _ _ (T0.setTop (mkF m 11 #[.val (.ref a1), .val (.int (Int32.ofNat (i))), .val (.int (Int32.ofNat n)), .val (.ref b), .val (.int (Int32.ofNat (i)))] [(.int (Int32.ofNat n)), (.int (Int32.ofNat (i)))]))
  refine own_st (fun _ k => XS.icmpNo X0.here hx rfl (hb hby own_d_jdk_52_m14_11) rfl (tlt (own_lt hi (by omega))).2.1 k) ?_
  show own_G _ _ _ _ (T0.setTop (mkF m 14 #[.val (.ref a1), .val (.int (Int32.ofNat (i))), .val (.int (Int32.ofNat n)), .val (.ref b), .val (.int (Int32.ofNat (i)))] []))
  refine own_st (fun _ k => XS.aloadN X0.here hx rfl (hb hby own_d_jdk_52_m14_14) rfl rfl k) ?_
  show own_G _ _ _ _ (T0.setTop (mkF m 15 #[.val (.ref a1), .val (.int (Int32.ofNat (i))), .val (.int (Int32.ofNat n)), .val (.ref b), .val (.int (Int32.ofNat (i)))] [(.ref b)]))
  refine own_st (fun _ k => XS.iload X0.here hx rfl (hb hby own_d_jdk_52_m14_15) rfl k) ?_
  show own_G _ _ _ _ (T0.setTop (mkF m 17 #[.val (.ref a1), .val (.int (Int32.ofNat (i))), .val (.int (Int32.ofNat n)), .val (.ref b), .val (.int (Int32.ofNat (i)))] [(.int (Int32.ofNat (i))), (.ref b)]))
  refine own_st (fun _ k => XS.aloadN X0.here hx rfl (hb hby own_d_jdk_52_m14_17) rfl rfl k) ?_
  show own_G _ _ _ _ (T0.setTop (mkF m 18 #[.val (.ref a1), .val (.int (Int32.ofNat (i))), .val (.int (Int32.ofNat n)), .val (.ref b), .val (.int (Int32.ofNat (i)))] [(.ref a1), (.int (Int32.ofNat (i))), (.ref b)]))
  refine own_st (fun _ k => XS.iloadN X0.here hx rfl (hb hby own_d_jdk_52_m14_18) rfl k) ?_
  show own_G _ _ _ _ (T0.setTop (mkF m 19 #[.val (.ref a1), .val (.int (Int32.ofNat (i))), .val (.int (Int32.ofNat n)), .val (.ref b), .val (.int (Int32.ofNat (i)))] [(.int (Int32.ofNat (i))), (.ref a1), (.int (Int32.ofNat (i))), (.ref b)]))
  obtain ⟨cl1, Ar1, qk1, Sz1, Mz1, Hz1, Uz1⟩ := id Vc
  refine own_st (X0.caload hx (j := (Int32.ofNat (i))) (v := (.int (f i))) (by rw [e0]; exact Ar1.1) (State.isArrayOf_alike hZ.alike Ar1.2.1) Ar1.2.2 (own_in Sz1 hi (by omega)) (own_get Sz1 Hz1 hi (by omega)) (g := (mkF m 19 #[.val (.ref a1), .val (.int (Int32.ofNat (i))), .val (.int (Int32.ofNat n)), .val (.ref b), .val (.int (Int32.ofNat (i)))] [(.int (Int32.ofNat (i))), (.ref a1), (.int (Int32.ofNat (i))), (.ref b)])) rfl rfl (hb hby own_d_jdk_52_m14_19)) ?_
  show own_G _ _ _ _ (T0.setTop (mkF m 20 #[.val (.ref a1), .val (.int (Int32.ofNat (i))), .val (.int (Int32.ofNat n)), .val (.ref b), .val (.int (Int32.ofNat (i)))] [(.int (f i)), (.int (Int32.ofNat (i))), (.ref b)]))
  obtain ⟨_, _, ⟨T2, L2, k2, n2⟩, -, X2, ⟨Lc2, hQ2, l2, y2, z2⟩, st2⟩ := Jvm.LawKit.callS X0 hx (y := (⟨"java/lang/StringUTF16", "putChar", "([BII)V"⟩ : MethodName)) hown (mvT hZ (hw _ (List.mem_of_getElem? (i := 51) rfl))) (mvT hZ (hw _ (List.mem_of_getElem? (i := 52) rfl))) (mvT hZ (hw _ (List.mem_of_getElem? (i := 35) rfl))) (mvT hZ (hw _ (List.mem_of_getElem? (i := 53) rfl))) (by decide) (own_back (rm := ({ frames := 0, cells := 0, slots := 0, locals := 0 } : Room)) (W := 0) (own_putChar l Z a0 hw [] b i n f kb h0 O0 hi hn gb US Vb) hZ (hw _ (List.mem_of_getElem? (i := 53) rfl)) (hw _ (List.mem_of_getElem? (i := 35) rfl)) (by decide) (by decide)) (g := (mkF m 20 #[.val (.ref a1), .val (.int (Int32.ofNat (i))), .val (.int (Int32.ofNat n)), .val (.ref b), .val (.int (Int32.ofNat (i)))] [(.int (f i)), (.int (Int32.ofNat (i))), (.ref b)])) rfl (by rw [hml]; rfl) (argsL := [(.ref b), (.int (Int32.ofNat (i))), (.int (f i))]) (rest := []) (lenOf own_pd70 rfl) rfl (by show 2 * 0 + _ ≤ _; exact Nat.le_of_eq rfl) (hb hby own_d_jdk_52_m14_20) (fun _ _ => ⟨rfl, e0, hc, hs⟩)
  dsimp only [Pt.U, Pt.locs, Pt.cells, Pt.slots] at X2 l2 y2 z2 st2 hQ2
  subst l2 y2 z2
  obtain ⟨rfl, N2q, K2_, V2⟩ := hQ2
  have N2 := Fr.app N0 N2q
  refine own_st st2 ?_
  have z3 : h0.size ≤ T2.heap.size := K2_.1
  have O4 := Old.keep O0 K2_ (allS (by omega) all0)
  have K5 : Keep h0 T2.heap [b] := Kr.trans K2_ (allS (Or.inl (by simp)) all0)
  show own_G _ _ _ _ (T2.setTop (mkF m 23 #[.val (.ref a1), .val (.int (Int32.ofNat (i))), .val (.int (Int32.ofNat n)), .val (.ref b), .val (.int (Int32.ofNat (i)))] []))
  refine own_st (fun _ k => XS.iinc X2.here hx rfl (hb hby own_d_jdk_52_m14_23) rfl (l' := #[.val (.ref a1), .val (.int ((Int32.ofNat (i)) + (1 : Int32))), .val (.int (Int32.ofNat n)), .val (.ref b), .val (.int (Int32.ofNat (i)))]) rfl k) ?_
  show own_G _ _ _ _ (T2.setTop (mkF m 26 #[.val (.ref a1), .val (.int ((Int32.ofNat (i)) + (1 : Int32))), .val (.int (Int32.ofNat n)), .val (.ref b), .val (.int (Int32.ofNat (i)))] []))
  refine own_st (fun _ k => XS.iinc X2.here hx rfl (hb hby own_d_jdk_52_m14_26) rfl (l' := #[.val (.ref a1), .val (.int ((Int32.ofNat (i)) + (1 : Int32))), .val (.int (Int32.ofNat n)), .val (.ref b), .val (.int ((Int32.ofNat (i)) + (1 : Int32)))]) rfl k) ?_
  show own_G _ _ _ _ (T2.setTop (mkF m 29 #[.val (.ref a1), .val (.int ((Int32.ofNat (i)) + (1 : Int32))), .val (.int (Int32.ofNat n)), .val (.ref b), .val (.int ((Int32.ofNat (i)) + (1 : Int32)))] []))
  refine own_st (fun _ k => XS.goto X2.here hx rfl (pc0 := 29) (pc' := 8) rfl (hb hby own_d_jdk_52_m14_29) (by decide) (by decide) k) ?_
  show own_G _ _ _ _ (T2.setTop (mkF m 8 #[.val (.ref a1), .val (.int ((Int32.ofNat (i)) + (1 : Int32))), .val (.int (Int32.ofNat n)), .val (.ref b), .val (.int ((Int32.ofNat (i)) + (1 : Int32)))] []))
  rw [own_one]
  show own_G _ _ _ _ (T2.setTop (mkF m 8 #[.val (.ref a1), .val (.int (Int32.ofNat (i + 1))), .val (.int (Int32.ofNat n)), .val (.ref b), .val (.int (Int32.ofNat (i + 1)))] []))
  have q6 : Arv Z T2.heap a1 kc .char (Int32.ofNat n) (own_vals f n) (.int (0 : Int32)) := (Vc.keep K2_ (ninS (show @Ne Nat a1 b by omega) nin0))
  exact k _ _ _ X2 rfl N2 O4 K5 q6 V2
set_option maxRecDepth 65536 in
set_option maxHeartbeats 40000000 in
theorem own_tb_exit {p : Program} {l : Launch} {e : Env} {s : State} {m : MethodId} {args : Array Value} {below : List Frame} {meth : Method} {c : Code} {Z : State} {a0 : Array Value} {locs : List Loc} {cells slots : Nat} {T0 : State} {h0 : Heap} {F : State → Prop} (a1 b : Addr) (n : Nat) (hx : p.tables.exec = Jvm.exec) (hZ : Z.Warmed39 s.vm) (hw : ∀ d ∈ tables_1, d.before a0 Z = true) (hby : c.code = jdk_52_method_14_code) (hml : c.maxLocals = 5) (hown : s.vm.findClass "java/lang/StringUTF16" = some m.cls) (X0 : Stand p l e ({ frames := 2, cells := 1, slots := 6, locals := 24 } : Room) s m args below meth c T0 locs cells slots) (e0 : T0.heap = h0) (N0 : Fr Z.heap.size locs) (O0 : Old Z Z.heap.size h0) 
    (k : own_G p.tables e below F (T0.setTop (mkF m 32 #[.val (.ref a1), .val (.int (Int32.ofNat (n))), .val (.int (Int32.ofNat n)), .val (.ref b), .val (.int (Int32.ofNat (n)))] []))) :
    own_G p.tables e below F (T0.setTop (mkF m 8 #[.val (.ref a1), .val (.int (Int32.ofNat (n))), .val (.int (Int32.ofNat n)), .val (.ref b), .val (.int (Int32.ofNat (n)))] [])) := by
  have z0 : Z.heap.size ≤ h0.size := O0.2.1
  have Kr := Keep.refl h0 []
  show own_G _ _ _ _ (T0.setTop (mkF m 8 #[.val (.ref a1), .val (.int (Int32.ofNat (n))), .val (.int (Int32.ofNat n)), .val (.ref b), .val (.int (Int32.ofNat (n)))] []))
  refine own_st (fun _ k => XS.iload X0.here hx rfl (hb hby own_d_jdk_52_m14_8) rfl k) ?_
  show own_G _ _ _ _ (T0.setTop (mkF m 10 #[.val (.ref a1), .val (.int (Int32.ofNat (n))), .val (.int (Int32.ofNat n)), .val (.ref b), .val (.int (Int32.ofNat (n)))] [(.int (Int32.ofNat (n)))]))
  refine own_st (fun _ k => XS.iloadN X0.here hx rfl (hb hby own_d_jdk_52_m14_10) rfl k) ?_
  show own_G _ _ _ _ (T0.setTop (mkF m 11 #[.val (.ref a1), .val (.int (Int32.ofNat (n))), .val (.int (Int32.ofNat n)), .val (.ref b), .val (.int (Int32.ofNat (n)))] [(.int (Int32.ofNat n)), (.int (Int32.ofNat (n)))]))
  refine own_st (fun _ k => XS.icmpYes X0.here hx rfl (pc0 := 11) (pc' := 32) rfl (hb hby own_d_jdk_52_m14_11) rfl (flt Int32.lt_irrefl).2.1 (by decide) (by decide) k) ?_
  show own_G _ _ _ _ (T0.setTop (mkF m 32 #[.val (.ref a1), .val (.int (Int32.ofNat (n))), .val (.int (Int32.ofNat n)), .val (.ref b), .val (.int (Int32.ofNat (n)))] []))
  exact k
theorem own_tb_loop {p : Program} {l : Launch} {e : Env} {s : State} {m : MethodId} {args : Array Value} {below : List Frame} {meth : Method} {c : Code} {Z : State} {a0 : Array Value} {cells slots : Nat} {F : State → Prop} {h0 : Heap} (a1 b : Addr) (n : Nat) (f : Nat → Int32) (kb kc : ClassId) (hx : p.tables.exec = Jvm.exec) (hZ : Z.Warmed39 s.vm) (hw : ∀ d ∈ tables_1, d.before a0 Z = true) (hby : c.code = jdk_52_method_14_code) (hml : c.maxLocals = 5) (hown : s.vm.findClass "java/lang/StringUTF16" = some m.cls) (hn : n ≤ 3) (gb : Z.heap.size ≤ b) (hne : a1 ≠ b) (US : own_US Z) (hc : cells + 0 ≤ ({ frames := 2, cells := 1, slots := 6, locals := 24 } : Room).cells) (hs : slots + 0 ≤ ({ frames := 2, cells := 1, slots := 6, locals := 24 } : Room).slots)
    (k : ∀ (T' : State) (h' : Heap) (locs' : List Loc), Stand p l e ({ frames := 2, cells := 1, slots := 6, locals := 24 } : Room) s m args below meth c T' locs' cells slots → T'.heap = h' → Fr Z.heap.size locs' → Old Z Z.heap.size h' → Keep h0 h' [b] → Arv Z h' a1 kc .char (Int32.ofNat n) (own_vals f n) (.int (0 : Int32)) → Arv Z h' b kb .byte (Int32.ofNat (2 * n)) (own_vals (own_wide f) (2 * (n))) (.int (0 : Int32)) → own_G p.tables e below F (T'.setTop (mkF m 32 #[.val (.ref a1), .val (.int (Int32.ofNat (n))), .val (.int (Int32.ofNat n)), .val (.ref b), .val (.int (Int32.ofNat (n)))] []))) :
    ∀ (r i : Nat) (T' : State) (h' : Heap) (locs' : List Loc), i + r = n → Stand p l e ({ frames := 2, cells := 1, slots := 6, locals := 24 } : Room) s m args below meth c T' locs' cells slots → T'.heap = h' → Fr Z.heap.size locs' → Old Z Z.heap.size h' → Keep h0 h' [b] → Arv Z h' a1 kc .char (Int32.ofNat n) (own_vals f n) (.int (0 : Int32)) → Arv Z h' b kb .byte (Int32.ofNat (2 * n)) (own_vals (own_wide f) (2 * (i))) (.int (0 : Int32)) → own_G p.tables e below F (T'.setTop (mkF m 8 #[.val (.ref a1), .val (.int (Int32.ofNat (i))), .val (.int (Int32.ofNat n)), .val (.ref b), .val (.int (Int32.ofNat (i)))] [])) := by
  intro r
  induction r with
  | zero =>
    intro i T' h' locs' hi X e1 N O K Vc Vb
    have hi' : i = n := by omega
    subst hi'
    exact own_tb_exit a1 b i hx hZ hw hby hml hown X e1 N O (k T' h' locs' X e1 N O K Vc Vb)
  | succ r ih =>
    intro i T' h' locs' hi X e1 N O K Vc Vb
    exact own_tb_turn a1 b i n f kb kc hx hZ hw hby hml hown X e1 N O (by omega) hn gb hne US hc hs Vc Vb fun T2 h2 L2 X2 e2 N2 O2 K2 Vc2 Vb2 => ih (i + 1) T2 h2 L2 (by omega) X2 e2 N2 O2 (K.trans K2 (allS (Or.inl (by simp)) all0)) Vc2 Vb2
theorem own_d_jdk_52_m14_0 : decode jdk_52_method_14_code 0 = .ok (.iload_n 2, 1) := by decide +kernel
theorem own_d_jdk_52_m14_1 : decode jdk_52_method_14_code 1 = .ok (.invokestatic 107, 3) := by decide +kernel
theorem own_pd76 : parseMethodDescriptor "(I)[B" = some ⟨[.int], some (.array .byte)⟩ := by decide +kernel
theorem own_d_jdk_52_m14_4 : decode jdk_52_method_14_code 4 = .ok (.astore_n 3, 1) := by decide +kernel
theorem own_d_jdk_52_m14_5 : decode jdk_52_method_14_code 5 = .ok (.iconst 0, 1) := by decide +kernel
theorem own_d_jdk_52_m14_6 : decode jdk_52_method_14_code 6 = .ok (.istore 4, 2) := by decide +kernel
theorem own_d_jdk_52_m14_32 : decode jdk_52_method_14_code 32 = .ok (.aload_n 3, 1) := by decide +kernel
theorem own_d_jdk_52_m14_33 : decode jdk_52_method_14_code 33 = .ok (.areturn, 1) := by decide +kernel
set_option maxRecDepth 65536 in
set_option maxHeartbeats 40000000 in
theorem own_toBytes (l : Launch) (Z : State) (a0 : Array Value) (hw : ∀ d ∈ tables_1, d.before a0 Z = true) (ws : List Jvm.Cond) (a1 : Addr) (n : Nat) (f : Nat → Int32) (kc : ClassId) (h0 : Heap) (O0 : Old Z Z.heap.size h0) (hn : n ≤ 3) (US : own_US Z) (Vc : Arv Z h0 a1 kc .char (Int32.ofNat n) (own_vals f n) (.int (0 : Int32))) :
    own_Met l Z (⟨"java/lang/StringUTF16", "toBytes", "([CII)[B"⟩ : MethodName) jdk_52_method_14_code 5 (some (.array .byte)) ws ({ frames := 2, cells := 1, slots := 6, locals := 24 } : Room) #[(.ref a1), (.int (Int32.ofNat 0)), (.int (Int32.ofNat n))] h0 (fun v h L => ∃ b kb, v = some (.ref b) ∧ Fr Z.heap.size L ∧ Keep h0 h [] ∧ h0.size ≤ b ∧ b < h.size ∧ Arv Z h b kb .byte (Int32.ofNat (2 * n)) (own_vals (own_wide f) (2 * n)) (.int (0 : Int32))) (({ frames := 2, cells := 1, slots := 6, locals := 24 } : Room)).cells (({ frames := 2, cells := 1, slots := 6, locals := 24 } : Room)).slots := by
  refine own_body (ef := fun m => mkF m 0 #[.val (.ref a1), .val (.int (Int32.ofNat 0)), .val (.int (Int32.ofNat n)), .unset, .unset] []) (plainFor_of_name own_pn0) (fun m => by first | rfl | (simp [entryFrame, mkF, argsToLocals, Value.category]; done)) ?_
  intro p e s m below meth c T0 hx hZ hby hml hown hnm hret hlk X0 e0
  have N0 := Fr.nil Z.heap.size
  have z0 : Z.heap.size ≤ h0.size := O0.2.1
  have Kr := Keep.refl h0 []
  show own_G _ _ _ _ (T0.setTop (mkF m 0 #[.val (.ref a1), .val (.int (Int32.ofNat 0)), .val (.int (Int32.ofNat n)), .unset, .unset] []))
  have ltc := own_ltN Vc.lt
  refine own_st (fun _ k => XS.iloadN X0.here hx rfl (hb hby own_d_jdk_52_m14_0) rfl k) ?_
  show own_G _ _ _ _ (T0.setTop (mkF m 1 #[.val (.ref a1), .val (.int (Int32.ofNat 0)), .val (.int (Int32.ofNat n)), .unset, .unset] [(.int (Int32.ofNat n))]))
  obtain ⟨_, _, ⟨T1, L1, k1, n1⟩, -, X1, ⟨Lc1, hQ1, l1, y1, z1⟩, st1⟩ := Jvm.LawKit.callS X0 hx (y := (⟨"java/lang/StringUTF16", "newBytesFor", "(I)[B"⟩ : MethodName)) hown (mvT hZ (hw _ (List.mem_of_getElem? (i := 44) rfl))) (mvT hZ (hw _ (List.mem_of_getElem? (i := 45) rfl))) (mvT hZ (hw _ (List.mem_of_getElem? (i := 35) rfl))) (mvT hZ (hw _ (List.mem_of_getElem? (i := 46) rfl))) (by decide) (own_back (rm := ({ frames := 1, cells := 1, slots := 6, locals := 12 } : Room)) (W := 0) (own_nbf l Z a0 hw [] n h0 O0 hn) hZ (hw _ (List.mem_of_getElem? (i := 46) rfl)) (hw _ (List.mem_of_getElem? (i := 35) rfl)) (by decide) (by decide)) (g := (mkF m 1 #[.val (.ref a1), .val (.int (Int32.ofNat 0)), .val (.int (Int32.ofNat n)), .unset, .unset] [(.int (Int32.ofNat n))])) rfl (by rw [hml]; rfl) (argsL := [(.int (Int32.ofNat n))]) (rest := []) (lenOf own_pd76 rfl) rfl (by show 2 * 0 + _ ≤ _; exact Nat.le_of_eq rfl) (hb hby own_d_jdk_52_m14_1) (fun _ _ => ⟨rfl, e0, (by decide : 0 + 1 ≤ _), (by decide : 0 + 6 ≤ _)⟩)
  dsimp only [Pt.U, Pt.locs, Pt.cells, Pt.slots] at X1 l1 y1 z1 st1 hQ1
  subst l1 y1 z1
  obtain ⟨b, kb, rfl, N1q, K1_, gb, ltb, V1⟩ := hQ1
  have N1 := Fr.app N0 N1q
  refine own_st st1 ?_
  have z2 : h0.size ≤ T1.heap.size := K1_.1
  have O3 := Old.keep O0 K1_ all0
  have K4 : Keep h0 T1.heap [] := Kr.trans K1_ all0
  show own_G _ _ _ _ (T1.setTop (mkF m 4 #[.val (.ref a1), .val (.int (Int32.ofNat 0)), .val (.int (Int32.ofNat n)), .unset, .unset] [(.ref b)]))
  refine own_st (fun _ k => XS.astoreN X1.here hx rfl (hb hby own_d_jdk_52_m14_4) rfl rfl (l' := #[.val (.ref a1), .val (.int (Int32.ofNat 0)), .val (.int (Int32.ofNat n)), .val (.ref b), .unset]) rfl k) ?_
  show own_G _ _ _ _ (T1.setTop (mkF m 5 #[.val (.ref a1), .val (.int (Int32.ofNat 0)), .val (.int (Int32.ofNat n)), .val (.ref b), .unset] []))
  refine own_st (fun _ k => XS.iconst X1.here hx rfl (hb hby own_d_jdk_52_m14_5) k) ?_
  show own_G _ _ _ _ (T1.setTop (mkF m 6 #[.val (.ref a1), .val (.int (Int32.ofNat 0)), .val (.int (Int32.ofNat n)), .val (.ref b), .unset] [(.int (0 : Int32))]))
  refine own_st (fun _ k => XS.istore X1.here hx rfl (hb hby own_d_jdk_52_m14_6) rfl (l' := #[.val (.ref a1), .val (.int (Int32.ofNat 0)), .val (.int (Int32.ofNat n)), .val (.ref b), .val (.int (0 : Int32))]) rfl k) ?_
  show own_G _ _ _ _ (T1.setTop (mkF m 8 #[.val (.ref a1), .val (.int (Int32.ofNat 0)), .val (.int (Int32.ofNat n)), .val (.ref b), .val (.int (0 : Int32))] []))
  have q5 : Arv Z T1.heap a1 kc .char (Int32.ofNat n) (own_vals f n) (.int (0 : Int32)) := (Vc.keep K1_ nin0)
  refine own_tb_loop a1 b n f kb kc hx hZ hw hby hml hown hn (by omega) (show @Ne Nat a1 b by omega) US (by decide) (by decide) ?_ n 0 _ _ _ (by omega) X1 rfl N1 O3 (Keep.refl _ _) q5 V1
  intro T' h' locs' X' e' N' O' K' Vc' Vb'
  have z6 : T1.heap.size ≤ h'.size := K'.1
  have O7 := Old.keep O3 K' (allS (by omega) all0)
  have K8 : Keep h0 h' [] := K4.trans K' (allS (Or.inr (by omega)) all0)
  show own_G _ _ _ _ (T'.setTop (mkF m 32 #[.val (.ref a1), .val (.int (Int32.ofNat (n))), .val (.int (Int32.ofNat n)), .val (.ref b), .val (.int (Int32.ofNat (n)))] []))
  refine own_st (fun _ k => XS.aloadN X'.here hx rfl (hb hby own_d_jdk_52_m14_32) rfl rfl k) ?_
  show own_G _ _ _ _ (T'.setTop (mkF m 33 #[.val (.ref a1), .val (.int (Int32.ofNat (n))), .val (.int (Int32.ofNat n)), .val (.ref b), .val (.int (Int32.ofNat (n)))] [(.ref b)]))
  exact own_retA X' hx hret rfl rfl hlk (hb hby own_d_jdk_52_m14_33) (by rw [e']; exact ⟨b, kb, rfl, N', K8, gb, Vb'.lt, Vb'⟩) (by decide) (by decide)
def own_QC (Z : State) (hs : Heap) (b : Addr) (kb : ClassId) (f : Nat → Int32) (n : Nat) : Option Value → Heap → List Loc → Prop := fun v h L => ∃ r : Nat, v = some (.int (Int32.ofNat r)) ∧ Fr Z.heap.size L ∧ Keep hs h [b] ∧ ((r = n ∧ (∀ j, j < n → ¬ (255 : Int32) < f j) ∧ Arv Z h b kb .byte (Int32.ofNat n) (own_vals (fun j => own_lo (f j)) n) (.int (0 : Int32))) ∨ (r < n ∧ (255 : Int32) < f r))
theorem own_d_jdk_52_m21_3 : decode jdk_52_method_21_code 3 = .ok (.iload 5, 2) := by decide +kernel
theorem own_d_jdk_52_m21_5 : decode jdk_52_method_21_code 5 = .ok (.iload 4, 2) := by decide +kernel
theorem own_d_jdk_52_m21_7 : decode jdk_52_method_21_code 7 = .ok (.if_icmp .ge 37, 3) := by decide +kernel
theorem own_d_jdk_52_m21_10 : decode jdk_52_method_21_code 10 = .ok (.aload_n 0, 1) := by decide +kernel
theorem own_d_jdk_52_m21_11 : decode jdk_52_method_21_code 11 = .ok (.iload_n 1, 1) := by decide +kernel
theorem own_d_jdk_52_m21_12 : decode jdk_52_method_21_code 12 = .ok (.caload, 1) := by decide +kernel
theorem own_d_jdk_52_m21_13 : decode jdk_52_method_21_code 13 = .ok (.istore 6, 2) := by decide +kernel
theorem own_d_jdk_52_m21_15 : decode jdk_52_method_21_code 15 = .ok (.iload 6, 2) := by decide +kernel
theorem own_d_jdk_52_m21_17 : decode jdk_52_method_21_code 17 = .ok (.sipush 255, 3) := by decide +kernel
theorem own_d_jdk_52_m21_20 : decode jdk_52_method_21_code 20 = .ok (.if_icmp .le 6, 3) := by decide +kernel
theorem own_d_jdk_52_m21_23 : decode jdk_52_method_21_code 23 = .ok (.iload 5, 2) := by decide +kernel
theorem own_d_jdk_52_m21_25 : decode jdk_52_method_21_code 25 = .ok (.ireturn, 1) := by decide +kernel
theorem own_d_jdk_52_m21_26 : decode jdk_52_method_21_code 26 = .ok (.aload_n 2, 1) := by decide +kernel
theorem own_d_jdk_52_m21_27 : decode jdk_52_method_21_code 27 = .ok (.iload_n 3, 1) := by decide +kernel
theorem own_d_jdk_52_m21_28 : decode jdk_52_method_21_code 28 = .ok (.iload 6, 2) := by decide +kernel
theorem own_d_jdk_52_m21_30 : decode jdk_52_method_21_code 30 = .ok (.i2b, 1) := by decide +kernel
theorem own_d_jdk_52_m21_31 : decode jdk_52_method_21_code 31 = .ok (.bastore, 1) := by decide +kernel
theorem own_d_jdk_52_m21_32 : decode jdk_52_method_21_code 32 = .ok (.iinc 1 1, 3) := by decide +kernel
theorem own_d_jdk_52_m21_35 : decode jdk_52_method_21_code 35 = .ok (.iinc 3 1, 3) := by decide +kernel
theorem own_d_jdk_52_m21_38 : decode jdk_52_method_21_code 38 = .ok (.iinc 5 1, 3) := by decide +kernel
theorem own_d_jdk_52_m21_41 : decode jdk_52_method_21_code 41 = .ok (.goto (-38), 3) := by decide +kernel
set_option maxRecDepth 65536 in
set_option maxHeartbeats 40000000 in
theorem own_c5_turn {p : Program} {l : Launch} {e : Env} {s : State} {m : MethodId} {args : Array Value} {below : List Frame} {meth : Method} {c : Code} {Z : State} {a0 : Array Value} {locs : List Loc} {cells slots : Nat} {T0 : State} {h0 : Heap}  {hs : Heap} (a1 b : Addr) (i n : Nat) (f : Nat → Int32) (kb kc : ClassId) (s6 : Slot) (hx : p.tables.exec = Jvm.exec) (hZ : Z.Warmed39 s.vm) (hw : ∀ d ∈ tables_1, d.before a0 Z = true) (hby : c.code = jdk_52_method_21_code) (hml : c.maxLocals = 7) (hown : s.vm.findClass "java/lang/StringUTF16" = some m.cls) (X0 : Stand p l e ({ frames := 0, cells := 0, slots := 0, locals := 0 } : Room) s m args below meth c T0 locs cells slots) (e0 : T0.heap = h0) (N0 : Fr Z.heap.size locs) (O0 : Old Z Z.heap.size h0) (hret : meth.sig.returnType = some .int) (hlk : meth.locks = false) (hcs : cells ≤ 0) (hss : slots ≤ 0) (hs6 : One s6) (hi : i < n) (hn : n ≤ 3) (gb : Z.heap.size ≤ b) (hne : a1 ≠ b) (Ks : Keep hs h0 [b]) (hall : ∀ j, j < i → ¬ (255 : Int32) < f j) (Vc : Arv Z h0 a1 kc .char (Int32.ofNat n) (own_vals f n) (.int (0 : Int32))) (Vb : Arv Z h0 b kb .byte (Int32.ofNat n) (own_vals (fun j => own_lo (f j)) i) (.int (0 : Int32)))
    (k : ∀ (s6 : Slot) (T' : State) (h' : Heap) (locs' : List Loc), Stand p l e ({ frames := 0, cells := 0, slots := 0, locals := 0 } : Room) s m args below meth c T' locs' cells slots → T'.heap = h' → Fr Z.heap.size locs' → Old Z Z.heap.size h' → One s6 → Keep hs h' [b] → (∀ j, j < i + 1 → ¬ (255 : Int32) < f j) → Arv Z h' a1 kc .char (Int32.ofNat n) (own_vals f n) (.int (0 : Int32)) → Arv Z h' b kb .byte (Int32.ofNat n) (own_vals (fun j => own_lo (f j)) (i + 1)) (.int (0 : Int32)) → own_G p.tables e below (own_F s below (own_QC Z hs b kb f n) 0 0) (T'.setTop (mkF m 3 #[.val (.ref a1), .val (.int (Int32.ofNat (i + 1))), .val (.ref b), .val (.int (Int32.ofNat (i + 1))), .val (.int (Int32.ofNat n)), .val (.int (Int32.ofNat (i + 1))), s6] []))) :
    own_G p.tables e below (own_F s below (own_QC Z hs b kb f n) 0 0) (T0.setTop (mkF m 3 #[.val (.ref a1), .val (.int (Int32.ofNat (i))), .val (.ref b), .val (.int (Int32.ofNat (i))), .val (.int (Int32.ofNat n)), .val (.int (Int32.ofNat (i))), s6] [])) := by
  have z0 : Z.heap.size ≤ h0.size := O0.2.1
  have Kr := Keep.refl h0 [b]
  show own_G _ _ _ _ (T0.setTop (mkF m 3 #[.val (.ref a1), .val (.int (Int32.ofNat (i))), .val (.ref b), .val (.int (Int32.ofNat (i))), .val (.int (Int32.ofNat n)), .val (.int (Int32.ofNat (i))), s6] []))
  have ltc := own_ltN Vc.lt
  have ltb := own_ltN Vb.lt
  refine own_st (fun _ k => XS.iload X0.here hx rfl (hb hby own_d_jdk_52_m21_3) rfl k) ?_
  show own_G _ _ _ _ (T0.setTop (mkF m 5 #[.val (.ref a1), .val (.int (Int32.ofNat (i))), .val (.ref b), .val (.int (Int32.ofNat (i))), .val (.int (Int32.ofNat n)), .val (.int (Int32.ofNat (i))), s6] [(.int (Int32.ofNat (i)))]))
  refine own_st (fun _ k => XS.iload X0.here hx rfl (hb hby own_d_jdk_52_m21_5) rfl k) ?_
  show own_G _ _ _ _ (T0.setTop (mkF m 7 #[.val (.ref a1), .val (.int (Int32.ofNat (i))), .val (.ref b), .val (.int (Int32.ofNat (i))), .val (.int (Int32.ofNat n)), .val (.int (Int32.ofNat (i))), s6] [(.int (Int32.ofNat n)), (.int (Int32.ofNat (i)))]))
  refine own_st (fun _ k => XS.icmpNo X0.here hx rfl (hb hby own_d_jdk_52_m21_7) rfl (tlt (own_lt hi (by omega))).2.1 k) ?_
  show own_G _ _ _ _ (T0.setTop (mkF m 10 #[.val (.ref a1), .val (.int (Int32.ofNat (i))), .val (.ref b), .val (.int (Int32.ofNat (i))), .val (.int (Int32.ofNat n)), .val (.int (Int32.ofNat (i))), s6] []))
  refine own_st (fun _ k => XS.aloadN X0.here hx rfl (hb hby own_d_jdk_52_m21_10) rfl rfl k) ?_
  show own_G _ _ _ _ (T0.setTop (mkF m 11 #[.val (.ref a1), .val (.int (Int32.ofNat (i))), .val (.ref b), .val (.int (Int32.ofNat (i))), .val (.int (Int32.ofNat n)), .val (.int (Int32.ofNat (i))), s6] [(.ref a1)]))
  refine own_st (fun _ k => XS.iloadN X0.here hx rfl (hb hby own_d_jdk_52_m21_11) rfl k) ?_
  show own_G _ _ _ _ (T0.setTop (mkF m 12 #[.val (.ref a1), .val (.int (Int32.ofNat (i))), .val (.ref b), .val (.int (Int32.ofNat (i))), .val (.int (Int32.ofNat n)), .val (.int (Int32.ofNat (i))), s6] [(.int (Int32.ofNat (i))), (.ref a1)]))
  obtain ⟨cl1, Ar1, qk1, Sz1, Mz1, Hz1, Uz1⟩ := id Vc
  refine own_st (X0.caload hx (j := (Int32.ofNat (i))) (v := (.int (f i))) (by rw [e0]; exact Ar1.1) (State.isArrayOf_alike hZ.alike Ar1.2.1) Ar1.2.2 (own_in Sz1 hi (by omega)) (own_get Sz1 Hz1 hi (by omega)) (g := (mkF m 12 #[.val (.ref a1), .val (.int (Int32.ofNat (i))), .val (.ref b), .val (.int (Int32.ofNat (i))), .val (.int (Int32.ofNat n)), .val (.int (Int32.ofNat (i))), s6] [(.int (Int32.ofNat (i))), (.ref a1)])) rfl rfl (hb hby own_d_jdk_52_m21_12)) ?_
  show own_G _ _ _ _ (T0.setTop (mkF m 13 #[.val (.ref a1), .val (.int (Int32.ofNat (i))), .val (.ref b), .val (.int (Int32.ofNat (i))), .val (.int (Int32.ofNat n)), .val (.int (Int32.ofNat (i))), s6] [(.int (f i))]))
  refine own_st (fun _ k => XS.istoreS X0.here hx rfl (hb hby own_d_jdk_52_m21_13) rfl rfl hs6 k) ?_
  show own_G _ _ _ _ (T0.setTop (mkF m 15 #[.val (.ref a1), .val (.int (Int32.ofNat (i))), .val (.ref b), .val (.int (Int32.ofNat (i))), .val (.int (Int32.ofNat n)), .val (.int (Int32.ofNat (i))), .val (.int (f i))] []))
  refine own_st (fun _ k => XS.iload X0.here hx rfl (hb hby own_d_jdk_52_m21_15) rfl k) ?_
  show own_G _ _ _ _ (T0.setTop (mkF m 17 #[.val (.ref a1), .val (.int (Int32.ofNat (i))), .val (.ref b), .val (.int (Int32.ofNat (i))), .val (.int (Int32.ofNat n)), .val (.int (Int32.ofNat (i))), .val (.int (f i))] [(.int (f i))]))
  refine own_st (fun _ k => XS.sipush X0.here hx rfl (hb hby own_d_jdk_52_m21_17) k) ?_
  show own_G _ _ _ _ (T0.setTop (mkF m 20 #[.val (.ref a1), .val (.int (Int32.ofNat (i))), .val (.ref b), .val (.int (Int32.ofNat (i))), .val (.int (Int32.ofNat n)), .val (.int (Int32.ofNat (i))), .val (.int (f i))] [(.int (255 : Int32)), (.int (f i))]))
  by_cases hbig : (255 : Int32) < (f i)
  · show own_G _ _ _ _ (T0.setTop (mkF m 20 #[.val (.ref a1), .val (.int (Int32.ofNat (i))), .val (.ref b), .val (.int (Int32.ofNat (i))), .val (.int (Int32.ofNat n)), .val (.int (Int32.ofNat (i))), .val (.int (f i))] [(.int (255 : Int32)), (.int (f i))]))
    refine own_st (fun _ k => XS.icmpNo X0.here hx rfl (hb hby own_d_jdk_52_m21_20) rfl (tlt hbig).2.2.2 k) ?_
    show own_G _ _ _ _ (T0.setTop (mkF m 23 #[.val (.ref a1), .val (.int (Int32.ofNat (i))), .val (.ref b), .val (.int (Int32.ofNat (i))), .val (.int (Int32.ofNat n)), .val (.int (Int32.ofNat (i))), .val (.int (f i))] []))
    refine own_st (fun _ k => XS.iload X0.here hx rfl (hb hby own_d_jdk_52_m21_23) rfl k) ?_
    show own_G _ _ _ _ (T0.setTop (mkF m 25 #[.val (.ref a1), .val (.int (Int32.ofNat (i))), .val (.ref b), .val (.int (Int32.ofNat (i))), .val (.int (Int32.ofNat n)), .val (.int (Int32.ofNat (i))), .val (.int (f i))] [(.int (Int32.ofNat (i)))]))
    exact own_retI X0 hx hret hlk (hb hby own_d_jdk_52_m21_25) (by rw [e0]; exact ⟨i, rfl, N0, Ks, Or.inr ⟨hi, hbig⟩⟩) hcs hss
  · show own_G _ _ _ _ (T0.setTop (mkF m 20 #[.val (.ref a1), .val (.int (Int32.ofNat (i))), .val (.ref b), .val (.int (Int32.ofNat (i))), .val (.int (Int32.ofNat n)), .val (.int (Int32.ofNat (i))), .val (.int (f i))] [(.int (255 : Int32)), (.int (f i))]))
    refine own_st (fun _ k => XS.icmpYes X0.here hx rfl (pc0 := 20) (pc' := 26) rfl (hb hby own_d_jdk_52_m21_20) rfl (flt hbig).2.2.2 (by decide) (by decide) k) ?_
    show own_G _ _ _ _ (T0.setTop (mkF m 26 #[.val (.ref a1), .val (.int (Int32.ofNat (i))), .val (.ref b), .val (.int (Int32.ofNat (i))), .val (.int (Int32.ofNat n)), .val (.int (Int32.ofNat (i))), .val (.int (f i))] []))
    refine own_st (fun _ k => XS.aloadN X0.here hx rfl (hb hby own_d_jdk_52_m21_26) rfl rfl k) ?_
    show own_G _ _ _ _ (T0.setTop (mkF m 27 #[.val (.ref a1), .val (.int (Int32.ofNat (i))), .val (.ref b), .val (.int (Int32.ofNat (i))), .val (.int (Int32.ofNat n)), .val (.int (Int32.ofNat (i))), .val (.int (f i))] [(.ref b)]))
    refine own_st (fun _ k => XS.iloadN X0.here hx rfl (hb hby own_d_jdk_52_m21_27) rfl k) ?_
    show own_G _ _ _ _ (T0.setTop (mkF m 28 #[.val (.ref a1), .val (.int (Int32.ofNat (i))), .val (.ref b), .val (.int (Int32.ofNat (i))), .val (.int (Int32.ofNat n)), .val (.int (Int32.ofNat (i))), .val (.int (f i))] [(.int (Int32.ofNat (i))), (.ref b)]))
    refine own_st (fun _ k => XS.iload X0.here hx rfl (hb hby own_d_jdk_52_m21_28) rfl k) ?_
    show own_G _ _ _ _ (T0.setTop (mkF m 30 #[.val (.ref a1), .val (.int (Int32.ofNat (i))), .val (.ref b), .val (.int (Int32.ofNat (i))), .val (.int (Int32.ofNat n)), .val (.int (Int32.ofNat (i))), .val (.int (f i))] [(.int (f i)), (.int (Int32.ofNat (i))), (.ref b)]))
    refine own_st (fun _ k => XS.i2b X0.here hx rfl (hb hby own_d_jdk_52_m21_30) rfl k) ?_
    show own_G _ _ _ _ (T0.setTop (mkF m 31 #[.val (.ref a1), .val (.int (Int32.ofNat (i))), .val (.ref b), .val (.int (Int32.ofNat (i))), .val (.int (Int32.ofNat n)), .val (.int (Int32.ofNat (i))), .val (.int (f i))] [(.int ((f i).toInt8.toInt32)), (.int (Int32.ofNat (i))), (.ref b)]))
    have V2p : Arv Z h0 b kb .byte (Int32.ofNat n) ((own_vals (fun j => own_lo (f j)) i) ++ [(.int (0 : Int32))]) (.int (0 : Int32)) := Vb.pad (pad_rep (own_vals (fun j => own_lo (f j)) i) (.int (0 : Int32)) 1)
    obtain ⟨cl3, Ar3, qk3, Sz3, Mz3, Hz3, Uz3⟩ := id V2p
    obtain ⟨T4, h4, X4, e4, W4, st4⟩ := stB X0 hx hZ e0 Ar3 (j := (Int32.ofNat (i))) (own_in Sz3 hi (by omega)) (g := (mkF m 31 #[.val (.ref a1), .val (.int (Int32.ofNat (i))), .val (.ref b), .val (.int (Int32.ofNat (i))), .val (.int (Int32.ofNat n)), .val (.int (Int32.ofNat (i))), .val (.int (f i))] [(.int ((f i).toInt8.toInt32)), (.int (Int32.ofNat (i))), (.ref b)])) rfl rfl (hb hby own_d_jdk_52_m21_31)
    refine own_st st4 ?_
    have V4 := Arv.set Ar3 qk3 Sz3 Mz3 Hz3 Uz3 (fits_nar_byte _) W4 (own_vals (fun j => own_lo (f j)) i).length (by rw [own_clamp (by omega), own_len]) (by simp)
    have z5 : h4.size = h0.size := W4.size
    have O6 := Old.wr O0 W4 (by omega)
    have K7 : Keep h0 h4 [b] := Kr.wr W4 (Or.inl (by simp))
    have N4 := Fr.snoc X4 N0 (by omega : Z.heap.size ≤ b)
    have V4' : Arv Z h4 b kb .byte (Int32.ofNat n) (own_vals (fun j => own_lo (f j)) (i + 1)) (.int (0 : Int32)) := by have q := V4; rw [own_set] at q; rw [← own_next]; exact q
    show own_G _ _ _ _ (T4.setTop (mkF m 32 #[.val (.ref a1), .val (.int (Int32.ofNat (i))), .val (.ref b), .val (.int (Int32.ofNat (i))), .val (.int (Int32.ofNat n)), .val (.int (Int32.ofNat (i))), .val (.int (f i))] []))
    refine own_st (fun _ k => XS.iinc X4.here hx rfl (hb hby own_d_jdk_52_m21_32) rfl (l' := #[.val (.ref a1), .val (.int ((Int32.ofNat (i)) + (1 : Int32))), .val (.ref b), .val (.int (Int32.ofNat (i))), .val (.int (Int32.ofNat n)), .val (.int (Int32.ofNat (i))), .val (.int (f i))]) rfl k) ?_
    show own_G _ _ _ _ (T4.setTop (mkF m 35 #[.val (.ref a1), .val (.int ((Int32.ofNat (i)) + (1 : Int32))), .val (.ref b), .val (.int (Int32.ofNat (i))), .val (.int (Int32.ofNat n)), .val (.int (Int32.ofNat (i))), .val (.int (f i))] []))
    refine own_st (fun _ k => XS.iinc X4.here hx rfl (hb hby own_d_jdk_52_m21_35) rfl (l' := #[.val (.ref a1), .val (.int ((Int32.ofNat (i)) + (1 : Int32))), .val (.ref b), .val (.int ((Int32.ofNat (i)) + (1 : Int32))), .val (.int (Int32.ofNat n)), .val (.int (Int32.ofNat (i))), .val (.int (f i))]) rfl k) ?_
    show own_G _ _ _ _ (T4.setTop (mkF m 38 #[.val (.ref a1), .val (.int ((Int32.ofNat (i)) + (1 : Int32))), .val (.ref b), .val (.int ((Int32.ofNat (i)) + (1 : Int32))), .val (.int (Int32.ofNat n)), .val (.int (Int32.ofNat (i))), .val (.int (f i))] []))
    refine own_st (fun _ k => XS.iinc X4.here hx rfl (hb hby own_d_jdk_52_m21_38) rfl (l' := #[.val (.ref a1), .val (.int ((Int32.ofNat (i)) + (1 : Int32))), .val (.ref b), .val (.int ((Int32.ofNat (i)) + (1 : Int32))), .val (.int (Int32.ofNat n)), .val (.int ((Int32.ofNat (i)) + (1 : Int32))), .val (.int (f i))]) rfl k) ?_
    show own_G _ _ _ _ (T4.setTop (mkF m 41 #[.val (.ref a1), .val (.int ((Int32.ofNat (i)) + (1 : Int32))), .val (.ref b), .val (.int ((Int32.ofNat (i)) + (1 : Int32))), .val (.int (Int32.ofNat n)), .val (.int ((Int32.ofNat (i)) + (1 : Int32))), .val (.int (f i))] []))
    refine own_st (fun _ k => XS.goto X4.here hx rfl (pc0 := 41) (pc' := 3) rfl (hb hby own_d_jdk_52_m21_41) (by decide) (by decide) k) ?_
    show own_G _ _ _ _ (T4.setTop (mkF m 3 #[.val (.ref a1), .val (.int ((Int32.ofNat (i)) + (1 : Int32))), .val (.ref b), .val (.int ((Int32.ofNat (i)) + (1 : Int32))), .val (.int (Int32.ofNat n)), .val (.int ((Int32.ofNat (i)) + (1 : Int32))), .val (.int (f i))] []))
    rw [own_one]
    show own_G _ _ _ _ (T4.setTop (mkF m 3 #[.val (.ref a1), .val (.int (Int32.ofNat (i + 1))), .val (.ref b), .val (.int (Int32.ofNat (i + 1))), .val (.int (Int32.ofNat n)), .val (.int (Int32.ofNat (i + 1))), .val (.int (f i))] []))
    have q8 : Arv Z h4 a1 kc .char (Int32.ofNat n) (own_vals f n) (.int (0 : Int32)) := (Vc.other W4 (show @Ne Nat a1 b by omega))
    exact k _ _ _ _ X4 e4 N4 O6 (One.val rfl) (Ks.trans K7 (allS (Or.inl (by simp)) all0)) (fun j hj => by rcases Nat.lt_or_ge j i with q | q; exact hall j q; rw [show j = i by omega]; exact hbig) q8 V4'
theorem own_d_jdk_52_m21_44 : decode jdk_52_method_21_code 44 = .ok (.iload 4, 2) := by decide +kernel
theorem own_d_jdk_52_m21_46 : decode jdk_52_method_21_code 46 = .ok (.ireturn, 1) := by decide +kernel
set_option maxRecDepth 65536 in
set_option maxHeartbeats 40000000 in
theorem own_c5_exit {p : Program} {l : Launch} {e : Env} {s : State} {m : MethodId} {args : Array Value} {below : List Frame} {meth : Method} {c : Code} {Z : State} {a0 : Array Value} {locs : List Loc} {cells slots : Nat} {T0 : State} {h0 : Heap}  {hs : Heap} (a1 b : Addr) (n : Nat) (f : Nat → Int32) (kb : ClassId) (s6 : Slot) (hx : p.tables.exec = Jvm.exec) (hZ : Z.Warmed39 s.vm) (hw : ∀ d ∈ tables_1, d.before a0 Z = true) (hby : c.code = jdk_52_method_21_code) (hml : c.maxLocals = 7) (hown : s.vm.findClass "java/lang/StringUTF16" = some m.cls) (X0 : Stand p l e ({ frames := 0, cells := 0, slots := 0, locals := 0 } : Room) s m args below meth c T0 locs cells slots) (e0 : T0.heap = h0) (N0 : Fr Z.heap.size locs) (O0 : Old Z Z.heap.size h0) (hret : meth.sig.returnType = some .int) (hlk : meth.locks = false) (hcs : cells ≤ 0) (hss : slots ≤ 0) (Ks : Keep hs h0 [b]) (hall : ∀ j, j < n → ¬ (255 : Int32) < f j) (Vb : Arv Z h0 b kb .byte (Int32.ofNat n) (own_vals (fun j => own_lo (f j)) n) (.int (0 : Int32)))
     :
    own_G p.tables e below (own_F s below (own_QC Z hs b kb f n) 0 0) (T0.setTop (mkF m 3 #[.val (.ref a1), .val (.int (Int32.ofNat (n))), .val (.ref b), .val (.int (Int32.ofNat (n))), .val (.int (Int32.ofNat n)), .val (.int (Int32.ofNat (n))), s6] [])) := by
  have z0 : Z.heap.size ≤ h0.size := O0.2.1
  have Kr := Keep.refl h0 []
  show own_G _ _ _ _ (T0.setTop (mkF m 3 #[.val (.ref a1), .val (.int (Int32.ofNat (n))), .val (.ref b), .val (.int (Int32.ofNat (n))), .val (.int (Int32.ofNat n)), .val (.int (Int32.ofNat (n))), s6] []))
  refine own_st (fun _ k => XS.iload X0.here hx rfl (hb hby own_d_jdk_52_m21_3) rfl k) ?_
  show own_G _ _ _ _ (T0.setTop (mkF m 5 #[.val (.ref a1), .val (.int (Int32.ofNat (n))), .val (.ref b), .val (.int (Int32.ofNat (n))), .val (.int (Int32.ofNat n)), .val (.int (Int32.ofNat (n))), s6] [(.int (Int32.ofNat (n)))]))
  refine own_st (fun _ k => XS.iload X0.here hx rfl (hb hby own_d_jdk_52_m21_5) rfl k) ?_
  show own_G _ _ _ _ (T0.setTop (mkF m 7 #[.val (.ref a1), .val (.int (Int32.ofNat (n))), .val (.ref b), .val (.int (Int32.ofNat (n))), .val (.int (Int32.ofNat n)), .val (.int (Int32.ofNat (n))), s6] [(.int (Int32.ofNat n)), (.int (Int32.ofNat (n)))]))
  refine own_st (fun _ k => XS.icmpYes X0.here hx rfl (pc0 := 7) (pc' := 44) rfl (hb hby own_d_jdk_52_m21_7) rfl (flt Int32.lt_irrefl).2.1 (by decide) (by decide) k) ?_
  show own_G _ _ _ _ (T0.setTop (mkF m 44 #[.val (.ref a1), .val (.int (Int32.ofNat (n))), .val (.ref b), .val (.int (Int32.ofNat (n))), .val (.int (Int32.ofNat n)), .val (.int (Int32.ofNat (n))), s6] []))
  refine own_st (fun _ k => XS.iload X0.here hx rfl (hb hby own_d_jdk_52_m21_44) rfl k) ?_
  show own_G _ _ _ _ (T0.setTop (mkF m 46 #[.val (.ref a1), .val (.int (Int32.ofNat (n))), .val (.ref b), .val (.int (Int32.ofNat (n))), .val (.int (Int32.ofNat n)), .val (.int (Int32.ofNat (n))), s6] [(.int (Int32.ofNat n))]))
  exact own_retI X0 hx hret hlk (hb hby own_d_jdk_52_m21_46) (by rw [e0]; exact ⟨n, rfl, N0, Ks, Or.inl ⟨rfl, hall, Vb⟩⟩) hcs hss
theorem own_c5_loop {p : Program} {l : Launch} {e : Env} {s : State} {m : MethodId} {args : Array Value} {below : List Frame} {meth : Method} {c : Code} {Z : State} {a0 : Array Value} {cells slots : Nat} {hs : Heap} (a1 b : Addr) (n : Nat) (f : Nat → Int32) (kb kc : ClassId) (hx : p.tables.exec = Jvm.exec) (hZ : Z.Warmed39 s.vm) (hw : ∀ d ∈ tables_1, d.before a0 Z = true) (hby : c.code = jdk_52_method_21_code) (hml : c.maxLocals = 7) (hown : s.vm.findClass "java/lang/StringUTF16" = some m.cls) (hret : meth.sig.returnType = some .int) (hlk : meth.locks = false) (hcs : cells ≤ 0) (hss : slots ≤ 0) (hn : n ≤ 3) (gb : Z.heap.size ≤ b) (hne : a1 ≠ b) :
    ∀ (r i : Nat) (s6 : Slot) (T' : State) (h' : Heap) (locs' : List Loc), i + r = n → Stand p l e ({ frames := 0, cells := 0, slots := 0, locals := 0 } : Room) s m args below meth c T' locs' cells slots → T'.heap = h' → Fr Z.heap.size locs' → Old Z Z.heap.size h' → One s6 → Keep hs h' [b] → (∀ j, j < i → ¬ (255 : Int32) < f j) → Arv Z h' a1 kc .char (Int32.ofNat n) (own_vals f n) (.int (0 : Int32)) → Arv Z h' b kb .byte (Int32.ofNat n) (own_vals (fun j => own_lo (f j)) (i)) (.int (0 : Int32)) → own_G p.tables e below (own_F s below (own_QC Z hs b kb f n) 0 0) (T'.setTop (mkF m 3 #[.val (.ref a1), .val (.int (Int32.ofNat (i))), .val (.ref b), .val (.int (Int32.ofNat (i))), .val (.int (Int32.ofNat n)), .val (.int (Int32.ofNat (i))), s6] [])) := by
  intro r
  induction r with
  | zero =>
    intro i s6 T' h' locs' hi X e1 N O h6 K ha Vc Vb
    have hi' : i = n := by omega
    subst hi'
    exact own_c5_exit a1 b i f kb s6 hx hZ hw hby hml hown X e1 N O hret hlk hcs hss K ha Vb
  | succ r ih =>
    intro i s6 T' h' locs' hi X e1 N O h6 K ha Vc Vb
    exact own_c5_turn a1 b i n f kb kc s6 hx hZ hw hby hml hown X e1 N O hret hlk hcs hss h6 (by omega) hn gb hne K ha Vc Vb fun s7 T2 h2 L2 X2 e2 N2 O2 h62 K2 ha2 Vc2 Vb2 => ih (i + 1) s7 T2 h2 L2 (by omega) X2 e2 N2 O2 h62 K2 ha2 Vc2 Vb2
theorem own_d_jdk_52_m21_0 : decode jdk_52_method_21_code 0 = .ok (.iconst 0, 1) := by decide +kernel
theorem own_d_jdk_52_m21_1 : decode jdk_52_method_21_code 1 = .ok (.istore 5, 2) := by decide +kernel
set_option maxRecDepth 65536 in
set_option maxHeartbeats 40000000 in
theorem own_c5 (l : Launch) (Z : State) (a0 : Array Value) (hw : ∀ d ∈ tables_1, d.before a0 Z = true) (ws : List Jvm.Cond) (a1 : Addr) (b : Addr) (n : Nat) (f : Nat → Int32) (kb kc : ClassId) (h0 : Heap) (O0 : Old Z Z.heap.size h0) (hn : n ≤ 3) (gb : Z.heap.size ≤ b) (hne : a1 ≠ b) (Vc : Arv Z h0 a1 kc .char (Int32.ofNat n) (own_vals f n) (.int (0 : Int32))) (Vb : Arv Z h0 b kb .byte (Int32.ofNat n) [] (.int (0 : Int32))) :
    own_Met l Z (⟨"java/lang/StringUTF16", "compress", "([CI[BII)I"⟩ : MethodName) jdk_52_method_21_code 7 (some .int) ws ({ frames := 0, cells := 0, slots := 0, locals := 0 } : Room) #[(.ref a1), (.int (Int32.ofNat 0)), (.ref b), (.int (Int32.ofNat 0)), (.int (Int32.ofNat n))] h0 (own_QC Z h0 b kb f n) (({ frames := 0, cells := 0, slots := 0, locals := 0 } : Room)).cells (({ frames := 0, cells := 0, slots := 0, locals := 0 } : Room)).slots := by
  refine own_body (ef := fun m => mkF m 0 #[.val (.ref a1), .val (.int (Int32.ofNat 0)), .val (.ref b), .val (.int (Int32.ofNat 0)), .val (.int (Int32.ofNat n)), .unset, .unset] []) (plainFor_of_name own_pn0) (fun m => by first | rfl | (simp [entryFrame, mkF, argsToLocals, Value.category]; done)) ?_
  intro p e s m below meth c T0 hx hZ hby hml hown hnm hret hlk X0 e0
  have N0 := Fr.nil Z.heap.size
  have z0 : Z.heap.size ≤ h0.size := O0.2.1
  have Kr := Keep.refl h0 []
  show own_G _ _ _ _ (T0.setTop (mkF m 0 #[.val (.ref a1), .val (.int (Int32.ofNat 0)), .val (.ref b), .val (.int (Int32.ofNat 0)), .val (.int (Int32.ofNat n)), .unset, .unset] []))
  refine own_st (fun _ k => XS.iconst X0.here hx rfl (hb hby own_d_jdk_52_m21_0) k) ?_
  show own_G _ _ _ _ (T0.setTop (mkF m 1 #[.val (.ref a1), .val (.int (Int32.ofNat 0)), .val (.ref b), .val (.int (Int32.ofNat 0)), .val (.int (Int32.ofNat n)), .unset, .unset] [(.int (0 : Int32))]))
  refine own_st (fun _ k => XS.istore X0.here hx rfl (hb hby own_d_jdk_52_m21_1) rfl (l' := #[.val (.ref a1), .val (.int (Int32.ofNat 0)), .val (.ref b), .val (.int (Int32.ofNat 0)), .val (.int (Int32.ofNat n)), .val (.int (0 : Int32)), .unset]) rfl k) ?_
  show own_G _ _ _ _ (T0.setTop (mkF m 3 #[.val (.ref a1), .val (.int (Int32.ofNat 0)), .val (.ref b), .val (.int (Int32.ofNat 0)), .val (.int (Int32.ofNat n)), .val (.int (0 : Int32)), .unset] []))
  exact own_c5_loop a1 b n f kb kc hx hZ hw hby hml hown hret hlk (Nat.le_refl _) (Nat.le_refl _) hn gb hne n 0 .unset _ _ _ (by omega) X0 e0 N0 O0 One.u (Keep.refl _ _) (fun j hj => absurd hj (Nat.not_lt_zero j)) Vc Vb
theorem own_d_jdk_52_m15_0 : decode jdk_52_method_15_code 0 = .ok (.iload_n 1, 1) := by decide +kernel
theorem own_d_jdk_52_m15_1 : decode jdk_52_method_15_code 1 = .ok (.aload_n 0, 1) := by decide +kernel
theorem own_d_jdk_52_m15_2 : decode jdk_52_method_15_code 2 = .ok (.arraylength, 1) := by decide +kernel
theorem own_d_jdk_52_m15_3 : decode jdk_52_method_15_code 3 = .ok (.isub, 1) := by decide +kernel
theorem own_d_jdk_52_m15_4 : decode jdk_52_method_15_code 4 = .ok (.bipush 31, 2) := by decide +kernel
theorem own_d_jdk_52_m15_6 : decode jdk_52_method_15_code 6 = .ok (.iushr, 1) := by decide +kernel
theorem own_d_jdk_52_m15_7 : decode jdk_52_method_15_code 7 = .ok (.i2b, 1) := by decide +kernel
theorem own_d_jdk_52_m15_8 : decode jdk_52_method_15_code 8 = .ok (.ireturn, 1) := by decide +kernel
set_option maxRecDepth 65536 in
set_option maxHeartbeats 40000000 in
theorem own_cod (l : Launch) (Z : State) (a0 : Array Value) (hw : ∀ d ∈ tables_1, d.before a0 Z = true) (ws : List Jvm.Cond) (a1 : Addr) (n : Nat) (N cd : Int32) (vs : List Value) (kb : ClassId) (h0 : Heap) (O0 : Old Z Z.heap.size h0) (V1 : Arv Z h0 a1 kb .byte N vs (.int (0 : Int32))) (hcd : nar .byte (((((Int32.ofNat n) - N).toUInt32 >>> ((31 : Int32) &&& 31).toUInt32).toInt32).toInt8.toInt32) = cd) :
    own_Met l Z (⟨"java/lang/StringUTF16", "coderFromArrayLen", "([BI)B"⟩ : MethodName) jdk_52_method_15_code 2 (some .byte) ws ({ frames := 0, cells := 0, slots := 0, locals := 0 } : Room) #[(.ref a1), (.int (Int32.ofNat n))] h0 (fun v h L => v = some (.int cd) ∧ Fr Z.heap.size L ∧ h = h0) (({ frames := 0, cells := 0, slots := 0, locals := 0 } : Room)).cells (({ frames := 0, cells := 0, slots := 0, locals := 0 } : Room)).slots := by
  refine own_body (ef := fun m => mkF m 0 #[.val (.ref a1), .val (.int (Int32.ofNat n))] []) (plainFor_of_name own_pn0) (fun m => by first | rfl | (simp [entryFrame, mkF, argsToLocals, Value.category]; done)) ?_
  intro p e s m below meth c T0 hx hZ hby hml hown hnm hret hlk X0 e0
  have N0 := Fr.nil Z.heap.size
  have z0 : Z.heap.size ≤ h0.size := O0.2.1
  have Kr := Keep.refl h0 []
  show own_G _ _ _ _ (T0.setTop (mkF m 0 #[.val (.ref a1), .val (.int (Int32.ofNat n))] []))
  refine own_st (fun _ k => XS.iloadN X0.here hx rfl (hb hby own_d_jdk_52_m15_0) rfl k) ?_
  show own_G _ _ _ _ (T0.setTop (mkF m 1 #[.val (.ref a1), .val (.int (Int32.ofNat n))] [(.int (Int32.ofNat n))]))
  refine own_st (fun _ k => XS.aloadN X0.here hx rfl (hb hby own_d_jdk_52_m15_1) rfl rfl k) ?_
  show own_G _ _ _ _ (T0.setTop (mkF m 2 #[.val (.ref a1), .val (.int (Int32.ofNat n))] [(.ref a1), (.int (Int32.ofNat n))]))
  obtain ⟨cl1, Ar1, qk1, Sz1, Mz1, Hz1, Uz1⟩ := id V1
  refine own_st (X0.arraylength hx (by rw [e0]; exact Ar1.1) (State.isArrayOf_alike hZ.alike Ar1.2.1) (g := (mkF m 2 #[.val (.ref a1), .val (.int (Int32.ofNat n))] [(.ref a1), (.int (Int32.ofNat n))])) rfl rfl (hb hby own_d_jdk_52_m15_2)) ?_
  rw [len_of Sz1 Mz1]
  show own_G _ _ _ _ (T0.setTop (mkF m 3 #[.val (.ref a1), .val (.int (Int32.ofNat n))] [(.int N), (.int (Int32.ofNat n))]))
  refine own_st (fun _ k => XS.isub X0.here hx rfl (hb hby own_d_jdk_52_m15_3) rfl k) ?_
  show own_G _ _ _ _ (T0.setTop (mkF m 4 #[.val (.ref a1), .val (.int (Int32.ofNat n))] [(.int ((Int32.ofNat n) - N))]))
  refine own_st (fun _ k => XS.bipush X0.here hx rfl (hb hby own_d_jdk_52_m15_4) k) ?_
  show own_G _ _ _ _ (T0.setTop (mkF m 6 #[.val (.ref a1), .val (.int (Int32.ofNat n))] [(.int (31 : Int32)), (.int ((Int32.ofNat n) - N))]))
  refine own_st (fun _ k => XS.iushr X0.here hx rfl (hb hby own_d_jdk_52_m15_6) rfl k) ?_
  show own_G _ _ _ _ (T0.setTop (mkF m 7 #[.val (.ref a1), .val (.int (Int32.ofNat n))] [(.int ((((Int32.ofNat n) - N).toUInt32 >>> ((31 : Int32) &&& 31).toUInt32).toInt32))]))
  refine own_st (fun _ k => XS.i2b X0.here hx rfl (hb hby own_d_jdk_52_m15_7) rfl k) ?_
  show own_G _ _ _ _ (T0.setTop (mkF m 8 #[.val (.ref a1), .val (.int (Int32.ofNat n))] [(.int (((((Int32.ofNat n) - N).toUInt32 >>> ((31 : Int32) &&& 31).toUInt32).toInt32).toInt8.toInt32))]))
  exact own_retN X0 hx hret hlk (by simp) (hb hby own_d_jdk_52_m15_8) (by rw [e0]; exact ⟨by rw [hcd], N0, rfl⟩) (by decide) (by decide)
theorem own_d_jdk_52_m16_0 : decode jdk_52_method_16_code 0 = .ok (.iload_n 2, 1) := by decide +kernel
theorem own_d_jdk_52_m16_1 : decode jdk_52_method_16_code 1 = .ok (.newarray .byte, 2) := by decide +kernel
theorem own_d_jdk_52_m16_3 : decode jdk_52_method_16_code 3 = .ok (.astore_n 3, 1) := by decide +kernel
theorem own_d_jdk_52_m16_4 : decode jdk_52_method_16_code 4 = .ok (.aload_n 0, 1) := by decide +kernel
theorem own_d_jdk_52_m16_5 : decode jdk_52_method_16_code 5 = .ok (.iload_n 1, 1) := by decide +kernel
theorem own_d_jdk_52_m16_6 : decode jdk_52_method_16_code 6 = .ok (.aload_n 3, 1) := by decide +kernel
theorem own_d_jdk_52_m16_7 : decode jdk_52_method_16_code 7 = .ok (.iconst 0, 1) := by decide +kernel
theorem own_d_jdk_52_m16_8 : decode jdk_52_method_16_code 8 = .ok (.iload_n 2, 1) := by decide +kernel
theorem own_d_jdk_52_m16_9 : decode jdk_52_method_16_code 9 = .ok (.invokestatic 115, 3) := by decide +kernel
theorem own_pd124 : parseMethodDescriptor "([CI[BII)I" = some ⟨[(.array .char), .int, (.array .byte), .int, .int], some .int⟩ := by decide +kernel
theorem own_d_jdk_52_m16_12 : decode jdk_52_method_16_code 12 = .ok (.istore 4, 2) := by decide +kernel
theorem own_d_jdk_52_m16_14 : decode jdk_52_method_16_code 14 = .ok (.iload 4, 2) := by decide +kernel
theorem own_d_jdk_52_m16_16 : decode jdk_52_method_16_code 16 = .ok (.iload_n 2, 1) := by decide +kernel
theorem own_d_jdk_52_m16_17 : decode jdk_52_method_16_code 17 = .ok (.if_icmp .eq 40, 3) := by decide +kernel
theorem own_d_jdk_52_m16_57 : decode jdk_52_method_16_code 57 = .ok (.aload_n 3, 1) := by decide +kernel
theorem own_d_jdk_52_m16_58 : decode jdk_52_method_16_code 58 = .ok (.areturn, 1) := by decide +kernel
theorem own_d_jdk_52_m16_20 : decode jdk_52_method_16_code 20 = .ok (.aload_n 0, 1) := by decide +kernel
theorem own_d_jdk_52_m16_21 : decode jdk_52_method_16_code 21 = .ok (.iload_n 1, 1) := by decide +kernel
theorem own_d_jdk_52_m16_22 : decode jdk_52_method_16_code 22 = .ok (.iload_n 2, 1) := by decide +kernel
theorem own_d_jdk_52_m16_23 : decode jdk_52_method_16_code 23 = .ok (.invokestatic 119, 3) := by decide +kernel
theorem own_pd135 : parseMethodDescriptor "([CII)[B" = some ⟨[(.array .char), .int, .int], some (.array .byte)⟩ := by decide +kernel
theorem own_d_jdk_52_m16_26 : decode jdk_52_method_16_code 26 = .ok (.astore 5, 2) := by decide +kernel
theorem own_d_jdk_52_m16_28 : decode jdk_52_method_16_code 28 = .ok (.aload 5, 2) := by decide +kernel
theorem own_d_jdk_52_m16_30 : decode jdk_52_method_16_code 30 = .ok (.iload 4, 2) := by decide +kernel
theorem own_d_jdk_52_m16_32 : decode jdk_52_method_16_code 32 = .ok (.invokestatic 71, 3) := by decide +kernel
theorem own_pd140 : parseMethodDescriptor "([BI)C" = some ⟨[(.array .byte), .int], some .char⟩ := by decide +kernel
theorem own_d_jdk_52_m16_35 : decode jdk_52_method_16_code 35 = .ok (.sipush 255, 3) := by decide +kernel
theorem own_d_jdk_52_m16_38 : decode jdk_52_method_16_code 38 = .ok (.if_icmp .gt 16, 3) := by decide +kernel
theorem own_d_jdk_52_m16_54 : decode jdk_52_method_16_code 54 = .ok (.aload 5, 2) := by decide +kernel
theorem own_d_jdk_52_m16_56 : decode jdk_52_method_16_code 56 = .ok (.areturn, 1) := by decide +kernel
set_option maxRecDepth 65536 in
set_option maxHeartbeats 40000000 in
theorem own_c3 (l : Launch) (Z : State) (a0 : Array Value) (hw : ∀ d ∈ tables_1, d.before a0 Z = true) (ws : List Jvm.Cond) (a1 : Addr) (n : Nat) (f : Nat → Int32) (kc : ClassId) (h0 : Heap) (O0 : Old Z Z.heap.size h0) (hn : n ≤ 3) (hf : ∀ j, j < n → 0 ≤ (f j).toInt ∧ (f j).toInt < 65536) (US : own_US Z) (Vc : Arv Z h0 a1 kc .char (Int32.ofNat n) (own_vals f n) (.int (0 : Int32))) :
    own_Met l Z (⟨"java/lang/StringUTF16", "compress", "([CII)[B"⟩ : MethodName) jdk_52_method_16_code 6 (some (.array .byte)) ws ({ frames := 3, cells := 2, slots := 9, locals := 40 } : Room) #[(.ref a1), (.int (Int32.ofNat 0)), (.int (Int32.ofNat n))] h0 (fun v h L => ∃ t kt, v = some (.ref t) ∧ Fr Z.heap.size L ∧ Keep h0 h [] ∧ h0.size ≤ t ∧ t < h.size ∧ (((∀ j, j < n → ¬ (255 : Int32) < f j) ∧ Arv Z h t kt .byte (Int32.ofNat n) (own_vals (fun j => own_lo (f j)) n) (.int (0 : Int32))) ∨ Arv Z h t kt .byte (Int32.ofNat (2 * n)) (own_vals (own_wide f) (2 * n)) (.int (0 : Int32)))) (({ frames := 3, cells := 2, slots := 9, locals := 40 } : Room)).cells (({ frames := 3, cells := 2, slots := 9, locals := 40 } : Room)).slots := by
  refine own_body (ef := fun m => mkF m 0 #[.val (.ref a1), .val (.int (Int32.ofNat 0)), .val (.int (Int32.ofNat n)), .unset, .unset, .unset] []) (plainFor_of_name own_pn0) (fun m => by first | rfl | (simp [entryFrame, mkF, argsToLocals, Value.category]; done)) ?_
  intro p e s m below meth c T0 hx hZ hby hml hown hnm hret hlk X0 e0
  have N0 := Fr.nil Z.heap.size
  have z0 : Z.heap.size ≤ h0.size := O0.2.1
  have Kr := Keep.refl h0 []
  show own_G _ _ _ _ (T0.setTop (mkF m 0 #[.val (.ref a1), .val (.int (Int32.ofNat 0)), .val (.int (Int32.ofNat n)), .unset, .unset, .unset] []))
  have ltc := own_ltN Vc.lt
  refine own_st (fun _ k => XS.iloadN X0.here hx rfl (hb hby own_d_jdk_52_m16_0) rfl k) ?_
  show own_G _ _ _ _ (T0.setTop (mkF m 1 #[.val (.ref a1), .val (.int (Int32.ofNat 0)), .val (.int (Int32.ofNat n)), .unset, .unset, .unset] [(.int (Int32.ofNat n))]))
  obtain ⟨T1, h1, k1, X1, e1, E1, A1, st1⟩ := newP X0 hx hZ (hw _ (List.mem_of_getElem? (i := 37) rfl)) e0 (g := (mkF m 1 #[.val (.ref a1), .val (.int (Int32.ofNat 0)), .val (.int (Int32.ofNat n)), .unset, .unset, .unset] [(.int (Int32.ofNat n))])) rfl (hb hby own_d_jdk_52_m16_1) rfl (own_nn (by omega)) (cap := 3) (by rw [own_clamp (by omega)]; omega) (by decide) (by decide) (by decide)
  obtain ⟨b1, g1⟩ : ∃ z, z = h0.size := ⟨_, rfl⟩
  rw [← g1] at A1 st1
  refine own_st st1 ?_
  have z2 : h0.size ≤ h1.size := E1.1
  have O3 := Old.ext O0 E1
  have K4 : Keep h0 h1 [] := Kr.ext E1
  have V1 : Arv Z h1 b1 k1 .byte (Int32.ofNat n) [] (.int (0 : Int32)) := Arv.new A1 (own_nn (by omega))
  have lt1 := own_ltN A1.lt
  show own_G _ _ _ _ (T1.setTop (mkF m 3 #[.val (.ref a1), .val (.int (Int32.ofNat 0)), .val (.int (Int32.ofNat n)), .unset, .unset, .unset] [(.ref b1)]))
  refine own_st (fun _ k => XS.astoreN X1.here hx rfl (hb hby own_d_jdk_52_m16_3) rfl rfl (l' := #[.val (.ref a1), .val (.int (Int32.ofNat 0)), .val (.int (Int32.ofNat n)), .val (.ref b1), .unset, .unset]) rfl k) ?_
  show own_G _ _ _ _ (T1.setTop (mkF m 4 #[.val (.ref a1), .val (.int (Int32.ofNat 0)), .val (.int (Int32.ofNat n)), .val (.ref b1), .unset, .unset] []))
  refine own_st (fun _ k => XS.aloadN X1.here hx rfl (hb hby own_d_jdk_52_m16_4) rfl rfl k) ?_
  show own_G _ _ _ _ (T1.setTop (mkF m 5 #[.val (.ref a1), .val (.int (Int32.ofNat 0)), .val (.int (Int32.ofNat n)), .val (.ref b1), .unset, .unset] [(.ref a1)]))
  refine own_st (fun _ k => XS.iloadN X1.here hx rfl (hb hby own_d_jdk_52_m16_5) rfl k) ?_
  show own_G _ _ _ _ (T1.setTop (mkF m 6 #[.val (.ref a1), .val (.int (Int32.ofNat 0)), .val (.int (Int32.ofNat n)), .val (.ref b1), .unset, .unset] [(.int (Int32.ofNat 0)), (.ref a1)]))
  refine own_st (fun _ k => XS.aloadN X1.here hx rfl (hb hby own_d_jdk_52_m16_6) rfl rfl k) ?_
  show own_G _ _ _ _ (T1.setTop (mkF m 7 #[.val (.ref a1), .val (.int (Int32.ofNat 0)), .val (.int (Int32.ofNat n)), .val (.ref b1), .unset, .unset] [(.ref b1), (.int (Int32.ofNat 0)), (.ref a1)]))
  refine own_st (fun _ k => XS.iconst X1.here hx rfl (hb hby own_d_jdk_52_m16_7) k) ?_
  show own_G _ _ _ _ (T1.setTop (mkF m 8 #[.val (.ref a1), .val (.int (Int32.ofNat 0)), .val (.int (Int32.ofNat n)), .val (.ref b1), .unset, .unset] [(.int (0 : Int32)), (.ref b1), (.int (Int32.ofNat 0)), (.ref a1)]))
  refine own_st (fun _ k => XS.iloadN X1.here hx rfl (hb hby own_d_jdk_52_m16_8) rfl k) ?_
  show own_G _ _ _ _ (T1.setTop (mkF m 9 #[.val (.ref a1), .val (.int (Int32.ofNat 0)), .val (.int (Int32.ofNat n)), .val (.ref b1), .unset, .unset] [(.int (Int32.ofNat n)), (.int (0 : Int32)), (.ref b1), (.int (Int32.ofNat 0)), (.ref a1)]))
  have q5 : Arv Z h1 a1 kc .char (Int32.ofNat n) (own_vals f n) (.int (0 : Int32)) := (Vc.ext E1)
  obtain ⟨_, _, ⟨T6, L6, k6, n6⟩, -, X6, ⟨Lc6, hQ6, l6, y6, z6⟩, st6⟩ := Jvm.LawKit.callS X1 hx (y := (⟨"java/lang/StringUTF16", "compress", "([CI[BII)I"⟩ : MethodName)) hown (mvT hZ (hw _ (List.mem_of_getElem? (i := 38) rfl))) (mvT hZ (hw _ (List.mem_of_getElem? (i := 39) rfl))) (mvT hZ (hw _ (List.mem_of_getElem? (i := 35) rfl))) (mvT hZ (hw _ (List.mem_of_getElem? (i := 40) rfl))) (by decide) (own_back (rm := ({ frames := 0, cells := 0, slots := 0, locals := 0 } : Room)) (W := 0) (own_c5 l Z a0 hw [] a1 b1 n f k1 kc h1 O3 hn (by omega) (show @Ne Nat a1 b1 by omega) q5 V1) hZ (hw _ (List.mem_of_getElem? (i := 40) rfl)) (hw _ (List.mem_of_getElem? (i := 35) rfl)) (by decide) (by decide)) (g := (mkF m 9 #[.val (.ref a1), .val (.int (Int32.ofNat 0)), .val (.int (Int32.ofNat n)), .val (.ref b1), .unset, .unset] [(.int (Int32.ofNat n)), (.int (0 : Int32)), (.ref b1), (.int (Int32.ofNat 0)), (.ref a1)])) rfl (by rw [hml]; rfl) (argsL := [(.ref a1), (.int (Int32.ofNat 0)), (.ref b1), (.int (0 : Int32)), (.int (Int32.ofNat n))]) (rest := []) (lenOf own_pd124 rfl) rfl (by show 2 * 0 + _ ≤ _; exact Nat.le_of_eq rfl) (hb hby own_d_jdk_52_m16_9) (fun _ _ => ⟨rfl, e1, (by decide : 0 + 1 + 0 ≤ _), (by decide : 0 + 3 + 0 ≤ _)⟩)
  dsimp only [Pt.U, Pt.locs, Pt.cells, Pt.slots] at X6 l6 y6 z6 st6 hQ6
  subst l6 y6 z6
  obtain ⟨r, rfl, N6q, K6_, c6⟩ := hQ6
  have N6 := Fr.app N0 N6q
  refine own_st st6 ?_
  have z7 : h1.size ≤ T6.heap.size := K6_.1
  have O8 := Old.keep O3 K6_ (allS (by omega) all0)
  have K9 : Keep h0 T6.heap [] := K4.trans K6_ (allS (Or.inr (by omega)) all0)
  show own_G _ _ _ _ (T6.setTop (mkF m 12 #[.val (.ref a1), .val (.int (Int32.ofNat 0)), .val (.int (Int32.ofNat n)), .val (.ref b1), .unset, .unset] [(.int (Int32.ofNat r))]))
  refine own_st (fun _ k => XS.istore X6.here hx rfl (hb hby own_d_jdk_52_m16_12) rfl (l' := #[.val (.ref a1), .val (.int (Int32.ofNat 0)), .val (.int (Int32.ofNat n)), .val (.ref b1), .val (.int (Int32.ofNat r)), .unset]) rfl k) ?_
  show own_G _ _ _ _ (T6.setTop (mkF m 14 #[.val (.ref a1), .val (.int (Int32.ofNat 0)), .val (.int (Int32.ofNat n)), .val (.ref b1), .val (.int (Int32.ofNat r)), .unset] []))
  refine own_st (fun _ k => XS.iload X6.here hx rfl (hb hby own_d_jdk_52_m16_14) rfl k) ?_
  show own_G _ _ _ _ (T6.setTop (mkF m 16 #[.val (.ref a1), .val (.int (Int32.ofNat 0)), .val (.int (Int32.ofNat n)), .val (.ref b1), .val (.int (Int32.ofNat r)), .unset] [(.int (Int32.ofNat r))]))
  refine own_st (fun _ k => XS.iloadN X6.here hx rfl (hb hby own_d_jdk_52_m16_16) rfl k) ?_
  show own_G _ _ _ _ (T6.setTop (mkF m 17 #[.val (.ref a1), .val (.int (Int32.ofNat 0)), .val (.int (Int32.ofNat n)), .val (.ref b1), .val (.int (Int32.ofNat r)), .unset] [(.int (Int32.ofNat n)), (.int (Int32.ofNat r))]))
  rcases c6 with ⟨hrn, hall, Vl⟩ | ⟨hr, hbig⟩
  · skip
    refine own_st (fun _ k => XS.icmpYes X6.here hx rfl (pc0 := 17) (pc' := 57) rfl (hb hby own_d_jdk_52_m16_17) rfl (teq (by rw [hrn])).1 (by decide) (by decide) k) ?_
    show own_G _ _ _ _ (T6.setTop (mkF m 57 #[.val (.ref a1), .val (.int (Int32.ofNat 0)), .val (.int (Int32.ofNat n)), .val (.ref b1), .val (.int (Int32.ofNat r)), .unset] []))
    refine own_st (fun _ k => XS.aloadN X6.here hx rfl (hb hby own_d_jdk_52_m16_57) rfl rfl k) ?_
    show own_G _ _ _ _ (T6.setTop (mkF m 58 #[.val (.ref a1), .val (.int (Int32.ofNat 0)), .val (.int (Int32.ofNat n)), .val (.ref b1), .val (.int (Int32.ofNat r)), .unset] [(.ref b1)]))
    exact own_retA X6 hx hret rfl rfl hlk (hb hby own_d_jdk_52_m16_58) ⟨b1, k1, rfl, N6, K9, by omega, Vl.lt, Or.inl ⟨hall, Vl⟩⟩ (by decide) (by decide)
  · skip
    refine own_st (fun _ k => XS.icmpNo X6.here hx rfl (hb hby own_d_jdk_52_m16_17) rfl (feq (fun q => by have := congrArg Int32.toInt q; rw [own_nat (by omega), own_nat (by omega)] at this; omega)).1 k) ?_
    show own_G _ _ _ _ (T6.setTop (mkF m 20 #[.val (.ref a1), .val (.int (Int32.ofNat 0)), .val (.int (Int32.ofNat n)), .val (.ref b1), .val (.int (Int32.ofNat r)), .unset] []))
    refine own_st (fun _ k => XS.aloadN X6.here hx rfl (hb hby own_d_jdk_52_m16_20) rfl rfl k) ?_
    show own_G _ _ _ _ (T6.setTop (mkF m 21 #[.val (.ref a1), .val (.int (Int32.ofNat 0)), .val (.int (Int32.ofNat n)), .val (.ref b1), .val (.int (Int32.ofNat r)), .unset] [(.ref a1)]))
    refine own_st (fun _ k => XS.iloadN X6.here hx rfl (hb hby own_d_jdk_52_m16_21) rfl k) ?_
    show own_G _ _ _ _ (T6.setTop (mkF m 22 #[.val (.ref a1), .val (.int (Int32.ofNat 0)), .val (.int (Int32.ofNat n)), .val (.ref b1), .val (.int (Int32.ofNat r)), .unset] [(.int (Int32.ofNat 0)), (.ref a1)]))
    refine own_st (fun _ k => XS.iloadN X6.here hx rfl (hb hby own_d_jdk_52_m16_22) rfl k) ?_
    show own_G _ _ _ _ (T6.setTop (mkF m 23 #[.val (.ref a1), .val (.int (Int32.ofNat 0)), .val (.int (Int32.ofNat n)), .val (.ref b1), .val (.int (Int32.ofNat r)), .unset] [(.int (Int32.ofNat n)), (.int (Int32.ofNat 0)), (.ref a1)]))
    have q10 : Arv Z T6.heap a1 kc .char (Int32.ofNat n) (own_vals f n) (.int (0 : Int32)) := (q5.keep K6_ (ninS (show @Ne Nat a1 b1 by omega) nin0))
    obtain ⟨_, _, ⟨T11, L11, k11, n11⟩, -, X11, ⟨Lc11, hQ11, l11, y11, z11⟩, st11⟩ := Jvm.LawKit.callS X6 hx (y := (⟨"java/lang/StringUTF16", "toBytes", "([CII)[B"⟩ : MethodName)) hown (mvT hZ (hw _ (List.mem_of_getElem? (i := 41) rfl))) (mvT hZ (hw _ (List.mem_of_getElem? (i := 42) rfl))) (mvT hZ (hw _ (List.mem_of_getElem? (i := 35) rfl))) (mvT hZ (hw _ (List.mem_of_getElem? (i := 43) rfl))) (by decide) (own_back (rm := ({ frames := 2, cells := 1, slots := 6, locals := 24 } : Room)) (W := 0) (own_toBytes l Z a0 hw [] a1 n f kc T6.heap O8 hn US q10) hZ (hw _ (List.mem_of_getElem? (i := 43) rfl)) (hw _ (List.mem_of_getElem? (i := 35) rfl)) (by decide) (by decide)) (g := (mkF m 23 #[.val (.ref a1), .val (.int (Int32.ofNat 0)), .val (.int (Int32.ofNat n)), .val (.ref b1), .val (.int (Int32.ofNat r)), .unset] [(.int (Int32.ofNat n)), (.int (Int32.ofNat 0)), (.ref a1)])) rfl (by rw [hml]; rfl) (argsL := [(.ref a1), (.int (Int32.ofNat 0)), (.int (Int32.ofNat n))]) (rest := []) (lenOf own_pd135 rfl) rfl (by show 2 * 0 + _ ≤ _; exact Nat.le_of_eq rfl) (hb hby own_d_jdk_52_m16_23) (fun _ _ => ⟨rfl, rfl, (by decide : 0 + 1 + 0 + 1 ≤ _), (by decide : 0 + 3 + 0 + 6 ≤ _)⟩)
    dsimp only [Pt.U, Pt.locs, Pt.cells, Pt.slots] at X11 l11 y11 z11 st11 hQ11
    subst l11 y11 z11
    obtain ⟨t, kt, rfl, N11q, K11_, gt, ltt, Vt⟩ := hQ11
    have N11 := Fr.app N6 N11q
    refine own_st st11 ?_
    have z12 : T6.heap.size ≤ T11.heap.size := K11_.1
    have O13 := Old.keep O8 K11_ all0
    have K14 : Keep h0 T11.heap [] := K9.trans K11_ all0
    show own_G _ _ _ _ (T11.setTop (mkF m 26 #[.val (.ref a1), .val (.int (Int32.ofNat 0)), .val (.int (Int32.ofNat n)), .val (.ref b1), .val (.int (Int32.ofNat r)), .unset] [(.ref t)]))
    refine own_st (fun _ k => XS.astore X11.here hx rfl (hb hby own_d_jdk_52_m16_26) rfl rfl (l' := #[.val (.ref a1), .val (.int (Int32.ofNat 0)), .val (.int (Int32.ofNat n)), .val (.ref b1), .val (.int (Int32.ofNat r)), .val (.ref t)]) rfl k) ?_
    show own_G _ _ _ _ (T11.setTop (mkF m 28 #[.val (.ref a1), .val (.int (Int32.ofNat 0)), .val (.int (Int32.ofNat n)), .val (.ref b1), .val (.int (Int32.ofNat r)), .val (.ref t)] []))
    refine own_st (fun _ k => XS.aload X11.here hx rfl (hb hby own_d_jdk_52_m16_28) rfl rfl k) ?_
    show own_G _ _ _ _ (T11.setTop (mkF m 30 #[.val (.ref a1), .val (.int (Int32.ofNat 0)), .val (.int (Int32.ofNat n)), .val (.ref b1), .val (.int (Int32.ofNat r)), .val (.ref t)] [(.ref t)]))
    refine own_st (fun _ k => XS.iload X11.here hx rfl (hb hby own_d_jdk_52_m16_30) rfl k) ?_
    show own_G _ _ _ _ (T11.setTop (mkF m 32 #[.val (.ref a1), .val (.int (Int32.ofNat 0)), .val (.int (Int32.ofNat n)), .val (.ref b1), .val (.int (Int32.ofNat r)), .val (.ref t)] [(.int (Int32.ofNat r)), (.ref t)]))
    obtain ⟨_, _, ⟨T15, L15, k15, n15⟩, -, X15, ⟨Lc15, hQ15, l15, y15, z15⟩, st15⟩ := Jvm.LawKit.callS X11 hx (y := (⟨"java/lang/StringUTF16", "getChar", "([BI)C"⟩ : MethodName)) hown (mvT hZ (hw _ (List.mem_of_getElem? (i := 57) rfl))) (mvT hZ (hw _ (List.mem_of_getElem? (i := 58) rfl))) (mvT hZ (hw _ (List.mem_of_getElem? (i := 35) rfl))) (mvT hZ (hw _ (List.mem_of_getElem? (i := 59) rfl))) (by decide) (own_back (rm := ({ frames := 0, cells := 0, slots := 0, locals := 0 } : Room)) (W := 0) (own_getChar l Z a0 hw [] t r n f kt T11.heap O13 hr hn (hf r hr) US Vt) hZ (hw _ (List.mem_of_getElem? (i := 59) rfl)) (hw _ (List.mem_of_getElem? (i := 35) rfl)) (by decide) (by decide)) (g := (mkF m 32 #[.val (.ref a1), .val (.int (Int32.ofNat 0)), .val (.int (Int32.ofNat n)), .val (.ref b1), .val (.int (Int32.ofNat r)), .val (.ref t)] [(.int (Int32.ofNat r)), (.ref t)])) rfl (by rw [hml]; rfl) (argsL := [(.ref t), (.int (Int32.ofNat r))]) (rest := []) (lenOf own_pd140 rfl) rfl (by show 2 * 0 + _ ≤ _; exact Nat.le_of_eq rfl) (hb hby own_d_jdk_52_m16_32) (fun _ _ => ⟨rfl, rfl, (by decide : 0 + 1 + 0 + 1 + 0 ≤ _), (by decide : 0 + 3 + 0 + 6 + 0 ≤ _)⟩)
    dsimp only [Pt.U, Pt.locs, Pt.cells, Pt.slots] at X15 l15 y15 z15 st15 hQ15
    subst l15 y15 z15
    obtain ⟨rfl, N15q, eh15⟩ := hQ15
    have N15 := Fr.app N11 N15q
    refine own_st st15 ?_
    show own_G _ _ _ _ (T15.setTop (mkF m 35 #[.val (.ref a1), .val (.int (Int32.ofNat 0)), .val (.int (Int32.ofNat n)), .val (.ref b1), .val (.int (Int32.ofNat r)), .val (.ref t)] [(.int (f r))]))
    refine own_st (fun _ k => XS.sipush X15.here hx rfl (hb hby own_d_jdk_52_m16_35) k) ?_
    show own_G _ _ _ _ (T15.setTop (mkF m 38 #[.val (.ref a1), .val (.int (Int32.ofNat 0)), .val (.int (Int32.ofNat n)), .val (.ref b1), .val (.int (Int32.ofNat r)), .val (.ref t)] [(.int (255 : Int32)), (.int (f r))]))
    refine own_st (fun _ k => XS.icmpYes X15.here hx rfl (pc0 := 38) (pc' := 54) rfl (hb hby own_d_jdk_52_m16_38) rfl (tlt hbig).2.2.1 (by decide) (by decide) k) ?_
    show own_G _ _ _ _ (T15.setTop (mkF m 54 #[.val (.ref a1), .val (.int (Int32.ofNat 0)), .val (.int (Int32.ofNat n)), .val (.ref b1), .val (.int (Int32.ofNat r)), .val (.ref t)] []))
    refine own_st (fun _ k => XS.aload X15.here hx rfl (hb hby own_d_jdk_52_m16_54) rfl rfl k) ?_
    show own_G _ _ _ _ (T15.setTop (mkF m 56 #[.val (.ref a1), .val (.int (Int32.ofNat 0)), .val (.int (Int32.ofNat n)), .val (.ref b1), .val (.int (Int32.ofNat r)), .val (.ref t)] [(.ref t)]))
    exact own_retA X15 hx hret rfl rfl hlk (hb hby own_d_jdk_52_m16_56) (by rw [eh15]; exact ⟨t, kt, rfl, N15, K14, by omega, ltt, Or.inr Vt⟩) (by decide) (by decide)
theorem own_cd {n : Nat} (h1 : 1 ≤ n) (h2 : n ≤ 3) : nar .byte (((((Int32.ofNat n) - (Int32.ofNat (2 * n))).toUInt32 >>> ((31 : Int32) &&& 31).toUInt32).toInt32).toInt8.toInt32) = (1 : Int32) := by
  have : n = 1 ∨ n = 2 ∨ n = 3 := by omega
  rcases this with rfl | rfl | rfl <;> rfl
theorem own_pn145 : plainName "java/lang/String" = true := by first | (simp [plainName, overriddenIn]; done) | decide +kernel
theorem own_d_jdk_42_m149_0 : decode jdk_42_method_149_code 0 = .ok (.aload_n 0, 1) := by decide +kernel
theorem own_d_jdk_42_m149_1 : decode jdk_42_method_149_code 1 = .ok (.invokespecial 1, 3) := by decide +kernel
theorem own_d_jdk_42_m149_4 : decode jdk_42_method_149_code 4 = .ok (.iload_n 3, 1) := by decide +kernel
theorem own_d_jdk_42_m149_5 : decode jdk_42_method_149_code 5 = .ok (.ifCond .ne 22, 3) := by decide +kernel
theorem own_d_jdk_42_m149_27 : decode jdk_42_method_149_code 27 = .ok (.getstatic 38, 3) := by decide +kernel
theorem own_d_jdk_42_m149_30 : decode jdk_42_method_149_code 30 = .ok (.ifCond .eq 28, 3) := by decide +kernel
theorem own_d_jdk_42_m149_33 : decode jdk_42_method_149_code 33 = .ok (.aload_n 1, 1) := by decide +kernel
theorem own_d_jdk_42_m149_34 : decode jdk_42_method_149_code 34 = .ok (.iload_n 2, 1) := by decide +kernel
theorem own_d_jdk_42_m149_35 : decode jdk_42_method_149_code 35 = .ok (.iload_n 3, 1) := by decide +kernel
theorem own_d_jdk_42_m149_36 : decode jdk_42_method_149_code 36 = .ok (.invokestatic 177, 3) := by decide +kernel
theorem own_d_jdk_42_m149_39 : decode jdk_42_method_149_code 39 = .ok (.astore 5, 2) := by decide +kernel
theorem own_d_jdk_42_m149_41 : decode jdk_42_method_149_code 41 = .ok (.aload_n 0, 1) := by decide +kernel
theorem own_d_jdk_42_m149_42 : decode jdk_42_method_149_code 42 = .ok (.aload 5, 2) := by decide +kernel
theorem own_d_jdk_42_m149_44 : decode jdk_42_method_149_code 44 = .ok (.iload_n 3, 1) := by decide +kernel
theorem own_d_jdk_42_m149_45 : decode jdk_42_method_149_code 45 = .ok (.invokestatic 47, 3) := by decide +kernel
theorem own_pd161 : parseMethodDescriptor "([BI)B" = some ⟨[(.array .byte), .int], some .byte⟩ := by decide +kernel
theorem own_d_jdk_42_m149_48 : decode jdk_42_method_149_code 48 = .ok (.putfield 15, 3) := by decide +kernel
theorem own_d_jdk_42_m149_51 : decode jdk_42_method_149_code 51 = .ok (.aload_n 0, 1) := by decide +kernel
theorem own_d_jdk_42_m149_52 : decode jdk_42_method_149_code 52 = .ok (.aload 5, 2) := by decide +kernel
theorem own_d_jdk_42_m149_54 : decode jdk_42_method_149_code 54 = .ok (.putfield 9, 3) := by decide +kernel
theorem own_d_jdk_42_m149_57 : decode jdk_42_method_149_code 57 = .ok (.return_, 1) := by decide +kernel
set_option maxRecDepth 65536 in
set_option maxHeartbeats 40000000 in
theorem own_i4 (l : Launch) (Z : State) (a0 : Array Value) (hw : ∀ d ∈ tables_1, d.before a0 Z = true) (ws : List Jvm.Cond) (a1 : Addr) (a2 : Addr) (n : Nat) (f : Nat → Int32) (kc : ClassId) (w1 : Int32) (u1 u2 : Value) (h0 : Heap) (O0 : Old Z Z.heap.size h0) (hn1 : 1 ≤ n) (hn : n ≤ 3) (hf : ∀ j, j < n → 0 ≤ (f j).toInt ∧ (f j).toInt < 65536) (US : own_US Z) (S1 : Sta Z Z.heap "java/lang/String" "COMPACT_STRINGS" "Z" (.int w1)) (hw1 : ¬ (w1 = (0 : Int32))) (ga : Z.heap.size ≤ a1) (hne : a1 ≠ a2) (Ea : Exa Z h0 a1 "java/lang/String") (Fv : Fld Z h0 a1 "java/lang/String" "value" "[B" u1) (Fc : Fld Z h0 a1 "java/lang/String" "coder" "B" u2) (Vc : Arv Z h0 a2 kc .char (Int32.ofNat n) (own_vals f n) (.int (0 : Int32))) :
    own_Met l Z (⟨"java/lang/String", "<init>", "([CIILjava/lang/Void;)V"⟩ : MethodName) jdk_42_method_149_code 6 none ws ({ frames := 4, cells := 2, slots := 9, locals := 57 } : Room) #[(.ref a1), (.ref a2), (.int (Int32.ofNat 0)), (.int (Int32.ofNat n)), .null] h0 (fun v h L => v = none ∧ Fr Z.heap.size L ∧ Keep h0 h [a1] ∧ ∃ t kt, h0.size ≤ t ∧ own_Str Z h a1 t kt f n) (({ frames := 4, cells := 2, slots := 9, locals := 57 } : Room)).cells (({ frames := 4, cells := 2, slots := 9, locals := 57 } : Room)).slots := by
  refine own_body (ef := fun m => mkF m 0 #[.val (.ref a1), .val (.ref a2), .val (.int (Int32.ofNat 0)), .val (.int (Int32.ofNat n)), .val .null, .unset] []) (plainFor_of_name own_pn145) (fun m => by first | rfl | (simp [entryFrame, mkF, argsToLocals, Value.category]; done)) ?_
  intro p e s m below meth c T0 hx hZ hby hml hown hnm hret hlk X0 e0
  have N0 := Fr.nil Z.heap.size
  have z0 : Z.heap.size ≤ h0.size := O0.2.1
  have Kr := Keep.refl h0 [a1]
  show own_G _ _ _ _ (T0.setTop (mkF m 0 #[.val (.ref a1), .val (.ref a2), .val (.int (Int32.ofNat 0)), .val (.int (Int32.ofNat n)), .val .null, .unset] []))
  have ltc := own_ltN Vc.lt
  have lta := own_ltN Ea.lt
  refine own_st (fun _ k => XS.aloadN X0.here hx rfl (hb hby own_d_jdk_42_m149_0) rfl rfl k) ?_
  show own_G _ _ _ _ (T0.setTop (mkF m 1 #[.val (.ref a1), .val (.ref a2), .val (.int (Int32.ofNat 0)), .val (.int (Int32.ofNat n)), .val .null, .unset] [(.ref a1)]))
  obtain ⟨T1, X1, e1, st1⟩ := initO X0 hx hZ hown (hw _ (List.mem_of_getElem? (i := 29) rfl)) (hw _ (List.mem_of_getElem? (i := 30) rfl)) (hw _ (List.mem_of_getElem? (i := 31) rfl)) e0 (g := (mkF m 1 #[.val (.ref a1), .val (.ref a2), .val (.int (Int32.ofNat 0)), .val (.int (Int32.ofNat n)), .val .null, .unset] [(.ref a1)])) rfl (by rw [hml]; rfl) rfl (hb hby own_d_jdk_42_m149_1) (by decide) (W := 0) (by show 2 * 0 + _ ≤ _; exact Nat.le_of_eq rfl) (by decide)
  refine own_st st1 ?_
  show own_G _ _ _ _ (T1.setTop (mkF m 4 #[.val (.ref a1), .val (.ref a2), .val (.int (Int32.ofNat 0)), .val (.int (Int32.ofNat n)), .val .null, .unset] []))
  refine own_st (fun _ k => XS.iloadN X1.here hx rfl (hb hby own_d_jdk_42_m149_4) rfl k) ?_
  show own_G _ _ _ _ (T1.setTop (mkF m 5 #[.val (.ref a1), .val (.ref a2), .val (.int (Int32.ofNat 0)), .val (.int (Int32.ofNat n)), .val .null, .unset] [(.int (Int32.ofNat n))]))
  refine own_st (fun _ k => XS.ifYes X1.here hx rfl (pc0 := 5) (pc' := 27) rfl (hb hby own_d_jdk_42_m149_5) rfl ((if0 _ _).trans (feq (fun q => by have := congrArg Int32.toInt q; rw [own_nat (by omega), show (0 : Int32).toInt = 0 from rfl] at this; omega)).2) (by decide) (by decide) k) ?_
  show own_G _ _ _ _ (T1.setTop (mkF m 27 #[.val (.ref a1), .val (.ref a2), .val (.int (Int32.ofNat 0)), .val (.int (Int32.ofNat n)), .val .null, .unset] []))
  obtain ⟨T2, X2, e2, st2⟩ := getS2 X1 hx hZ hown (host := "") (Or.inl (hw _ (List.mem_of_getElem? (i := 32) rfl))) Via.refl e1 (Sta.ext O0.2 S1) (g := (mkF m 27 #[.val (.ref a1), .val (.ref a2), .val (.int (Int32.ofNat 0)), .val (.int (Int32.ofNat n)), .val .null, .unset] [])) rfl (hb hby own_d_jdk_42_m149_27)
  refine own_st st2 ?_
  show own_G _ _ _ _ (T2.setTop (mkF m 30 #[.val (.ref a1), .val (.ref a2), .val (.int (Int32.ofNat 0)), .val (.int (Int32.ofNat n)), .val .null, .unset] [(.int w1)]))
  refine own_st (fun _ k => XS.ifNo X2.here hx rfl (hb hby own_d_jdk_42_m149_30) rfl ((if0 _ _).trans (feq hw1).1) k) ?_
  show own_G _ _ _ _ (T2.setTop (mkF m 33 #[.val (.ref a1), .val (.ref a2), .val (.int (Int32.ofNat 0)), .val (.int (Int32.ofNat n)), .val .null, .unset] []))
  refine own_st (fun _ k => XS.aloadN X2.here hx rfl (hb hby own_d_jdk_42_m149_33) rfl rfl k) ?_
  show own_G _ _ _ _ (T2.setTop (mkF m 34 #[.val (.ref a1), .val (.ref a2), .val (.int (Int32.ofNat 0)), .val (.int (Int32.ofNat n)), .val .null, .unset] [(.ref a2)]))
  refine own_st (fun _ k => XS.iloadN X2.here hx rfl (hb hby own_d_jdk_42_m149_34) rfl k) ?_
  show own_G _ _ _ _ (T2.setTop (mkF m 35 #[.val (.ref a1), .val (.ref a2), .val (.int (Int32.ofNat 0)), .val (.int (Int32.ofNat n)), .val .null, .unset] [(.int (Int32.ofNat 0)), (.ref a2)]))
  refine own_st (fun _ k => XS.iloadN X2.here hx rfl (hb hby own_d_jdk_42_m149_35) rfl k) ?_
  show own_G _ _ _ _ (T2.setTop (mkF m 36 #[.val (.ref a1), .val (.ref a2), .val (.int (Int32.ofNat 0)), .val (.int (Int32.ofNat n)), .val .null, .unset] [(.int (Int32.ofNat n)), (.int (Int32.ofNat 0)), (.ref a2)]))
  obtain ⟨_, _, ⟨T3, L3, k3, n3⟩, -, X3, ⟨Lc3, hQ3, l3, y3, z3⟩, st3⟩ := Jvm.LawKit.callS X2 hx (y := (⟨"java/lang/StringUTF16", "compress", "([CII)[B"⟩ : MethodName)) hown (mvT hZ (hw _ (List.mem_of_getElem? (i := 33) rfl))) (mvT hZ (hw _ (List.mem_of_getElem? (i := 34) rfl))) (mvT hZ (hw _ (List.mem_of_getElem? (i := 35) rfl))) (mvT hZ (hw _ (List.mem_of_getElem? (i := 36) rfl))) (by decide) (own_back (rm := ({ frames := 3, cells := 2, slots := 9, locals := 40 } : Room)) (W := 0) (own_c3 l Z a0 hw [] a2 n f kc h0 O0 hn hf US Vc) hZ (hw _ (List.mem_of_getElem? (i := 36) rfl)) (hw _ (List.mem_of_getElem? (i := 35) rfl)) (by decide) (by decide)) (g := (mkF m 36 #[.val (.ref a1), .val (.ref a2), .val (.int (Int32.ofNat 0)), .val (.int (Int32.ofNat n)), .val .null, .unset] [(.int (Int32.ofNat n)), (.int (Int32.ofNat 0)), (.ref a2)])) rfl (by rw [hml]; rfl) (argsL := [(.ref a2), (.int (Int32.ofNat 0)), (.int (Int32.ofNat n))]) (rest := []) (lenOf own_pd135 rfl) rfl (by show 2 * 0 + _ ≤ _; exact Nat.le_of_eq rfl) (hb hby own_d_jdk_42_m149_36) (fun _ _ => ⟨rfl, e2, (by decide : 0 + 2 ≤ _), (by decide : 0 + 9 ≤ _)⟩)
  dsimp only [Pt.U, Pt.locs, Pt.cells, Pt.slots] at X3 l3 y3 z3 st3 hQ3
  subst l3 y3 z3
  obtain ⟨t, kt, rfl, N3q, K3_, gt, ltt, c3⟩ := hQ3
  have N3 := Fr.app N0 N3q
  refine own_st st3 ?_
  have z4 : h0.size ≤ T3.heap.size := K3_.1
  have O5 := Old.keep O0 K3_ all0
  have K6 : Keep h0 T3.heap [a1] := Kr.trans K3_ all0
  show own_G _ _ _ _ (T3.setTop (mkF m 39 #[.val (.ref a1), .val (.ref a2), .val (.int (Int32.ofNat 0)), .val (.int (Int32.ofNat n)), .val .null, .unset] [(.ref t)]))
  refine own_st (fun _ k => XS.astore X3.here hx rfl (hb hby own_d_jdk_42_m149_39) rfl rfl (l' := #[.val (.ref a1), .val (.ref a2), .val (.int (Int32.ofNat 0)), .val (.int (Int32.ofNat n)), .val .null, .val (.ref t)]) rfl k) ?_
  show own_G _ _ _ _ (T3.setTop (mkF m 41 #[.val (.ref a1), .val (.ref a2), .val (.int (Int32.ofNat 0)), .val (.int (Int32.ofNat n)), .val .null, .val (.ref t)] []))
  refine own_st (fun _ k => XS.aloadN X3.here hx rfl (hb hby own_d_jdk_42_m149_41) rfl rfl k) ?_
  show own_G _ _ _ _ (T3.setTop (mkF m 42 #[.val (.ref a1), .val (.ref a2), .val (.int (Int32.ofNat 0)), .val (.int (Int32.ofNat n)), .val .null, .val (.ref t)] [(.ref a1)]))
  refine own_st (fun _ k => XS.aload X3.here hx rfl (hb hby own_d_jdk_42_m149_42) rfl rfl k) ?_
  show own_G _ _ _ _ (T3.setTop (mkF m 44 #[.val (.ref a1), .val (.ref a2), .val (.int (Int32.ofNat 0)), .val (.int (Int32.ofNat n)), .val .null, .val (.ref t)] [(.ref t), (.ref a1)]))
  refine own_st (fun _ k => XS.iloadN X3.here hx rfl (hb hby own_d_jdk_42_m149_44) rfl k) ?_
  show own_G _ _ _ _ (T3.setTop (mkF m 45 #[.val (.ref a1), .val (.ref a2), .val (.int (Int32.ofNat 0)), .val (.int (Int32.ofNat n)), .val .null, .val (.ref t)] [(.int (Int32.ofNat n)), (.ref t), (.ref a1)]))
  rcases c3 with ⟨hall, Vt⟩ | Vt
  · skip
    obtain ⟨_, _, ⟨T7, L7, k7, n7⟩, -, X7, ⟨Lc7, hQ7, l7, y7, z7⟩, st7⟩ := Jvm.LawKit.callS X3 hx (y := (⟨"java/lang/StringUTF16", "coderFromArrayLen", "([BI)B"⟩ : MethodName)) hown (mvT hZ (hw _ (List.mem_of_getElem? (i := 60) rfl))) (mvT hZ (hw _ (List.mem_of_getElem? (i := 61) rfl))) (mvT hZ (hw _ (List.mem_of_getElem? (i := 35) rfl))) (mvT hZ (hw _ (List.mem_of_getElem? (i := 62) rfl))) (by decide) (own_back (rm := ({ frames := 0, cells := 0, slots := 0, locals := 0 } : Room)) (W := 1) (own_cod l Z a0 hw [] t n (Int32.ofNat n) (0 : Int32) (own_vals (fun j => own_lo (f j)) n) kt T3.heap O5 Vt (by rw [Int32.sub_self]; rfl)) hZ (hw _ (List.mem_of_getElem? (i := 62) rfl)) (hw _ (List.mem_of_getElem? (i := 35) rfl)) (by decide) (by decide)) (g := (mkF m 45 #[.val (.ref a1), .val (.ref a2), .val (.int (Int32.ofNat 0)), .val (.int (Int32.ofNat n)), .val .null, .val (.ref t)] [(.int (Int32.ofNat n)), (.ref t), (.ref a1)])) rfl (by rw [hml]; rfl) (argsL := [(.ref t), (.int (Int32.ofNat n))]) (rest := [(.ref a1)]) (lenOf own_pd161 rfl) rfl (by show 2 * 0 + _ ≤ _; exact Nat.le_of_eq rfl) (hb hby own_d_jdk_42_m149_45) (fun _ _ => ⟨rfl, rfl, (by decide : 0 + 2 + 0 ≤ _), (by decide : 0 + 9 + 0 ≤ _)⟩)
    dsimp only [Pt.U, Pt.locs, Pt.cells, Pt.slots] at X7 l7 y7 z7 st7 hQ7
    subst l7 y7 z7
    obtain ⟨rfl, N7q, eh7⟩ := hQ7
    have N7 := Fr.app N3 N7q
    refine own_st st7 ?_
    show own_G _ _ _ _ (T7.setTop (mkF m 48 #[.val (.ref a1), .val (.ref a2), .val (.int (Int32.ofNat 0)), .val (.int (Int32.ofNat n)), .val .null, .val (.ref t)] [(.int (0 : Int32)), (.ref a1)]))
    have q8 : Exa Z T3.heap a1 "java/lang/String" := (Ea.keep K3_)
    have q9 : Fld Z T3.heap a1 "java/lang/String" "coder" "B" u2 := (Fc.keep K3_ nin0)
    obtain ⟨T10, h10, X10, e10, W10, st10⟩ := putFN X7 hx hZ hown (hw _ (List.mem_of_getElem? (i := 63) rfl)) Via.refl eh7 q9 q8 (Or.inr ⟨(hw _ (List.mem_of_getElem? (i := 64) rfl)), rfl, hnm⟩) (hw _ (List.mem_of_getElem? (i := 20) rfl)) (ty := .byte) (v' := (.int (nar .byte (0 : Int32)))) (by decide) rfl (fits_nar_byte _) (g := (mkF m 48 #[.val (.ref a1), .val (.ref a2), .val (.int (Int32.ofNat 0)), .val (.int (Int32.ofNat n)), .val .null, .val (.ref t)] [(.int (0 : Int32)), (.ref a1)])) rfl rfl (hb hby own_d_jdk_42_m149_48)
    refine own_st st10 ?_
    have z11 : h10.size = T3.heap.size := W10.size
    have O12 := Old.wr O5 W10 (by omega)
    have K13 : Keep h0 h10 [a1] := K6.wr W10 (Or.inl (by simp))
    have N10 := Fr.snoc X10 N7 (by omega : Z.heap.size ≤ a1)
    have F10 := q9.same W10
    show own_G _ _ _ _ (T10.setTop (mkF m 51 #[.val (.ref a1), .val (.ref a2), .val (.int (Int32.ofNat 0)), .val (.int (Int32.ofNat n)), .val .null, .val (.ref t)] []))
    refine own_st (fun _ k => XS.aloadN X10.here hx rfl (hb hby own_d_jdk_42_m149_51) rfl rfl k) ?_
    show own_G _ _ _ _ (T10.setTop (mkF m 52 #[.val (.ref a1), .val (.ref a2), .val (.int (Int32.ofNat 0)), .val (.int (Int32.ofNat n)), .val .null, .val (.ref t)] [(.ref a1)]))
    refine own_st (fun _ k => XS.aload X10.here hx rfl (hb hby own_d_jdk_42_m149_52) rfl rfl k) ?_
    show own_G _ _ _ _ (T10.setTop (mkF m 54 #[.val (.ref a1), .val (.ref a2), .val (.int (Int32.ofNat 0)), .val (.int (Int32.ofNat n)), .val .null, .val (.ref t)] [(.ref t), (.ref a1)]))
    have q14 : Exa Z h10 a1 "java/lang/String" := (q8.wr W10)
    have q15 : Fld Z h10 a1 "java/lang/String" "value" "[B" u1 := ((Fv.keep K3_ nin0).other W10 (Or.inr (slot_ne (Or.inr (hw _ (List.mem_of_getElem? (i := 66) rfl))) (Or.inr (hw _ (List.mem_of_getElem? (i := 64) rfl))) (by decide) (t := (.array .byte)) (t' := .byte) (by decide) (by decide))))
    obtain ⟨T16, h16, X16, e16, W16, st16⟩ := putF X10 hx hZ hown (host := "") (Or.inl (hw _ (List.mem_of_getElem? (i := 65) rfl))) Via.refl e10 q15 q14 (Or.inr ⟨(hw _ (List.mem_of_getElem? (i := 66) rfl)), rfl, hnm⟩) (hw _ (List.mem_of_getElem? (i := 20) rfl)) (ty := (.array .byte)) (by decide) rfl rfl (g := (mkF m 54 #[.val (.ref a1), .val (.ref a2), .val (.int (Int32.ofNat 0)), .val (.int (Int32.ofNat n)), .val .null, .val (.ref t)] [(.ref t), (.ref a1)])) rfl rfl (hb hby own_d_jdk_42_m149_54)
    refine own_st st16 ?_
    have z17 : h16.size = h10.size := W16.size
    have O18 := Old.wr O12 W16 (by omega)
    have K19 : Keep h0 h16 [a1] := K13.wr W16 (Or.inl (by simp))
    have N16 := Fr.snoc X16 N10 (by omega : Z.heap.size ≤ a1)
    have F16 := q15.same W16
    show own_G _ _ _ _ (T16.setTop (mkF m 57 #[.val (.ref a1), .val (.ref a2), .val (.int (Int32.ofNat 0)), .val (.int (Int32.ofNat n)), .val .null, .val (.ref t)] []))
    have q20 : Exa Z h16 a1 "java/lang/String" := (q14.wr W16)
    have q21 : Fld Z h16 a1 "java/lang/String" "coder" "B" (.int (nar .byte (0 : Int32))) := (F10.other W16 (Or.inr (slot_ne (Or.inr (hw _ (List.mem_of_getElem? (i := 64) rfl))) (Or.inr (hw _ (List.mem_of_getElem? (i := 66) rfl))) (by decide) (t := .byte) (t' := (.array .byte)) (by decide) (by decide))))
    have q22 : Arv Z h16 t kt .byte (Int32.ofNat n) (own_vals (fun j => own_lo (f j)) n) (.int (0 : Int32)) := ((Vt.other W10 (show @Ne Nat t a1 by omega)).other W16 (show @Ne Nat t a1 by omega))
    exact own_ret0 X16 hx hret hlk (hb hby own_d_jdk_42_m149_57) (by rw [e16]; exact ⟨rfl, N16, K19, t, kt, by omega, ⟨q20, (0 : Int32), q21, F16, Or.inl ⟨rfl, hall, q22⟩⟩⟩) (by decide) (by decide)
  · skip
    obtain ⟨_, _, ⟨T23, L23, k23, n23⟩, -, X23, ⟨Lc23, hQ23, l23, y23, z23⟩, st23⟩ := Jvm.LawKit.callS X3 hx (y := (⟨"java/lang/StringUTF16", "coderFromArrayLen", "([BI)B"⟩ : MethodName)) hown (mvT hZ (hw _ (List.mem_of_getElem? (i := 60) rfl))) (mvT hZ (hw _ (List.mem_of_getElem? (i := 61) rfl))) (mvT hZ (hw _ (List.mem_of_getElem? (i := 35) rfl))) (mvT hZ (hw _ (List.mem_of_getElem? (i := 62) rfl))) (by decide) (own_back (rm := ({ frames := 0, cells := 0, slots := 0, locals := 0 } : Room)) (W := 1) (own_cod l Z a0 hw [] t n (Int32.ofNat (2 * n)) (1 : Int32) (own_vals (own_wide f) (2 * n)) kt T3.heap O5 Vt (own_cd hn1 hn)) hZ (hw _ (List.mem_of_getElem? (i := 62) rfl)) (hw _ (List.mem_of_getElem? (i := 35) rfl)) (by decide) (by decide)) (g := (mkF m 45 #[.val (.ref a1), .val (.ref a2), .val (.int (Int32.ofNat 0)), .val (.int (Int32.ofNat n)), .val .null, .val (.ref t)] [(.int (Int32.ofNat n)), (.ref t), (.ref a1)])) rfl (by rw [hml]; rfl) (argsL := [(.ref t), (.int (Int32.ofNat n))]) (rest := [(.ref a1)]) (lenOf own_pd161 rfl) rfl (by show 2 * 0 + _ ≤ _; exact Nat.le_of_eq rfl) (hb hby own_d_jdk_42_m149_45) (fun _ _ => ⟨rfl, rfl, (by decide : 0 + 2 + 0 ≤ _), (by decide : 0 + 9 + 0 ≤ _)⟩)
    dsimp only [Pt.U, Pt.locs, Pt.cells, Pt.slots] at X23 l23 y23 z23 st23 hQ23
    subst l23 y23 z23
    obtain ⟨rfl, N23q, eh23⟩ := hQ23
    have N23 := Fr.app N3 N23q
    refine own_st st23 ?_
    show own_G _ _ _ _ (T23.setTop (mkF m 48 #[.val (.ref a1), .val (.ref a2), .val (.int (Int32.ofNat 0)), .val (.int (Int32.ofNat n)), .val .null, .val (.ref t)] [(.int (1 : Int32)), (.ref a1)]))
    have q24 : Exa Z T3.heap a1 "java/lang/String" := (Ea.keep K3_)
    have q25 : Fld Z T3.heap a1 "java/lang/String" "coder" "B" u2 := (Fc.keep K3_ nin0)
    obtain ⟨T26, h26, X26, e26, W26, st26⟩ := putFN X23 hx hZ hown (hw _ (List.mem_of_getElem? (i := 63) rfl)) Via.refl eh23 q25 q24 (Or.inr ⟨(hw _ (List.mem_of_getElem? (i := 64) rfl)), rfl, hnm⟩) (hw _ (List.mem_of_getElem? (i := 20) rfl)) (ty := .byte) (v' := (.int (nar .byte (1 : Int32)))) (by decide) rfl (fits_nar_byte _) (g := (mkF m 48 #[.val (.ref a1), .val (.ref a2), .val (.int (Int32.ofNat 0)), .val (.int (Int32.ofNat n)), .val .null, .val (.ref t)] [(.int (1 : Int32)), (.ref a1)])) rfl rfl (hb hby own_d_jdk_42_m149_48)
    refine own_st st26 ?_
    have z27 : h26.size = T3.heap.size := W26.size
    have O28 := Old.wr O5 W26 (by omega)
    have K29 : Keep h0 h26 [a1] := K6.wr W26 (Or.inl (by simp))
    have N26 := Fr.snoc X26 N23 (by omega : Z.heap.size ≤ a1)
    have F26 := q25.same W26
    show own_G _ _ _ _ (T26.setTop (mkF m 51 #[.val (.ref a1), .val (.ref a2), .val (.int (Int32.ofNat 0)), .val (.int (Int32.ofNat n)), .val .null, .val (.ref t)] []))
    refine own_st (fun _ k => XS.aloadN X26.here hx rfl (hb hby own_d_jdk_42_m149_51) rfl rfl k) ?_
    show own_G _ _ _ _ (T26.setTop (mkF m 52 #[.val (.ref a1), .val (.ref a2), .val (.int (Int32.ofNat 0)), .val (.int (Int32.ofNat n)), .val .null, .val (.ref t)] [(.ref a1)]))
    refine own_st (fun _ k => XS.aload X26.here hx rfl (hb hby own_d_jdk_42_m149_52) rfl rfl k) ?_
    show own_G _ _ _ _ (T26.setTop (mkF m 54 #[.val (.ref a1), .val (.ref a2), .val (.int (Int32.ofNat 0)), .val (.int (Int32.ofNat n)), .val .null, .val (.ref t)] [(.ref t), (.ref a1)]))
    have q30 : Exa Z h26 a1 "java/lang/String" := (q24.wr W26)
    have q31 : Fld Z h26 a1 "java/lang/String" "value" "[B" u1 := ((Fv.keep K3_ nin0).other W26 (Or.inr (slot_ne (Or.inr (hw _ (List.mem_of_getElem? (i := 66) rfl))) (Or.inr (hw _ (List.mem_of_getElem? (i := 64) rfl))) (by decide) (t := (.array .byte)) (t' := .byte) (by decide) (by decide))))
    obtain ⟨T32, h32, X32, e32, W32, st32⟩ := putF X26 hx hZ hown (host := "") (Or.inl (hw _ (List.mem_of_getElem? (i := 65) rfl))) Via.refl e26 q31 q30 (Or.inr ⟨(hw _ (List.mem_of_getElem? (i := 66) rfl)), rfl, hnm⟩) (hw _ (List.mem_of_getElem? (i := 20) rfl)) (ty := (.array .byte)) (by decide) rfl rfl (g := (mkF m 54 #[.val (.ref a1), .val (.ref a2), .val (.int (Int32.ofNat 0)), .val (.int (Int32.ofNat n)), .val .null, .val (.ref t)] [(.ref t), (.ref a1)])) rfl rfl (hb hby own_d_jdk_42_m149_54)
    refine own_st st32 ?_
    have z33 : h32.size = h26.size := W32.size
    have O34 := Old.wr O28 W32 (by omega)
    have K35 : Keep h0 h32 [a1] := K29.wr W32 (Or.inl (by simp))
    have N32 := Fr.snoc X32 N26 (by omega : Z.heap.size ≤ a1)
    have F32 := q31.same W32
    show own_G _ _ _ _ (T32.setTop (mkF m 57 #[.val (.ref a1), .val (.ref a2), .val (.int (Int32.ofNat 0)), .val (.int (Int32.ofNat n)), .val .null, .val (.ref t)] []))
    have q36 : Exa Z h32 a1 "java/lang/String" := (q30.wr W32)
    have q37 : Fld Z h32 a1 "java/lang/String" "coder" "B" (.int (nar .byte (1 : Int32))) := (F26.other W32 (Or.inr (slot_ne (Or.inr (hw _ (List.mem_of_getElem? (i := 64) rfl))) (Or.inr (hw _ (List.mem_of_getElem? (i := 66) rfl))) (by decide) (t := .byte) (t' := (.array .byte)) (by decide) (by decide))))
    have q38 : Arv Z h32 t kt .byte (Int32.ofNat (2 * n)) (own_vals (own_wide f) (2 * n)) (.int (0 : Int32)) := ((Vt.other W26 (show @Ne Nat t a1 by omega)).other W32 (show @Ne Nat t a1 by omega))
    exact own_ret0 X32 hx hret hlk (hb hby own_d_jdk_42_m149_57) (by rw [e32]; exact ⟨rfl, N32, K35, t, kt, by omega, ⟨q36, (1 : Int32), q37, F32, Or.inr ⟨rfl, q38⟩⟩⟩) (by decide) (by decide)
theorem own_d_jdk_42_m3_0 : decode jdk_42_method_3_code 0 = .ok (.aload_n 0, 1) := by decide +kernel
theorem own_d_jdk_42_m3_1 : decode jdk_42_method_3_code 1 = .ok (.aload_n 1, 1) := by decide +kernel
theorem own_d_jdk_42_m3_2 : decode jdk_42_method_3_code 2 = .ok (.iconst 0, 1) := by decide +kernel
theorem own_d_jdk_42_m3_3 : decode jdk_42_method_3_code 3 = .ok (.aload_n 1, 1) := by decide +kernel
theorem own_d_jdk_42_m3_4 : decode jdk_42_method_3_code 4 = .ok (.arraylength, 1) := by decide +kernel
theorem own_d_jdk_42_m3_5 : decode jdk_42_method_3_code 5 = .ok (.aconst_null, 1) := by decide +kernel
theorem own_d_jdk_42_m3_6 : decode jdk_42_method_3_code 6 = .ok (.invokespecial 27, 3) := by decide +kernel
theorem own_pd174 : parseMethodDescriptor "([CIILjava/lang/Void;)V" = some ⟨[(.array .char), .int, .int, (.object "java/lang/Void")], none⟩ := by decide +kernel
theorem own_d_jdk_42_m3_9 : decode jdk_42_method_3_code 9 = .ok (.return_, 1) := by decide +kernel
set_option maxRecDepth 65536 in
set_option maxHeartbeats 40000000 in
theorem own_newS (l : Launch) (Z : State) (a0 : Array Value) (hw : ∀ d ∈ tables_1, d.before a0 Z = true) (ws : List Jvm.Cond) (a1 : Addr) (a2 : Addr) (n : Nat) (f : Nat → Int32) (kc : ClassId) (w1 : Int32) (u1 u2 : Value) (h0 : Heap) (O0 : Old Z Z.heap.size h0) (hn1 : 1 ≤ n) (hn : n ≤ 3) (hf : ∀ j, j < n → 0 ≤ (f j).toInt ∧ (f j).toInt < 65536) (US : own_US Z) (S1 : Sta Z Z.heap "java/lang/String" "COMPACT_STRINGS" "Z" (.int w1)) (hw1 : ¬ (w1 = (0 : Int32))) (ga : Z.heap.size ≤ a1) (hne : a1 ≠ a2) (Ea : Exa Z h0 a1 "java/lang/String") (Fv : Fld Z h0 a1 "java/lang/String" "value" "[B" u1) (Fc : Fld Z h0 a1 "java/lang/String" "coder" "B" u2) (Vc : Arv Z h0 a2 kc .char (Int32.ofNat n) (own_vals f n) (.int (0 : Int32))) :
    own_Met l Z (⟨"java/lang/String", "<init>", "([C)V"⟩ : MethodName) jdk_42_method_3_code 2 none ws ({ frames := 5, cells := 2, slots := 9, locals := 74 } : Room) #[(.ref a1), (.ref a2)] h0 (fun v h L => v = none ∧ Fr Z.heap.size L ∧ Keep h0 h [a1] ∧ ∃ t kt, h0.size ≤ t ∧ own_Str Z h a1 t kt f n) (({ frames := 5, cells := 2, slots := 9, locals := 74 } : Room)).cells (({ frames := 5, cells := 2, slots := 9, locals := 74 } : Room)).slots := by
  refine own_body (ef := fun m => mkF m 0 #[.val (.ref a1), .val (.ref a2)] []) (plainFor_of_name own_pn145) (fun m => by first | rfl | (simp [entryFrame, mkF, argsToLocals, Value.category]; done)) ?_
  intro p e s m below meth c T0 hx hZ hby hml hown hnm hret hlk X0 e0
  have N0 := Fr.nil Z.heap.size
  have z0 : Z.heap.size ≤ h0.size := O0.2.1
  have Kr := Keep.refl h0 [a1]
  show own_G _ _ _ _ (T0.setTop (mkF m 0 #[.val (.ref a1), .val (.ref a2)] []))
  have lta := own_ltN Ea.lt
  refine own_st (fun _ k => XS.aloadN X0.here hx rfl (hb hby own_d_jdk_42_m3_0) rfl rfl k) ?_
  show own_G _ _ _ _ (T0.setTop (mkF m 1 #[.val (.ref a1), .val (.ref a2)] [(.ref a1)]))
  refine own_st (fun _ k => XS.aloadN X0.here hx rfl (hb hby own_d_jdk_42_m3_1) rfl rfl k) ?_
  show own_G _ _ _ _ (T0.setTop (mkF m 2 #[.val (.ref a1), .val (.ref a2)] [(.ref a2), (.ref a1)]))
  refine own_st (fun _ k => XS.iconst X0.here hx rfl (hb hby own_d_jdk_42_m3_2) k) ?_
  show own_G _ _ _ _ (T0.setTop (mkF m 3 #[.val (.ref a1), .val (.ref a2)] [(.int (0 : Int32)), (.ref a2), (.ref a1)]))
  refine own_st (fun _ k => XS.aloadN X0.here hx rfl (hb hby own_d_jdk_42_m3_3) rfl rfl k) ?_
  show own_G _ _ _ _ (T0.setTop (mkF m 4 #[.val (.ref a1), .val (.ref a2)] [(.ref a2), (.int (0 : Int32)), (.ref a2), (.ref a1)]))
  obtain ⟨cl1, Ar1, qk1, Sz1, Mz1, Hz1, Uz1⟩ := id Vc
  refine own_st (X0.arraylength hx (by rw [e0]; exact Ar1.1) (State.isArrayOf_alike hZ.alike Ar1.2.1) (g := (mkF m 4 #[.val (.ref a1), .val (.ref a2)] [(.ref a2), (.int (0 : Int32)), (.ref a2), (.ref a1)])) rfl rfl (hb hby own_d_jdk_42_m3_4)) ?_
  rw [len_of Sz1 Mz1]
  show own_G _ _ _ _ (T0.setTop (mkF m 5 #[.val (.ref a1), .val (.ref a2)] [(.int (Int32.ofNat n)), (.int (0 : Int32)), (.ref a2), (.ref a1)]))
  refine own_st (fun _ k => XS.aconstNull X0.here hx rfl (hb hby own_d_jdk_42_m3_5) k) ?_
  show own_G _ _ _ _ (T0.setTop (mkF m 6 #[.val (.ref a1), .val (.ref a2)] [.null, (.int (Int32.ofNat n)), (.int (0 : Int32)), (.ref a2), (.ref a1)]))
  obtain ⟨_, _, ⟨T2, L2, k2, n2⟩, -, X2, ⟨Lc2, hQ2, l2, y2, z2⟩, st2⟩ := X0.specialBack hx (y := (⟨"java/lang/String", "<init>", "([CIILjava/lang/Void;)V"⟩ : MethodName)) rfl hown (mvT hZ (hw _ (List.mem_of_getElem? (i := 25) rfl))) (mvT hZ (hw _ (List.mem_of_getElem? (i := 26) rfl))) (mvT hZ (hw _ (List.mem_of_getElem? (i := 28) rfl))) (by decide) (own_back (rm := ({ frames := 4, cells := 2, slots := 9, locals := 57 } : Room)) (W := 0) (own_i4 l Z a0 hw [] a1 a2 n f kc w1 u1 u2 h0 O0 hn1 hn hf US S1 hw1 ga hne Ea Fv Fc Vc) hZ (hw _ (List.mem_of_getElem? (i := 28) rfl)) (hw _ (List.mem_of_getElem? (i := 21) rfl)) (by decide) (by decide)) (g := (mkF m 6 #[.val (.ref a1), .val (.ref a2)] [.null, (.int (Int32.ofNat n)), (.int (0 : Int32)), (.ref a2), (.ref a1)])) rfl (by rw [hml]; rfl) (Steps.refl _) (a := a1) (argsL := [(.ref a2), (.int (0 : Int32)), (.int (Int32.ofNat n)), .null]) (rest := []) (lenOf own_pd174 rfl) rfl (by show 2 * 0 + _ ≤ _; exact Nat.le_of_eq rfl) (hb hby own_d_jdk_42_m3_6) (fun _ _ => ⟨rfl, e0, (by decide : 0 + 2 ≤ _), (by decide : 0 + 9 ≤ _)⟩)
  dsimp only [Pt.U, Pt.locs, Pt.cells, Pt.slots] at X2 l2 y2 z2 st2 hQ2
  subst l2 y2 z2
  obtain ⟨rfl, N2q, K2_, Q2⟩ := hQ2
  have N2 := Fr.app N0 N2q
  refine own_tr st2 ?_
  have z3 : h0.size ≤ T2.heap.size := K2_.1
  have O4 := Old.keep O0 K2_ (allS (by omega) all0)
  have K5 : Keep h0 T2.heap [a1] := Kr.trans K2_ (allS (Or.inl (by simp)) all0)
  show own_G _ _ _ _ (T2.setTop (mkF m 9 #[.val (.ref a1), .val (.ref a2)] []))
  exact own_ret0 X2 hx hret hlk (hb hby own_d_jdk_42_m3_9) ⟨rfl, N2, K5, Q2⟩ (by decide) (by decide)
theorem own_d_jdk_42_m55_0 : decode jdk_42_method_55_code 0 = .ok (.aload_n 0, 1) := by decide +kernel
theorem own_d_jdk_42_m55_1 : decode jdk_42_method_55_code 1 = .ok (.getfield 9, 3) := by decide +kernel
theorem own_d_jdk_42_m55_4 : decode jdk_42_method_55_code 4 = .ok (.arraylength, 1) := by decide +kernel
theorem own_d_jdk_42_m55_5 : decode jdk_42_method_55_code 5 = .ok (.ifCond .ne 7, 3) := by decide +kernel
theorem own_d_jdk_42_m55_12 : decode jdk_42_method_55_code 12 = .ok (.iconst 0, 1) := by decide +kernel
theorem own_d_jdk_42_m55_13 : decode jdk_42_method_55_code 13 = .ok (.ireturn, 1) := by decide +kernel
set_option maxRecDepth 65536 in
set_option maxHeartbeats 40000000 in
theorem own_isEmpty (l : Launch) (Z : State) (a0 : Array Value) (hw : ∀ d ∈ tables_1, d.before a0 Z = true) (ws : List Jvm.Cond) (a1 : Addr) (t : Addr) (kt : ClassId) (n : Nat) (f : Nat → Int32) (h0 : Heap) (O0 : Old Z Z.heap.size h0) (hn1 : 1 ≤ n) (hn : n ≤ 3) (Hs : own_Str Z h0 a1 t kt f n) :
    own_Met l Z (⟨"java/lang/String", "isEmpty", "()Z"⟩ : MethodName) jdk_42_method_55_code 1 (some .boolean) ws ({ frames := 0, cells := 0, slots := 0, locals := 0 } : Room) #[(.ref a1)] h0 (fun v h L => v = some (.int 0) ∧ Fr Z.heap.size L ∧ h = h0) (({ frames := 0, cells := 0, slots := 0, locals := 0 } : Room)).cells (({ frames := 0, cells := 0, slots := 0, locals := 0 } : Room)).slots := by
  refine own_body (ef := fun m => mkF m 0 #[.val (.ref a1)] []) (plainFor_of_name own_pn145) (fun m => by first | rfl | (simp [entryFrame, mkF, argsToLocals, Value.category]; done)) ?_
  intro p e s m below meth c T0 hx hZ hby hml hown hnm hret hlk X0 e0
  have N0 := Fr.nil Z.heap.size
  have z0 : Z.heap.size ≤ h0.size := O0.2.1
  have Kr := Keep.refl h0 []
  show own_G _ _ _ _ (T0.setTop (mkF m 0 #[.val (.ref a1)] []))
  obtain ⟨Ea, cd, Fc, Fv, c0⟩ := Hs
  rcases c0 with ⟨-, -, Vt⟩ | ⟨-, Vt⟩
  · skip
    refine own_st (fun _ k => XS.aloadN X0.here hx rfl (hb hby own_d_jdk_42_m55_0) rfl rfl k) ?_
    show own_G _ _ _ _ (T0.setTop (mkF m 1 #[.val (.ref a1)] [(.ref a1)]))
    obtain ⟨T1, X1, e1, st1⟩ := getF X0 hx hZ hown (host := "") (Or.inl (hw _ (List.mem_of_getElem? (i := 65) rfl))) Via.refl e0 Fv (g := (mkF m 1 #[.val (.ref a1)] [(.ref a1)])) rfl rfl (hb hby own_d_jdk_42_m55_1)
    refine own_st st1 ?_
    show own_G _ _ _ _ (T1.setTop (mkF m 4 #[.val (.ref a1)] [(.ref t)]))
    obtain ⟨cl2, Ar2, qk2, Sz2, Mz2, Hz2, Uz2⟩ := id Vt
    refine own_st (X1.arraylength hx (by rw [e1]; exact Ar2.1) (State.isArrayOf_alike hZ.alike Ar2.2.1) (g := (mkF m 4 #[.val (.ref a1)] [(.ref t)])) rfl rfl (hb hby own_d_jdk_42_m55_4)) ?_
    rw [len_of Sz2 Mz2]
    show own_G _ _ _ _ (T1.setTop (mkF m 5 #[.val (.ref a1)] [(.int (Int32.ofNat n))]))
    refine own_st (fun _ k => XS.ifYes X1.here hx rfl (pc0 := 5) (pc' := 12) rfl (hb hby own_d_jdk_42_m55_5) rfl ((if0 _ _).trans (feq (fun q => by have := congrArg Int32.toInt q; rw [own_nat (by omega), show (0 : Int32).toInt = 0 from rfl] at this; omega)).2) (by decide) (by decide) k) ?_
    show own_G _ _ _ _ (T1.setTop (mkF m 12 #[.val (.ref a1)] []))
    refine own_st (fun _ k => XS.iconst X1.here hx rfl (hb hby own_d_jdk_42_m55_12) k) ?_
    show own_G _ _ _ _ (T1.setTop (mkF m 13 #[.val (.ref a1)] [(.int (0 : Int32))]))
    exact own_retN X1 hx hret hlk (by simp) (hb hby own_d_jdk_42_m55_13) (by rw [e1]; exact ⟨rfl, N0, rfl⟩) (by decide) (by decide)
  · skip
    refine own_st (fun _ k => XS.aloadN X0.here hx rfl (hb hby own_d_jdk_42_m55_0) rfl rfl k) ?_
    show own_G _ _ _ _ (T0.setTop (mkF m 1 #[.val (.ref a1)] [(.ref a1)]))
    obtain ⟨T3, X3, e3, st3⟩ := getF X0 hx hZ hown (host := "") (Or.inl (hw _ (List.mem_of_getElem? (i := 65) rfl))) Via.refl e0 Fv (g := (mkF m 1 #[.val (.ref a1)] [(.ref a1)])) rfl rfl (hb hby own_d_jdk_42_m55_1)
    refine own_st st3 ?_
    show own_G _ _ _ _ (T3.setTop (mkF m 4 #[.val (.ref a1)] [(.ref t)]))
    obtain ⟨cl4, Ar4, qk4, Sz4, Mz4, Hz4, Uz4⟩ := id Vt
    refine own_st (X3.arraylength hx (by rw [e3]; exact Ar4.1) (State.isArrayOf_alike hZ.alike Ar4.2.1) (g := (mkF m 4 #[.val (.ref a1)] [(.ref t)])) rfl rfl (hb hby own_d_jdk_42_m55_4)) ?_
    rw [len_of Sz4 Mz4]
    show own_G _ _ _ _ (T3.setTop (mkF m 5 #[.val (.ref a1)] [(.int (Int32.ofNat (2 * n)))]))
    refine own_st (fun _ k => XS.ifYes X3.here hx rfl (pc0 := 5) (pc' := 12) rfl (hb hby own_d_jdk_42_m55_5) rfl ((if0 _ _).trans (feq (fun q => by have := congrArg Int32.toInt q; rw [own_nat (by omega), show (0 : Int32).toInt = 0 from rfl] at this; omega)).2) (by decide) (by decide) k) ?_
    show own_G _ _ _ _ (T3.setTop (mkF m 12 #[.val (.ref a1)] []))
    refine own_st (fun _ k => XS.iconst X3.here hx rfl (hb hby own_d_jdk_42_m55_12) k) ?_
    show own_G _ _ _ _ (T3.setTop (mkF m 13 #[.val (.ref a1)] [(.int (0 : Int32))]))
    exact own_retN X3 hx hret hlk (by simp) (hb hby own_d_jdk_42_m55_13) (by rw [e3]; exact ⟨rfl, N0, rfl⟩) (by decide) (by decide)
theorem own_d_jdk_42_m152_0 : decode jdk_42_method_152_code 0 = .ok (.getstatic 38, 3) := by decide +kernel
theorem own_d_jdk_42_m152_3 : decode jdk_42_method_152_code 3 = .ok (.ifCond .eq 10, 3) := by decide +kernel
theorem own_d_jdk_42_m152_6 : decode jdk_42_method_152_code 6 = .ok (.aload_n 0, 1) := by decide +kernel
theorem own_d_jdk_42_m152_7 : decode jdk_42_method_152_code 7 = .ok (.getfield 15, 3) := by decide +kernel
theorem own_d_jdk_42_m152_10 : decode jdk_42_method_152_code 10 = .ok (.goto 4, 3) := by decide +kernel
theorem own_d_jdk_42_m152_14 : decode jdk_42_method_152_code 14 = .ok (.ireturn, 1) := by decide +kernel
set_option maxRecDepth 65536 in
set_option maxHeartbeats 40000000 in
theorem own_coder (l : Launch) (Z : State) (a0 : Array Value) (hw : ∀ d ∈ tables_1, d.before a0 Z = true) (ws : List Jvm.Cond) (a1 : Addr) (cd w1 : Int32) (h0 : Heap) (O0 : Old Z Z.heap.size h0) (S1 : Sta Z Z.heap "java/lang/String" "COMPACT_STRINGS" "Z" (.int w1)) (hw1 : ¬ (w1 = (0 : Int32))) (Fc : Fld Z h0 a1 "java/lang/String" "coder" "B" (.int cd)) (hcd : nar .byte cd = cd) :
    own_Met l Z (⟨"java/lang/String", "coder", "()B"⟩ : MethodName) jdk_42_method_152_code 1 (some .byte) ws ({ frames := 0, cells := 0, slots := 0, locals := 0 } : Room) #[(.ref a1)] h0 (fun v h L => v = some (.int cd) ∧ Fr Z.heap.size L ∧ h = h0) (({ frames := 0, cells := 0, slots := 0, locals := 0 } : Room)).cells (({ frames := 0, cells := 0, slots := 0, locals := 0 } : Room)).slots := by
  refine own_body (ef := fun m => mkF m 0 #[.val (.ref a1)] []) (plainFor_of_name own_pn145) (fun m => by first | rfl | (simp [entryFrame, mkF, argsToLocals, Value.category]; done)) ?_
  intro p e s m below meth c T0 hx hZ hby hml hown hnm hret hlk X0 e0
  have N0 := Fr.nil Z.heap.size
  have z0 : Z.heap.size ≤ h0.size := O0.2.1
  have Kr := Keep.refl h0 []
  show own_G _ _ _ _ (T0.setTop (mkF m 0 #[.val (.ref a1)] []))
  obtain ⟨T1, X1, e1, st1⟩ := getS2 X0 hx hZ hown (host := "") (Or.inl (hw _ (List.mem_of_getElem? (i := 32) rfl))) Via.refl e0 (Sta.ext O0.2 S1) (g := (mkF m 0 #[.val (.ref a1)] [])) rfl (hb hby own_d_jdk_42_m152_0)
  refine own_st st1 ?_
  show own_G _ _ _ _ (T1.setTop (mkF m 3 #[.val (.ref a1)] [(.int w1)]))
  refine own_st (fun _ k => XS.ifNo X1.here hx rfl (hb hby own_d_jdk_42_m152_3) rfl ((if0 _ _).trans (feq hw1).1) k) ?_
  show own_G _ _ _ _ (T1.setTop (mkF m 6 #[.val (.ref a1)] []))
  refine own_st (fun _ k => XS.aloadN X1.here hx rfl (hb hby own_d_jdk_42_m152_6) rfl rfl k) ?_
  show own_G _ _ _ _ (T1.setTop (mkF m 7 #[.val (.ref a1)] [(.ref a1)]))
  obtain ⟨T2, X2, e2, st2⟩ := getF X1 hx hZ hown (host := "") (Or.inl (hw _ (List.mem_of_getElem? (i := 63) rfl))) Via.refl e1 Fc (g := (mkF m 7 #[.val (.ref a1)] [(.ref a1)])) rfl rfl (hb hby own_d_jdk_42_m152_7)
  refine own_st st2 ?_
  show own_G _ _ _ _ (T2.setTop (mkF m 10 #[.val (.ref a1)] [(.int cd)]))
  refine own_st (fun _ k => XS.goto X2.here hx rfl (pc0 := 10) (pc' := 14) rfl (hb hby own_d_jdk_42_m152_10) (by decide) (by decide) k) ?_
  show own_G _ _ _ _ (T2.setTop (mkF m 14 #[.val (.ref a1)] [(.int cd)]))
  exact own_retN X2 hx hret hlk (by simp) (hb hby own_d_jdk_42_m152_14) (by rw [e2]; exact ⟨by rw [hcd], N0, rfl⟩) (by decide) (by decide)
theorem own_d_jdk_42_m154_0 : decode jdk_42_method_154_code 0 = .ok (.getstatic 38, 3) := by decide +kernel
theorem own_d_jdk_42_m154_3 : decode jdk_42_method_154_code 3 = .ok (.ifCond .eq 14, 3) := by decide +kernel
theorem own_d_jdk_42_m154_6 : decode jdk_42_method_154_code 6 = .ok (.aload_n 0, 1) := by decide +kernel
theorem own_d_jdk_42_m154_7 : decode jdk_42_method_154_code 7 = .ok (.getfield 15, 3) := by decide +kernel
theorem own_d_jdk_42_m154_10 : decode jdk_42_method_154_code 10 = .ok (.ifCond .ne 7, 3) := by decide +kernel
theorem own_d_jdk_42_m154_13 : decode jdk_42_method_154_code 13 = .ok (.iconst 1, 1) := by decide +kernel
theorem own_d_jdk_42_m154_14 : decode jdk_42_method_154_code 14 = .ok (.goto 4, 3) := by decide +kernel
theorem own_d_jdk_42_m154_18 : decode jdk_42_method_154_code 18 = .ok (.ireturn, 1) := by decide +kernel
theorem own_d_jdk_42_m154_17 : decode jdk_42_method_154_code 17 = .ok (.iconst 0, 1) := by decide +kernel
set_option maxRecDepth 65536 in
set_option maxHeartbeats 40000000 in
theorem own_isLatin1 (l : Launch) (Z : State) (a0 : Array Value) (hw : ∀ d ∈ tables_1, d.before a0 Z = true) (ws : List Jvm.Cond) (a1 : Addr) (cd w1 : Int32) (h0 : Heap) (O0 : Old Z Z.heap.size h0) (S1 : Sta Z Z.heap "java/lang/String" "COMPACT_STRINGS" "Z" (.int w1)) (hw1 : ¬ (w1 = (0 : Int32))) (Fc : Fld Z h0 a1 "java/lang/String" "coder" "B" (.int cd)) (hcd : cd = 0 ∨ cd = 1) :
    own_Met l Z (⟨"java/lang/String", "isLatin1", "()Z"⟩ : MethodName) jdk_42_method_154_code 1 (some .boolean) ws ({ frames := 0, cells := 0, slots := 0, locals := 0 } : Room) #[(.ref a1)] h0 (fun v h L => v = some (.int (1 - cd)) ∧ Fr Z.heap.size L ∧ h = h0) (({ frames := 0, cells := 0, slots := 0, locals := 0 } : Room)).cells (({ frames := 0, cells := 0, slots := 0, locals := 0 } : Room)).slots := by
  refine own_body (ef := fun m => mkF m 0 #[.val (.ref a1)] []) (plainFor_of_name own_pn145) (fun m => by first | rfl | (simp [entryFrame, mkF, argsToLocals, Value.category]; done)) ?_
  intro p e s m below meth c T0 hx hZ hby hml hown hnm hret hlk X0 e0
  have N0 := Fr.nil Z.heap.size
  have z0 : Z.heap.size ≤ h0.size := O0.2.1
  have Kr := Keep.refl h0 []
  show own_G _ _ _ _ (T0.setTop (mkF m 0 #[.val (.ref a1)] []))
  obtain ⟨T1, X1, e1, st1⟩ := getS2 X0 hx hZ hown (host := "") (Or.inl (hw _ (List.mem_of_getElem? (i := 32) rfl))) Via.refl e0 (Sta.ext O0.2 S1) (g := (mkF m 0 #[.val (.ref a1)] [])) rfl (hb hby own_d_jdk_42_m154_0)
  refine own_st st1 ?_
  show own_G _ _ _ _ (T1.setTop (mkF m 3 #[.val (.ref a1)] [(.int w1)]))
  refine own_st (fun _ k => XS.ifNo X1.here hx rfl (hb hby own_d_jdk_42_m154_3) rfl ((if0 _ _).trans (feq hw1).1) k) ?_
  show own_G _ _ _ _ (T1.setTop (mkF m 6 #[.val (.ref a1)] []))
  refine own_st (fun _ k => XS.aloadN X1.here hx rfl (hb hby own_d_jdk_42_m154_6) rfl rfl k) ?_
  show own_G _ _ _ _ (T1.setTop (mkF m 7 #[.val (.ref a1)] [(.ref a1)]))
  obtain ⟨T2, X2, e2, st2⟩ := getF X1 hx hZ hown (host := "") (Or.inl (hw _ (List.mem_of_getElem? (i := 63) rfl))) Via.refl e1 Fc (g := (mkF m 7 #[.val (.ref a1)] [(.ref a1)])) rfl rfl (hb hby own_d_jdk_42_m154_7)
  refine own_st st2 ?_
  show own_G _ _ _ _ (T2.setTop (mkF m 10 #[.val (.ref a1)] [(.int cd)]))
  rcases hcd with rfl | rfl
  · skip
    show own_G _ _ _ _ (T2.setTop (mkF m 10 #[.val (.ref a1)] [(.int (0 : Int32))]))
    refine own_st (fun _ k => XS.ifNo X2.here hx rfl (hb hby own_d_jdk_42_m154_10) rfl ((if0 _ _).trans (teq rfl).2) k) ?_
    show own_G _ _ _ _ (T2.setTop (mkF m 13 #[.val (.ref a1)] []))
    refine own_st (fun _ k => XS.iconst X2.here hx rfl (hb hby own_d_jdk_42_m154_13) k) ?_
    show own_G _ _ _ _ (T2.setTop (mkF m 14 #[.val (.ref a1)] [(.int (1 : Int32))]))
    refine own_st (fun _ k => XS.goto X2.here hx rfl (pc0 := 14) (pc' := 18) rfl (hb hby own_d_jdk_42_m154_14) (by decide) (by decide) k) ?_
    show own_G _ _ _ _ (T2.setTop (mkF m 18 #[.val (.ref a1)] [(.int (1 : Int32))]))
    exact own_retN X2 hx hret hlk (by simp) (hb hby own_d_jdk_42_m154_18) (by rw [e2]; exact ⟨rfl, N0, rfl⟩) (by decide) (by decide)
  · skip
    show own_G _ _ _ _ (T2.setTop (mkF m 10 #[.val (.ref a1)] [(.int (1 : Int32))]))
    refine own_st (fun _ k => XS.ifYes X2.here hx rfl (pc0 := 10) (pc' := 17) rfl (hb hby own_d_jdk_42_m154_10) rfl ((if0 _ _).trans (feq (by decide)).2) (by decide) (by decide) k) ?_
    show own_G _ _ _ _ (T2.setTop (mkF m 17 #[.val (.ref a1)] []))
    refine own_st (fun _ k => XS.iconst X2.here hx rfl (hb hby own_d_jdk_42_m154_17) k) ?_
    show own_G _ _ _ _ (T2.setTop (mkF m 18 #[.val (.ref a1)] [(.int (0 : Int32))]))
    exact own_retN X2 hx hret hlk (by simp) (hb hby own_d_jdk_42_m154_18) (by rw [e2]; exact ⟨rfl, N0, rfl⟩) (by decide) (by decide)
theorem own_shr1 {n : Nat} (h : n < 1000000) : Int32.ofNat (2 * n) >>> ((1 : Int32) &&& 31) = Int32.ofNat n := by
  apply Int32.toInt_inj.mp
  rw [c_ishr _ 1 1 rfl, own_nat (by omega), own_nat (by omega)]
  omega
theorem own_shr0 {n : Nat} (h : n < 1000000) : Int32.ofNat n >>> ((0 : Int32) &&& 31) = Int32.ofNat n := by
  apply Int32.toInt_inj.mp
  rw [c_ishr _ 0 0 rfl, own_nat (by omega)]
  omega
theorem own_d_jdk_42_m54_0 : decode jdk_42_method_54_code 0 = .ok (.aload_n 0, 1) := by decide +kernel
theorem own_d_jdk_42_m54_1 : decode jdk_42_method_54_code 1 = .ok (.getfield 9, 3) := by decide +kernel
theorem own_d_jdk_42_m54_4 : decode jdk_42_method_54_code 4 = .ok (.arraylength, 1) := by decide +kernel
theorem own_d_jdk_42_m54_5 : decode jdk_42_method_54_code 5 = .ok (.aload_n 0, 1) := by decide +kernel
theorem own_d_jdk_42_m54_6 : decode jdk_42_method_54_code 6 = .ok (.invokevirtual 335, 3) := by decide +kernel
theorem own_pd202 : parseMethodDescriptor "()B" = some ⟨[], some .byte⟩ := by decide +kernel
theorem own_d_jdk_42_m54_9 : decode jdk_42_method_54_code 9 = .ok (.ishr, 1) := by decide +kernel
theorem own_d_jdk_42_m54_10 : decode jdk_42_method_54_code 10 = .ok (.ireturn, 1) := by decide +kernel
set_option maxRecDepth 65536 in
set_option maxHeartbeats 40000000 in
theorem own_length (l : Launch) (Z : State) (a0 : Array Value) (hw : ∀ d ∈ tables_1, d.before a0 Z = true) (ws : List Jvm.Cond) (a1 : Addr) (t : Addr) (kt : ClassId) (n : Nat) (f : Nat → Int32) (w1 : Int32) (h0 : Heap) (O0 : Old Z Z.heap.size h0) (hn : n ≤ 3) (S1 : Sta Z Z.heap "java/lang/String" "COMPACT_STRINGS" "Z" (.int w1)) (hw1 : ¬ (w1 = (0 : Int32))) (Hs : own_Str Z h0 a1 t kt f n) :
    own_Met l Z (⟨"java/lang/String", "length", "()I"⟩ : MethodName) jdk_42_method_54_code 1 (some .int) ws ({ frames := 1, cells := 0, slots := 0, locals := 13 } : Room) #[(.ref a1)] h0 (fun v h L => v = some (.int (Int32.ofNat n)) ∧ Fr Z.heap.size L ∧ h = h0) (({ frames := 1, cells := 0, slots := 0, locals := 13 } : Room)).cells (({ frames := 1, cells := 0, slots := 0, locals := 13 } : Room)).slots := by
  refine own_body (ef := fun m => mkF m 0 #[.val (.ref a1)] []) (plainFor_of_name own_pn145) (fun m => by first | rfl | (simp [entryFrame, mkF, argsToLocals, Value.category]; done)) ?_
  intro p e s m below meth c T0 hx hZ hby hml hown hnm hret hlk X0 e0
  have N0 := Fr.nil Z.heap.size
  have z0 : Z.heap.size ≤ h0.size := O0.2.1
  have Kr := Keep.refl h0 []
  show own_G _ _ _ _ (T0.setTop (mkF m 0 #[.val (.ref a1)] []))
  obtain ⟨Ea, cd, Fc, Fv, c0⟩ := Hs
  rcases c0 with ⟨rfl, -, Vt⟩ | ⟨rfl, Vt⟩
  · skip
    refine own_st (fun _ k => XS.aloadN X0.here hx rfl (hb hby own_d_jdk_42_m54_0) rfl rfl k) ?_
    show own_G _ _ _ _ (T0.setTop (mkF m 1 #[.val (.ref a1)] [(.ref a1)]))
    obtain ⟨T1, X1, e1, st1⟩ := getF X0 hx hZ hown (host := "") (Or.inl (hw _ (List.mem_of_getElem? (i := 65) rfl))) Via.refl e0 Fv (g := (mkF m 1 #[.val (.ref a1)] [(.ref a1)])) rfl rfl (hb hby own_d_jdk_42_m54_1)
    refine own_st st1 ?_
    show own_G _ _ _ _ (T1.setTop (mkF m 4 #[.val (.ref a1)] [(.ref t)]))
    obtain ⟨cl2, Ar2, qk2, Sz2, Mz2, Hz2, Uz2⟩ := id Vt
    refine own_st (X1.arraylength hx (by rw [e1]; exact Ar2.1) (State.isArrayOf_alike hZ.alike Ar2.2.1) (g := (mkF m 4 #[.val (.ref a1)] [(.ref t)])) rfl rfl (hb hby own_d_jdk_42_m54_4)) ?_
    rw [len_of Sz2 Mz2]
    show own_G _ _ _ _ (T1.setTop (mkF m 5 #[.val (.ref a1)] [(.int (Int32.ofNat n))]))
    refine own_st (fun _ k => XS.aloadN X1.here hx rfl (hb hby own_d_jdk_42_m54_5) rfl rfl k) ?_
    show own_G _ _ _ _ (T1.setTop (mkF m 6 #[.val (.ref a1)] [(.ref a1), (.int (Int32.ofNat n))]))
    obtain ⟨cq3, kq3, q3a, q3b, q3c⟩ := isOf hZ e1 Ea
    obtain ⟨_, _, ⟨T3, L3, k3, n3⟩, -, X3, ⟨Lc3, hQ3, l3, y3, z3⟩, st3⟩ := X1.virtualBack hx (y := (⟨"java/lang/String", "coder", "()B"⟩ : MethodName)) (z := (⟨"java/lang/String", "coder", "()B"⟩ : MethodName)) hown (mvT hZ (hw _ (List.mem_of_getElem? (i := 84) rfl))) (mvT hZ (hw _ (List.mem_of_getElem? (i := 85) rfl))) (notFace_of_selects (args := #[]) (mvT hZ (hw _ (List.mem_of_getElem? (i := 87) rfl)))) (mvT hZ (hw _ (List.mem_of_getElem? (i := 87) rfl))) (mvT hZ (hw _ (List.mem_of_getElem? (i := 86) rfl))) (by decide) (own_back (rm := ({ frames := 0, cells := 0, slots := 0, locals := 0 } : Room)) (W := 1) (own_coder l Z a0 hw [] a1 (0 : Int32) w1 h0 O0 S1 hw1 Fc rfl) hZ (hw _ (List.mem_of_getElem? (i := 88) rfl)) (hw _ (List.mem_of_getElem? (i := 21) rfl)) (by decide) (by decide)) q3a q3c (g := (mkF m 6 #[.val (.ref a1)] [(.ref a1), (.int (Int32.ofNat n))])) rfl (by rw [hml]; rfl) (Steps.refl _) (argsL := []) (rest := [(.int (Int32.ofNat n))]) (lenOf own_pd202 rfl) rfl (by show 2 * 0 + _ ≤ _; exact Nat.le_of_eq rfl) (hb hby own_d_jdk_42_m54_6) (fun _ _ => ⟨rfl, e1, (by decide : 0 + 0 ≤ _), (by decide : 0 + 0 ≤ _)⟩)
    dsimp only [Pt.U, Pt.locs, Pt.cells, Pt.slots] at X3 l3 y3 z3 st3 hQ3
    subst l3 y3 z3
    obtain ⟨rfl, N3q, eh3⟩ := hQ3
    have N3 := Fr.app N0 N3q
    refine own_tr st3 ?_
    show own_G _ _ _ _ (T3.setTop (mkF m 9 #[.val (.ref a1)] [(.int (0 : Int32)), (.int (Int32.ofNat n))]))
    refine own_st (fun _ k => XS.ishr X3.here hx rfl (hb hby own_d_jdk_42_m54_9) rfl k) ?_
    show own_G _ _ _ _ (T3.setTop (mkF m 10 #[.val (.ref a1)] [(.int ((Int32.ofNat n) >>> ((0 : Int32) &&& 31)))]))
    exact own_retI X3 hx hret hlk (hb hby own_d_jdk_42_m54_10) (by rw [eh3]; exact ⟨by rw [own_shr0 (by omega)], N3, rfl⟩) (by decide) (by decide)
  · skip
    refine own_st (fun _ k => XS.aloadN X0.here hx rfl (hb hby own_d_jdk_42_m54_0) rfl rfl k) ?_
    show own_G _ _ _ _ (T0.setTop (mkF m 1 #[.val (.ref a1)] [(.ref a1)]))
    obtain ⟨T4, X4, e4, st4⟩ := getF X0 hx hZ hown (host := "") (Or.inl (hw _ (List.mem_of_getElem? (i := 65) rfl))) Via.refl e0 Fv (g := (mkF m 1 #[.val (.ref a1)] [(.ref a1)])) rfl rfl (hb hby own_d_jdk_42_m54_1)
    refine own_st st4 ?_
    show own_G _ _ _ _ (T4.setTop (mkF m 4 #[.val (.ref a1)] [(.ref t)]))
    obtain ⟨cl5, Ar5, qk5, Sz5, Mz5, Hz5, Uz5⟩ := id Vt
    refine own_st (X4.arraylength hx (by rw [e4]; exact Ar5.1) (State.isArrayOf_alike hZ.alike Ar5.2.1) (g := (mkF m 4 #[.val (.ref a1)] [(.ref t)])) rfl rfl (hb hby own_d_jdk_42_m54_4)) ?_
    rw [len_of Sz5 Mz5]
    show own_G _ _ _ _ (T4.setTop (mkF m 5 #[.val (.ref a1)] [(.int (Int32.ofNat (2 * n)))]))
    refine own_st (fun _ k => XS.aloadN X4.here hx rfl (hb hby own_d_jdk_42_m54_5) rfl rfl k) ?_
    show own_G _ _ _ _ (T4.setTop (mkF m 6 #[.val (.ref a1)] [(.ref a1), (.int (Int32.ofNat (2 * n)))]))
    obtain ⟨cq6, kq6, q6a, q6b, q6c⟩ := isOf hZ e4 Ea
    obtain ⟨_, _, ⟨T6, L6, k6, n6⟩, -, X6, ⟨Lc6, hQ6, l6, y6, z6⟩, st6⟩ := X4.virtualBack hx (y := (⟨"java/lang/String", "coder", "()B"⟩ : MethodName)) (z := (⟨"java/lang/String", "coder", "()B"⟩ : MethodName)) hown (mvT hZ (hw _ (List.mem_of_getElem? (i := 84) rfl))) (mvT hZ (hw _ (List.mem_of_getElem? (i := 85) rfl))) (notFace_of_selects (args := #[]) (mvT hZ (hw _ (List.mem_of_getElem? (i := 87) rfl)))) (mvT hZ (hw _ (List.mem_of_getElem? (i := 87) rfl))) (mvT hZ (hw _ (List.mem_of_getElem? (i := 86) rfl))) (by decide) (own_back (rm := ({ frames := 0, cells := 0, slots := 0, locals := 0 } : Room)) (W := 1) (own_coder l Z a0 hw [] a1 (1 : Int32) w1 h0 O0 S1 hw1 Fc rfl) hZ (hw _ (List.mem_of_getElem? (i := 88) rfl)) (hw _ (List.mem_of_getElem? (i := 21) rfl)) (by decide) (by decide)) q6a q6c (g := (mkF m 6 #[.val (.ref a1)] [(.ref a1), (.int (Int32.ofNat (2 * n)))])) rfl (by rw [hml]; rfl) (Steps.refl _) (argsL := []) (rest := [(.int (Int32.ofNat (2 * n)))]) (lenOf own_pd202 rfl) rfl (by show 2 * 0 + _ ≤ _; exact Nat.le_of_eq rfl) (hb hby own_d_jdk_42_m54_6) (fun _ _ => ⟨rfl, e4, (by decide : 0 + 0 ≤ _), (by decide : 0 + 0 ≤ _)⟩)
    dsimp only [Pt.U, Pt.locs, Pt.cells, Pt.slots] at X6 l6 y6 z6 st6 hQ6
    subst l6 y6 z6
    obtain ⟨rfl, N6q, eh6⟩ := hQ6
    have N6 := Fr.app N0 N6q
    refine own_tr st6 ?_
    show own_G _ _ _ _ (T6.setTop (mkF m 9 #[.val (.ref a1)] [(.int (1 : Int32)), (.int (Int32.ofNat (2 * n)))]))
    refine own_st (fun _ k => XS.ishr X6.here hx rfl (hb hby own_d_jdk_42_m54_9) rfl k) ?_
    show own_G _ _ _ _ (T6.setTop (mkF m 10 #[.val (.ref a1)] [(.int ((Int32.ofNat (2 * n)) >>> ((1 : Int32) &&& 31)))]))
    exact own_retI X6 hx hret hlk (hb hby own_d_jdk_42_m54_10) (by rw [eh6]; exact ⟨by rw [own_shr1 (by omega)], N6, rfl⟩) (by decide) (by decide)
def own_hs (c : Int32) : Prop := 55296 ≤ c.toInt ∧ c.toInt < 56320
def own_ls (c : Int32) : Prop := 56320 ≤ c.toInt ∧ c.toInt < 57344
def own_ok (f : Nat → Int32) (n j : Nat) : Prop := (own_hs (f j) → j + 1 < n ∧ own_ls (f (j + 1))) ∧ (own_ls (f j) → 0 < j ∧ own_hs (f (j - 1)))
theorem own_pred {j : Nat} (h : 0 < j) (hj : j < 1000000) : Int32.ofNat j - (1 : Int32) = Int32.ofNat (j - 1) := by
  apply Int32.toInt_inj.mp
  have h1 := c_isub (Int32.ofNat j) 1
  have h2 := rng32 (Int32.ofNat j - 1)
  rw [own_nat (by omega), show (1 : Int32).toInt = 1 from rfl] at h1
  rw [own_nat (by omega)]
  omega
theorem own_lo_mask {c : Int32} (h0 : 0 ≤ c.toInt) (h1 : ¬ (255 : Int32) < c) : own_lo c &&& (255 : Int32) = c := by
  apply Int32.toInt_inj.mp
  simp only [Int32.lt_iff_toInt_lt, Int32.reduceToInt] at h1
  rw [c_mask (own_lo c) 255 8 (by decide) rfl]
  have a := c_i2b c
  have b : ((own_lo c).toInt - _) % 256 = 0 ∧ _ := c_i2b (c.toInt8.toInt32)
  omega
theorem own_cp {a b : Int32} (ha : own_hs a) (hb : own_ls b) : 65536 ≤ (((a <<< ((10 : Int32) &&& 31)) + b) + (-56613888 : Int32)).toInt := by
  have h1 := c_ishl a 10 10 rfl
  have h2 := c_iadd (a <<< ((10 : Int32) &&& 31)) b
  have h3 := c_iadd ((a <<< ((10 : Int32) &&& 31)) + b) (-56613888)
  have r1 := rng32 (a <<< ((10 : Int32) &&& 31))
  have r2 := rng32 ((a <<< ((10 : Int32) &&& 31)) + b)
  have r3 := rng32 (((a <<< ((10 : Int32) &&& 31)) + b) + (-56613888 : Int32))
  have e : (-56613888 : Int32).toInt = -56613888 := rfl
  rw [e] at h3
  have ha1 := ha.1; have ha2 := ha.2; have hb1 := hb.1; have hb2 := hb.2
  omega
theorem own_pn205 : plainName "java/lang/Character" = true := by first | (simp [plainName, overriddenIn]; done) | decide +kernel
theorem own_d_jdk_89_m14_0 : decode jdk_89_method_14_code 0 = .ok (.iload_n 0, 1) := by decide +kernel
theorem own_d_jdk_89_m14_1 : decode jdk_89_method_14_code 1 = .ok (.ldc 75, 2) := by decide +kernel
theorem own_d_jdk_89_m14_3 : decode jdk_89_method_14_code 3 = .ok (.if_icmp .lt 13, 3) := by decide +kernel
theorem own_d_jdk_89_m14_16 : decode jdk_89_method_14_code 16 = .ok (.iconst 0, 1) := by decide +kernel
theorem own_d_jdk_89_m14_17 : decode jdk_89_method_14_code 17 = .ok (.ireturn, 1) := by decide +kernel
theorem own_d_jdk_89_m14_6 : decode jdk_89_method_14_code 6 = .ok (.iload_n 0, 1) := by decide +kernel
theorem own_d_jdk_89_m14_7 : decode jdk_89_method_14_code 7 = .ok (.ldc 76, 2) := by decide +kernel
theorem own_d_jdk_89_m14_9 : decode jdk_89_method_14_code 9 = .ok (.if_icmp .ge 7, 3) := by decide +kernel
theorem own_d_jdk_89_m14_12 : decode jdk_89_method_14_code 12 = .ok (.iconst 1, 1) := by decide +kernel
theorem own_d_jdk_89_m14_13 : decode jdk_89_method_14_code 13 = .ok (.goto 4, 3) := by decide +kernel
set_option maxRecDepth 65536 in
set_option maxHeartbeats 40000000 in
theorem own_hiS (l : Launch) (Z : State) (a0 : Array Value) (hw : ∀ d ∈ tables_1, d.before a0 Z = true) (ws : List Jvm.Cond) (c0 : Int32)  (h0 : Heap) (O0 : Old Z Z.heap.size h0)  :
    own_Met l Z (⟨"java/lang/Character", "isHighSurrogate", "(C)Z"⟩ : MethodName) jdk_89_method_14_code 1 (some .boolean) ws ({ frames := 0, cells := 0, slots := 0, locals := 0 } : Room) #[(.int c0)] h0 (fun v h L => ∃ r : Int32, v = some (.int r) ∧ Fr Z.heap.size L ∧ h = h0 ∧ ((r = 1 ∧ own_hs c0) ∨ (r = 0 ∧ ¬ own_hs c0))) (({ frames := 0, cells := 0, slots := 0, locals := 0 } : Room)).cells (({ frames := 0, cells := 0, slots := 0, locals := 0 } : Room)).slots := by
  refine own_body (ef := fun m => mkF m 0 #[.val (.int c0)] []) (plainFor_of_name own_pn205) (fun m => by first | rfl | (simp [entryFrame, mkF, argsToLocals, Value.category]; done)) ?_
  intro p e s m below meth c T0 hx hZ hby hml hown hnm hret hlk X0 e0
  have N0 := Fr.nil Z.heap.size
  have z0 : Z.heap.size ≤ h0.size := O0.2.1
  have Kr := Keep.refl h0 []
  show own_G _ _ _ _ (T0.setTop (mkF m 0 #[.val (.int c0)] []))
  refine own_st (fun _ k => XS.iloadN X0.here hx rfl (hb hby own_d_jdk_89_m14_0) rfl k) ?_
  show own_G _ _ _ _ (T0.setTop (mkF m 1 #[.val (.int c0)] [(.int c0)]))
  refine own_st (X0.ldcInt hx hown (mvT hZ (hw _ (List.mem_of_getElem? (i := 117) rfl))) (g := (mkF m 1 #[.val (.int c0)] [(.int c0)])) rfl (hb hby own_d_jdk_89_m14_1)) ?_
  show own_G _ _ _ _ (T0.setTop (mkF m 3 #[.val (.int c0)] [(.int (55296 : Int32)), (.int c0)]))
  by_cases h1 : c0 < (55296 : Int32)
  · show own_G _ _ _ _ (T0.setTop (mkF m 3 #[.val (.int c0)] [(.int (55296 : Int32)), (.int c0)]))
    refine own_st (fun _ k => XS.icmpYes X0.here hx rfl (pc0 := 3) (pc' := 16) rfl (hb hby own_d_jdk_89_m14_3) rfl (tlt h1).1 (by decide) (by decide) k) ?_
    show own_G _ _ _ _ (T0.setTop (mkF m 16 #[.val (.int c0)] []))
    refine own_st (fun _ k => XS.iconst X0.here hx rfl (hb hby own_d_jdk_89_m14_16) k) ?_
    show own_G _ _ _ _ (T0.setTop (mkF m 17 #[.val (.int c0)] [(.int (0 : Int32))]))
    exact own_retN X0 hx hret hlk (by simp) (hb hby own_d_jdk_89_m14_17) (by rw [e0]; exact ⟨0, rfl, N0, rfl, Or.inr ⟨rfl, fun q => by simp only [Int32.lt_iff_toInt_lt, Int32.reduceToInt] at h1; have := q.1; omega⟩⟩) (by decide) (by decide)
  · show own_G _ _ _ _ (T0.setTop (mkF m 3 #[.val (.int c0)] [(.int (55296 : Int32)), (.int c0)]))
    refine own_st (fun _ k => XS.icmpNo X0.here hx rfl (hb hby own_d_jdk_89_m14_3) rfl (flt h1).1 k) ?_
    show own_G _ _ _ _ (T0.setTop (mkF m 6 #[.val (.int c0)] []))
    refine own_st (fun _ k => XS.iloadN X0.here hx rfl (hb hby own_d_jdk_89_m14_6) rfl k) ?_
    show own_G _ _ _ _ (T0.setTop (mkF m 7 #[.val (.int c0)] [(.int c0)]))
    refine own_st (X0.ldcInt hx hown (mvT hZ (hw _ (List.mem_of_getElem? (i := 123) rfl))) (g := (mkF m 7 #[.val (.int c0)] [(.int c0)])) rfl (hb hby own_d_jdk_89_m14_7)) ?_
    show own_G _ _ _ _ (T0.setTop (mkF m 9 #[.val (.int c0)] [(.int (56320 : Int32)), (.int c0)]))
    by_cases h2 : c0 < (56320 : Int32)
    · show own_G _ _ _ _ (T0.setTop (mkF m 9 #[.val (.int c0)] [(.int (56320 : Int32)), (.int c0)]))
      refine own_st (fun _ k => XS.icmpNo X0.here hx rfl (hb hby own_d_jdk_89_m14_9) rfl (tlt h2).2.1 k) ?_
      show own_G _ _ _ _ (T0.setTop (mkF m 12 #[.val (.int c0)] []))
      refine own_st (fun _ k => XS.iconst X0.here hx rfl (hb hby own_d_jdk_89_m14_12) k) ?_
      show own_G _ _ _ _ (T0.setTop (mkF m 13 #[.val (.int c0)] [(.int (1 : Int32))]))
      refine own_st (fun _ k => XS.goto X0.here hx rfl (pc0 := 13) (pc' := 17) rfl (hb hby own_d_jdk_89_m14_13) (by decide) (by decide) k) ?_
      show own_G _ _ _ _ (T0.setTop (mkF m 17 #[.val (.int c0)] [(.int (1 : Int32))]))
      exact own_retN X0 hx hret hlk (by simp) (hb hby own_d_jdk_89_m14_17) (by rw [e0]; exact ⟨1, rfl, N0, rfl, Or.inl ⟨rfl, by simp only [Int32.lt_iff_toInt_lt, Int32.reduceToInt] at h1 h2; exact ⟨by omega, by omega⟩⟩⟩) (by decide) (by decide)
    · show own_G _ _ _ _ (T0.setTop (mkF m 9 #[.val (.int c0)] [(.int (56320 : Int32)), (.int c0)]))
      refine own_st (fun _ k => XS.icmpYes X0.here hx rfl (pc0 := 9) (pc' := 16) rfl (hb hby own_d_jdk_89_m14_9) rfl (flt h2).2.1 (by decide) (by decide) k) ?_
      show own_G _ _ _ _ (T0.setTop (mkF m 16 #[.val (.int c0)] []))
      refine own_st (fun _ k => XS.iconst X0.here hx rfl (hb hby own_d_jdk_89_m14_16) k) ?_
      show own_G _ _ _ _ (T0.setTop (mkF m 17 #[.val (.int c0)] [(.int (0 : Int32))]))
      exact own_retN X0 hx hret hlk (by simp) (hb hby own_d_jdk_89_m14_17) (by rw [e0]; exact ⟨0, rfl, N0, rfl, Or.inr ⟨rfl, fun q => by simp only [Int32.lt_iff_toInt_lt, Int32.reduceToInt] at h2; have := q.2; omega⟩⟩) (by decide) (by decide)
theorem own_d_jdk_89_m15_0 : decode jdk_89_method_15_code 0 = .ok (.iload_n 0, 1) := by decide +kernel
theorem own_d_jdk_89_m15_1 : decode jdk_89_method_15_code 1 = .ok (.ldc 76, 2) := by decide +kernel
theorem own_d_jdk_89_m15_3 : decode jdk_89_method_15_code 3 = .ok (.if_icmp .lt 13, 3) := by decide +kernel
theorem own_d_jdk_89_m15_16 : decode jdk_89_method_15_code 16 = .ok (.iconst 0, 1) := by decide +kernel
theorem own_d_jdk_89_m15_17 : decode jdk_89_method_15_code 17 = .ok (.ireturn, 1) := by decide +kernel
theorem own_d_jdk_89_m15_6 : decode jdk_89_method_15_code 6 = .ok (.iload_n 0, 1) := by decide +kernel
theorem own_d_jdk_89_m15_7 : decode jdk_89_method_15_code 7 = .ok (.ldc 77, 2) := by decide +kernel
theorem own_d_jdk_89_m15_9 : decode jdk_89_method_15_code 9 = .ok (.if_icmp .ge 7, 3) := by decide +kernel
theorem own_d_jdk_89_m15_12 : decode jdk_89_method_15_code 12 = .ok (.iconst 1, 1) := by decide +kernel
theorem own_d_jdk_89_m15_13 : decode jdk_89_method_15_code 13 = .ok (.goto 4, 3) := by decide +kernel
set_option maxRecDepth 65536 in
set_option maxHeartbeats 40000000 in
theorem own_loS (l : Launch) (Z : State) (a0 : Array Value) (hw : ∀ d ∈ tables_1, d.before a0 Z = true) (ws : List Jvm.Cond) (c0 : Int32)  (h0 : Heap) (O0 : Old Z Z.heap.size h0)  :
    own_Met l Z (⟨"java/lang/Character", "isLowSurrogate", "(C)Z"⟩ : MethodName) jdk_89_method_15_code 1 (some .boolean) ws ({ frames := 0, cells := 0, slots := 0, locals := 0 } : Room) #[(.int c0)] h0 (fun v h L => ∃ r : Int32, v = some (.int r) ∧ Fr Z.heap.size L ∧ h = h0 ∧ ((r = 1 ∧ own_ls c0) ∨ (r = 0 ∧ ¬ own_ls c0))) (({ frames := 0, cells := 0, slots := 0, locals := 0 } : Room)).cells (({ frames := 0, cells := 0, slots := 0, locals := 0 } : Room)).slots := by
  refine own_body (ef := fun m => mkF m 0 #[.val (.int c0)] []) (plainFor_of_name own_pn205) (fun m => by first | rfl | (simp [entryFrame, mkF, argsToLocals, Value.category]; done)) ?_
  intro p e s m below meth c T0 hx hZ hby hml hown hnm hret hlk X0 e0
  have N0 := Fr.nil Z.heap.size
  have z0 : Z.heap.size ≤ h0.size := O0.2.1
  have Kr := Keep.refl h0 []
  show own_G _ _ _ _ (T0.setTop (mkF m 0 #[.val (.int c0)] []))
  refine own_st (fun _ k => XS.iloadN X0.here hx rfl (hb hby own_d_jdk_89_m15_0) rfl k) ?_
  show own_G _ _ _ _ (T0.setTop (mkF m 1 #[.val (.int c0)] [(.int c0)]))
  refine own_st (X0.ldcInt hx hown (mvT hZ (hw _ (List.mem_of_getElem? (i := 123) rfl))) (g := (mkF m 1 #[.val (.int c0)] [(.int c0)])) rfl (hb hby own_d_jdk_89_m15_1)) ?_
  show own_G _ _ _ _ (T0.setTop (mkF m 3 #[.val (.int c0)] [(.int (56320 : Int32)), (.int c0)]))
  by_cases h1 : c0 < (56320 : Int32)
  · show own_G _ _ _ _ (T0.setTop (mkF m 3 #[.val (.int c0)] [(.int (56320 : Int32)), (.int c0)]))
    refine own_st (fun _ k => XS.icmpYes X0.here hx rfl (pc0 := 3) (pc' := 16) rfl (hb hby own_d_jdk_89_m15_3) rfl (tlt h1).1 (by decide) (by decide) k) ?_
    show own_G _ _ _ _ (T0.setTop (mkF m 16 #[.val (.int c0)] []))
    refine own_st (fun _ k => XS.iconst X0.here hx rfl (hb hby own_d_jdk_89_m15_16) k) ?_
    show own_G _ _ _ _ (T0.setTop (mkF m 17 #[.val (.int c0)] [(.int (0 : Int32))]))
    exact own_retN X0 hx hret hlk (by simp) (hb hby own_d_jdk_89_m15_17) (by rw [e0]; exact ⟨0, rfl, N0, rfl, Or.inr ⟨rfl, fun q => by simp only [Int32.lt_iff_toInt_lt, Int32.reduceToInt] at h1; have := q.1; omega⟩⟩) (by decide) (by decide)
  · show own_G _ _ _ _ (T0.setTop (mkF m 3 #[.val (.int c0)] [(.int (56320 : Int32)), (.int c0)]))
    refine own_st (fun _ k => XS.icmpNo X0.here hx rfl (hb hby own_d_jdk_89_m15_3) rfl (flt h1).1 k) ?_
    show own_G _ _ _ _ (T0.setTop (mkF m 6 #[.val (.int c0)] []))
    refine own_st (fun _ k => XS.iloadN X0.here hx rfl (hb hby own_d_jdk_89_m15_6) rfl k) ?_
    show own_G _ _ _ _ (T0.setTop (mkF m 7 #[.val (.int c0)] [(.int c0)]))
    refine own_st (X0.ldcInt hx hown (mvT hZ (hw _ (List.mem_of_getElem? (i := 128) rfl))) (g := (mkF m 7 #[.val (.int c0)] [(.int c0)])) rfl (hb hby own_d_jdk_89_m15_7)) ?_
    show own_G _ _ _ _ (T0.setTop (mkF m 9 #[.val (.int c0)] [(.int (57344 : Int32)), (.int c0)]))
    by_cases h2 : c0 < (57344 : Int32)
    · show own_G _ _ _ _ (T0.setTop (mkF m 9 #[.val (.int c0)] [(.int (57344 : Int32)), (.int c0)]))
      refine own_st (fun _ k => XS.icmpNo X0.here hx rfl (hb hby own_d_jdk_89_m15_9) rfl (tlt h2).2.1 k) ?_
      show own_G _ _ _ _ (T0.setTop (mkF m 12 #[.val (.int c0)] []))
      refine own_st (fun _ k => XS.iconst X0.here hx rfl (hb hby own_d_jdk_89_m15_12) k) ?_
      show own_G _ _ _ _ (T0.setTop (mkF m 13 #[.val (.int c0)] [(.int (1 : Int32))]))
      refine own_st (fun _ k => XS.goto X0.here hx rfl (pc0 := 13) (pc' := 17) rfl (hb hby own_d_jdk_89_m15_13) (by decide) (by decide) k) ?_
      show own_G _ _ _ _ (T0.setTop (mkF m 17 #[.val (.int c0)] [(.int (1 : Int32))]))
      exact own_retN X0 hx hret hlk (by simp) (hb hby own_d_jdk_89_m15_17) (by rw [e0]; exact ⟨1, rfl, N0, rfl, Or.inl ⟨rfl, by simp only [Int32.lt_iff_toInt_lt, Int32.reduceToInt] at h1 h2; exact ⟨by omega, by omega⟩⟩⟩) (by decide) (by decide)
    · show own_G _ _ _ _ (T0.setTop (mkF m 9 #[.val (.int c0)] [(.int (57344 : Int32)), (.int c0)]))
      refine own_st (fun _ k => XS.icmpYes X0.here hx rfl (pc0 := 9) (pc' := 16) rfl (hb hby own_d_jdk_89_m15_9) rfl (flt h2).2.1 (by decide) (by decide) k) ?_
      show own_G _ _ _ _ (T0.setTop (mkF m 16 #[.val (.int c0)] []))
      refine own_st (fun _ k => XS.iconst X0.here hx rfl (hb hby own_d_jdk_89_m15_16) k) ?_
      show own_G _ _ _ _ (T0.setTop (mkF m 17 #[.val (.int c0)] [(.int (0 : Int32))]))
      exact own_retN X0 hx hret hlk (by simp) (hb hby own_d_jdk_89_m15_17) (by rw [e0]; exact ⟨0, rfl, N0, rfl, Or.inr ⟨rfl, fun q => by simp only [Int32.lt_iff_toInt_lt, Int32.reduceToInt] at h2; have := q.2; omega⟩⟩) (by decide) (by decide)
theorem own_pn226 : plainName "com/example/acquire/acquire/internal/LockNamesRequireValidPinLaw" = true := by first | (simp [plainName, overriddenIn]; done) | decide +kernel
theorem own_d_m4_0 : decode method_4_code 0 = .ok (.iload_n 0, 1) := by decide +kernel
theorem own_d_m4_1 : decode method_4_code 1 = .ok (.ldc 28, 2) := by decide +kernel
theorem own_d_m4_3 : decode method_4_code 3 = .ok (.if_icmp .lt 13, 3) := by decide +kernel
theorem own_d_m4_16 : decode method_4_code 16 = .ok (.iconst 0, 1) := by decide +kernel
theorem own_d_m4_17 : decode method_4_code 17 = .ok (.ireturn, 1) := by decide +kernel
theorem own_d_m4_6 : decode method_4_code 6 = .ok (.iload_n 0, 1) := by decide +kernel
theorem own_d_m4_7 : decode method_4_code 7 = .ok (.ldc 31, 2) := by decide +kernel
theorem own_d_m4_9 : decode method_4_code 9 = .ok (.if_icmp .gt 7, 3) := by decide +kernel
theorem own_d_m4_12 : decode method_4_code 12 = .ok (.iconst 1, 1) := by decide +kernel
theorem own_d_m4_13 : decode method_4_code 13 = .ok (.goto 4, 3) := by decide +kernel
set_option maxRecDepth 65536 in
set_option maxHeartbeats 40000000 in
theorem own_isHigh (l : Launch) (Z : State) (a0 : Array Value) (hw : ∀ d ∈ tables_1, d.before a0 Z = true) (ws : List Jvm.Cond) (c0 : Int32)  (h0 : Heap) (O0 : Old Z Z.heap.size h0)  :
    own_Met l Z (⟨"com/example/acquire/acquire/internal/LockNamesRequireValidPinLaw", "isHigh", "(C)Z"⟩ : MethodName) method_4_code 1 (some .boolean) ws ({ frames := 0, cells := 0, slots := 0, locals := 0 } : Room) #[(.int c0)] h0 (fun v h L => ∃ r : Int32, v = some (.int r) ∧ Fr Z.heap.size L ∧ h = h0 ∧ ((r = 1 ∧ own_hs c0) ∨ (r = 0 ∧ ¬ own_hs c0))) (({ frames := 0, cells := 0, slots := 0, locals := 0 } : Room)).cells (({ frames := 0, cells := 0, slots := 0, locals := 0 } : Room)).slots := by
  refine own_body (ef := fun m => mkF m 0 #[.val (.int c0)] []) (plainFor_of_name own_pn226) (fun m => by first | rfl | (simp [entryFrame, mkF, argsToLocals, Value.category]; done)) ?_
  intro p e s m below meth c T0 hx hZ hby hml hown hnm hret hlk X0 e0
  have N0 := Fr.nil Z.heap.size
  have z0 : Z.heap.size ≤ h0.size := O0.2.1
  have Kr := Keep.refl h0 []
  show own_G _ _ _ _ (T0.setTop (mkF m 0 #[.val (.int c0)] []))
  refine own_st (fun _ k => XS.iloadN X0.here hx rfl (hb hby own_d_m4_0) rfl k) ?_
  show own_G _ _ _ _ (T0.setTop (mkF m 1 #[.val (.int c0)] [(.int c0)]))
  refine own_st (X0.ldcInt hx hown (mvT hZ (hw _ (List.mem_of_getElem? (i := 4) rfl))) (g := (mkF m 1 #[.val (.int c0)] [(.int c0)])) rfl (hb hby own_d_m4_1)) ?_
  show own_G _ _ _ _ (T0.setTop (mkF m 3 #[.val (.int c0)] [(.int (55296 : Int32)), (.int c0)]))
  by_cases h1 : c0 < (55296 : Int32)
  · show own_G _ _ _ _ (T0.setTop (mkF m 3 #[.val (.int c0)] [(.int (55296 : Int32)), (.int c0)]))
    refine own_st (fun _ k => XS.icmpYes X0.here hx rfl (pc0 := 3) (pc' := 16) rfl (hb hby own_d_m4_3) rfl (tlt h1).1 (by decide) (by decide) k) ?_
    show own_G _ _ _ _ (T0.setTop (mkF m 16 #[.val (.int c0)] []))
    refine own_st (fun _ k => XS.iconst X0.here hx rfl (hb hby own_d_m4_16) k) ?_
    show own_G _ _ _ _ (T0.setTop (mkF m 17 #[.val (.int c0)] [(.int (0 : Int32))]))
    exact own_retN X0 hx hret hlk (by simp) (hb hby own_d_m4_17) (by rw [e0]; exact ⟨0, rfl, N0, rfl, Or.inr ⟨rfl, fun q => by simp only [Int32.lt_iff_toInt_lt, Int32.reduceToInt] at h1; have := q.1; omega⟩⟩) (by decide) (by decide)
  · show own_G _ _ _ _ (T0.setTop (mkF m 3 #[.val (.int c0)] [(.int (55296 : Int32)), (.int c0)]))
    refine own_st (fun _ k => XS.icmpNo X0.here hx rfl (hb hby own_d_m4_3) rfl (flt h1).1 k) ?_
    show own_G _ _ _ _ (T0.setTop (mkF m 6 #[.val (.int c0)] []))
    refine own_st (fun _ k => XS.iloadN X0.here hx rfl (hb hby own_d_m4_6) rfl k) ?_
    show own_G _ _ _ _ (T0.setTop (mkF m 7 #[.val (.int c0)] [(.int c0)]))
    refine own_st (X0.ldcInt hx hown (mvT hZ (hw _ (List.mem_of_getElem? (i := 12) rfl))) (g := (mkF m 7 #[.val (.int c0)] [(.int c0)])) rfl (hb hby own_d_m4_7)) ?_
    show own_G _ _ _ _ (T0.setTop (mkF m 9 #[.val (.int c0)] [(.int (56319 : Int32)), (.int c0)]))
    by_cases h2 : (56319 : Int32) < c0
    · show own_G _ _ _ _ (T0.setTop (mkF m 9 #[.val (.int c0)] [(.int (56319 : Int32)), (.int c0)]))
      refine own_st (fun _ k => XS.icmpYes X0.here hx rfl (pc0 := 9) (pc' := 16) rfl (hb hby own_d_m4_9) rfl (tlt h2).2.2.1 (by decide) (by decide) k) ?_
      show own_G _ _ _ _ (T0.setTop (mkF m 16 #[.val (.int c0)] []))
      refine own_st (fun _ k => XS.iconst X0.here hx rfl (hb hby own_d_m4_16) k) ?_
      show own_G _ _ _ _ (T0.setTop (mkF m 17 #[.val (.int c0)] [(.int (0 : Int32))]))
      exact own_retN X0 hx hret hlk (by simp) (hb hby own_d_m4_17) (by rw [e0]; exact ⟨0, rfl, N0, rfl, Or.inr ⟨rfl, fun q => by simp only [Int32.lt_iff_toInt_lt, Int32.reduceToInt] at h2; have := q.2; omega⟩⟩) (by decide) (by decide)
    · show own_G _ _ _ _ (T0.setTop (mkF m 9 #[.val (.int c0)] [(.int (56319 : Int32)), (.int c0)]))
      refine own_st (fun _ k => XS.icmpNo X0.here hx rfl (hb hby own_d_m4_9) rfl (flt h2).2.2.1 k) ?_
      show own_G _ _ _ _ (T0.setTop (mkF m 12 #[.val (.int c0)] []))
      refine own_st (fun _ k => XS.iconst X0.here hx rfl (hb hby own_d_m4_12) k) ?_
      show own_G _ _ _ _ (T0.setTop (mkF m 13 #[.val (.int c0)] [(.int (1 : Int32))]))
      refine own_st (fun _ k => XS.goto X0.here hx rfl (pc0 := 13) (pc' := 17) rfl (hb hby own_d_m4_13) (by decide) (by decide) k) ?_
      show own_G _ _ _ _ (T0.setTop (mkF m 17 #[.val (.int c0)] [(.int (1 : Int32))]))
      exact own_retN X0 hx hret hlk (by simp) (hb hby own_d_m4_17) (by rw [e0]; exact ⟨1, rfl, N0, rfl, Or.inl ⟨rfl, by simp only [Int32.lt_iff_toInt_lt, Int32.reduceToInt] at h1 h2; exact ⟨by omega, by omega⟩⟩⟩) (by decide) (by decide)
theorem own_d_m5_0 : decode method_5_code 0 = .ok (.iload_n 0, 1) := by decide +kernel
theorem own_d_m5_1 : decode method_5_code 1 = .ok (.ldc 29, 2) := by decide +kernel
theorem own_d_m5_3 : decode method_5_code 3 = .ok (.if_icmp .lt 13, 3) := by decide +kernel
theorem own_d_m5_16 : decode method_5_code 16 = .ok (.iconst 0, 1) := by decide +kernel
theorem own_d_m5_17 : decode method_5_code 17 = .ok (.ireturn, 1) := by decide +kernel
theorem own_d_m5_6 : decode method_5_code 6 = .ok (.iload_n 0, 1) := by decide +kernel
theorem own_d_m5_7 : decode method_5_code 7 = .ok (.ldc 32, 2) := by decide +kernel
theorem own_d_m5_9 : decode method_5_code 9 = .ok (.if_icmp .gt 7, 3) := by decide +kernel
theorem own_d_m5_12 : decode method_5_code 12 = .ok (.iconst 1, 1) := by decide +kernel
theorem own_d_m5_13 : decode method_5_code 13 = .ok (.goto 4, 3) := by decide +kernel
set_option maxRecDepth 65536 in
set_option maxHeartbeats 40000000 in
theorem own_isLow (l : Launch) (Z : State) (a0 : Array Value) (hw : ∀ d ∈ tables_1, d.before a0 Z = true) (ws : List Jvm.Cond) (c0 : Int32)  (h0 : Heap) (O0 : Old Z Z.heap.size h0)  :
    own_Met l Z (⟨"com/example/acquire/acquire/internal/LockNamesRequireValidPinLaw", "isLow", "(C)Z"⟩ : MethodName) method_5_code 1 (some .boolean) ws ({ frames := 0, cells := 0, slots := 0, locals := 0 } : Room) #[(.int c0)] h0 (fun v h L => ∃ r : Int32, v = some (.int r) ∧ Fr Z.heap.size L ∧ h = h0 ∧ ((r = 1 ∧ own_ls c0) ∨ (r = 0 ∧ ¬ own_ls c0))) (({ frames := 0, cells := 0, slots := 0, locals := 0 } : Room)).cells (({ frames := 0, cells := 0, slots := 0, locals := 0 } : Room)).slots := by
  refine own_body (ef := fun m => mkF m 0 #[.val (.int c0)] []) (plainFor_of_name own_pn226) (fun m => by first | rfl | (simp [entryFrame, mkF, argsToLocals, Value.category]; done)) ?_
  intro p e s m below meth c T0 hx hZ hby hml hown hnm hret hlk X0 e0
  have N0 := Fr.nil Z.heap.size
  have z0 : Z.heap.size ≤ h0.size := O0.2.1
  have Kr := Keep.refl h0 []
  show own_G _ _ _ _ (T0.setTop (mkF m 0 #[.val (.int c0)] []))
  refine own_st (fun _ k => XS.iloadN X0.here hx rfl (hb hby own_d_m5_0) rfl k) ?_
  show own_G _ _ _ _ (T0.setTop (mkF m 1 #[.val (.int c0)] [(.int c0)]))
  refine own_st (X0.ldcInt hx hown (mvT hZ (hw _ (List.mem_of_getElem? (i := 16) rfl))) (g := (mkF m 1 #[.val (.int c0)] [(.int c0)])) rfl (hb hby own_d_m5_1)) ?_
  show own_G _ _ _ _ (T0.setTop (mkF m 3 #[.val (.int c0)] [(.int (56320 : Int32)), (.int c0)]))
  by_cases h1 : c0 < (56320 : Int32)
  · show own_G _ _ _ _ (T0.setTop (mkF m 3 #[.val (.int c0)] [(.int (56320 : Int32)), (.int c0)]))
    refine own_st (fun _ k => XS.icmpYes X0.here hx rfl (pc0 := 3) (pc' := 16) rfl (hb hby own_d_m5_3) rfl (tlt h1).1 (by decide) (by decide) k) ?_
    show own_G _ _ _ _ (T0.setTop (mkF m 16 #[.val (.int c0)] []))
    refine own_st (fun _ k => XS.iconst X0.here hx rfl (hb hby own_d_m5_16) k) ?_
    show own_G _ _ _ _ (T0.setTop (mkF m 17 #[.val (.int c0)] [(.int (0 : Int32))]))
    exact own_retN X0 hx hret hlk (by simp) (hb hby own_d_m5_17) (by rw [e0]; exact ⟨0, rfl, N0, rfl, Or.inr ⟨rfl, fun q => by simp only [Int32.lt_iff_toInt_lt, Int32.reduceToInt] at h1; have := q.1; omega⟩⟩) (by decide) (by decide)
  · show own_G _ _ _ _ (T0.setTop (mkF m 3 #[.val (.int c0)] [(.int (56320 : Int32)), (.int c0)]))
    refine own_st (fun _ k => XS.icmpNo X0.here hx rfl (hb hby own_d_m5_3) rfl (flt h1).1 k) ?_
    show own_G _ _ _ _ (T0.setTop (mkF m 6 #[.val (.int c0)] []))
    refine own_st (fun _ k => XS.iloadN X0.here hx rfl (hb hby own_d_m5_6) rfl k) ?_
    show own_G _ _ _ _ (T0.setTop (mkF m 7 #[.val (.int c0)] [(.int c0)]))
    refine own_st (X0.ldcInt hx hown (mvT hZ (hw _ (List.mem_of_getElem? (i := 17) rfl))) (g := (mkF m 7 #[.val (.int c0)] [(.int c0)])) rfl (hb hby own_d_m5_7)) ?_
    show own_G _ _ _ _ (T0.setTop (mkF m 9 #[.val (.int c0)] [(.int (57343 : Int32)), (.int c0)]))
    by_cases h2 : (57343 : Int32) < c0
    · show own_G _ _ _ _ (T0.setTop (mkF m 9 #[.val (.int c0)] [(.int (57343 : Int32)), (.int c0)]))
      refine own_st (fun _ k => XS.icmpYes X0.here hx rfl (pc0 := 9) (pc' := 16) rfl (hb hby own_d_m5_9) rfl (tlt h2).2.2.1 (by decide) (by decide) k) ?_
      show own_G _ _ _ _ (T0.setTop (mkF m 16 #[.val (.int c0)] []))
      refine own_st (fun _ k => XS.iconst X0.here hx rfl (hb hby own_d_m5_16) k) ?_
      show own_G _ _ _ _ (T0.setTop (mkF m 17 #[.val (.int c0)] [(.int (0 : Int32))]))
      exact own_retN X0 hx hret hlk (by simp) (hb hby own_d_m5_17) (by rw [e0]; exact ⟨0, rfl, N0, rfl, Or.inr ⟨rfl, fun q => by simp only [Int32.lt_iff_toInt_lt, Int32.reduceToInt] at h2; have := q.2; omega⟩⟩) (by decide) (by decide)
    · show own_G _ _ _ _ (T0.setTop (mkF m 9 #[.val (.int c0)] [(.int (57343 : Int32)), (.int c0)]))
      refine own_st (fun _ k => XS.icmpNo X0.here hx rfl (hb hby own_d_m5_9) rfl (flt h2).2.2.1 k) ?_
      show own_G _ _ _ _ (T0.setTop (mkF m 12 #[.val (.int c0)] []))
      refine own_st (fun _ k => XS.iconst X0.here hx rfl (hb hby own_d_m5_12) k) ?_
      show own_G _ _ _ _ (T0.setTop (mkF m 13 #[.val (.int c0)] [(.int (1 : Int32))]))
      refine own_st (fun _ k => XS.goto X0.here hx rfl (pc0 := 13) (pc' := 17) rfl (hb hby own_d_m5_13) (by decide) (by decide) k) ?_
      show own_G _ _ _ _ (T0.setTop (mkF m 17 #[.val (.int c0)] [(.int (1 : Int32))]))
      exact own_retN X0 hx hret hlk (by simp) (hb hby own_d_m5_17) (by rw [e0]; exact ⟨1, rfl, N0, rfl, Or.inl ⟨rfl, by simp only [Int32.lt_iff_toInt_lt, Int32.reduceToInt] at h1 h2; exact ⟨by omega, by omega⟩⟩⟩) (by decide) (by decide)
theorem own_d_m3_0 : decode method_3_code 0 = .ok (.iload_n 0, 1) := by decide +kernel
theorem own_d_m3_1 : decode method_3_code 1 = .ok (.bipush 16, 2) := by decide +kernel
theorem own_d_m3_3 : decode method_3_code 3 = .ok (.iushr, 1) := by decide +kernel
theorem own_d_m3_4 : decode method_3_code 4 = .ok (.iconst 3, 1) := by decide +kernel
theorem own_d_m3_5 : decode method_3_code 5 = .ok (.iand, 1) := by decide +kernel
theorem own_d_m3_6 : decode method_3_code 6 = .ok (.istore_n 1, 1) := by decide +kernel
theorem own_d_m3_7 : decode method_3_code 7 = .ok (.iload_n 1, 1) := by decide +kernel
theorem own_d_m3_8 : decode method_3_code 8 = .ok (.ifCond .ne 13, 3) := by decide +kernel
theorem own_d_m3_11 : decode method_3_code 11 = .ok (.ldc 28, 2) := by decide +kernel
theorem own_d_m3_13 : decode method_3_code 13 = .ok (.iload_n 0, 1) := by decide +kernel
theorem own_d_m3_14 : decode method_3_code 14 = .ok (.sipush 1023, 3) := by decide +kernel
theorem own_d_m3_17 : decode method_3_code 17 = .ok (.iand, 1) := by decide +kernel
theorem own_d_m3_18 : decode method_3_code 18 = .ok (.ior, 1) := by decide +kernel
theorem own_d_m3_19 : decode method_3_code 19 = .ok (.i2c, 1) := by decide +kernel
theorem own_d_m3_20 : decode method_3_code 20 = .ok (.ireturn, 1) := by decide +kernel
theorem own_d_m3_21 : decode method_3_code 21 = .ok (.iload_n 1, 1) := by decide +kernel
theorem own_d_m3_22 : decode method_3_code 22 = .ok (.iconst 1, 1) := by decide +kernel
theorem own_d_m3_23 : decode method_3_code 23 = .ok (.if_icmp .ne 13, 3) := by decide +kernel
theorem own_d_m3_26 : decode method_3_code 26 = .ok (.ldc 29, 2) := by decide +kernel
theorem own_d_m3_28 : decode method_3_code 28 = .ok (.iload_n 0, 1) := by decide +kernel
theorem own_d_m3_29 : decode method_3_code 29 = .ok (.sipush 1023, 3) := by decide +kernel
theorem own_d_m3_32 : decode method_3_code 32 = .ok (.iand, 1) := by decide +kernel
theorem own_d_m3_33 : decode method_3_code 33 = .ok (.ior, 1) := by decide +kernel
theorem own_d_m3_34 : decode method_3_code 34 = .ok (.i2c, 1) := by decide +kernel
theorem own_d_m3_35 : decode method_3_code 35 = .ok (.ireturn, 1) := by decide +kernel
theorem own_d_m3_36 : decode method_3_code 36 = .ok (.iload_n 1, 1) := by decide +kernel
theorem own_d_m3_37 : decode method_3_code 37 = .ok (.iconst 2, 1) := by decide +kernel
theorem own_d_m3_38 : decode method_3_code 38 = .ok (.if_icmp .ne 9, 3) := by decide +kernel
theorem own_d_m3_41 : decode method_3_code 41 = .ok (.iload_n 0, 1) := by decide +kernel
theorem own_d_m3_42 : decode method_3_code 42 = .ok (.ldc 30, 2) := by decide +kernel
theorem own_d_m3_44 : decode method_3_code 44 = .ok (.iand, 1) := by decide +kernel
theorem own_d_m3_45 : decode method_3_code 45 = .ok (.i2c, 1) := by decide +kernel
theorem own_d_m3_46 : decode method_3_code 46 = .ok (.ireturn, 1) := by decide +kernel
theorem own_d_m3_47 : decode method_3_code 47 = .ok (.iload_n 0, 1) := by decide +kernel
theorem own_d_m3_48 : decode method_3_code 48 = .ok (.sipush 255, 3) := by decide +kernel
theorem own_d_m3_51 : decode method_3_code 51 = .ok (.iand, 1) := by decide +kernel
theorem own_d_m3_52 : decode method_3_code 52 = .ok (.i2c, 1) := by decide +kernel
theorem own_d_m3_53 : decode method_3_code 53 = .ok (.ireturn, 1) := by decide +kernel
set_option maxRecDepth 65536 in
set_option maxHeartbeats 40000000 in
theorem own_draw (l : Launch) (Z : State) (a0 : Array Value) (hw : ∀ d ∈ tables_1, d.before a0 Z = true) (ws : List Jvm.Cond) (c0 : Int32)  (h0 : Heap) (O0 : Old Z Z.heap.size h0)  :
    own_Met l Z (⟨"com/example/acquire/acquire/internal/LockNamesRequireValidPinLaw", "draw", "(I)C"⟩ : MethodName) method_3_code 2 (some .char) ws ({ frames := 0, cells := 0, slots := 0, locals := 0 } : Room) #[(.int c0)] h0 (fun v h L => ∃ r : Int32, v = some (.int r) ∧ Fr Z.heap.size L ∧ h = h0 ∧ (0 ≤ r.toInt ∧ r.toInt < 65536)) (({ frames := 0, cells := 0, slots := 0, locals := 0 } : Room)).cells (({ frames := 0, cells := 0, slots := 0, locals := 0 } : Room)).slots := by
  refine own_body (ef := fun m => mkF m 0 #[.val (.int c0), .unset] []) (plainFor_of_name own_pn226) (fun m => by first | rfl | (simp [entryFrame, mkF, argsToLocals, Value.category]; done)) ?_
  intro p e s m below meth c T0 hx hZ hby hml hown hnm hret hlk X0 e0
  have N0 := Fr.nil Z.heap.size
  have z0 : Z.heap.size ≤ h0.size := O0.2.1
  have Kr := Keep.refl h0 []
  show own_G _ _ _ _ (T0.setTop (mkF m 0 #[.val (.int c0), .unset] []))
  refine own_st (fun _ k => XS.iloadN X0.here hx rfl (hb hby own_d_m3_0) rfl k) ?_
  show own_G _ _ _ _ (T0.setTop (mkF m 1 #[.val (.int c0), .unset] [(.int c0)]))
  refine own_st (fun _ k => XS.bipush X0.here hx rfl (hb hby own_d_m3_1) k) ?_
  show own_G _ _ _ _ (T0.setTop (mkF m 3 #[.val (.int c0), .unset] [(.int (16 : Int32)), (.int c0)]))
  refine own_st (fun _ k => XS.iushr X0.here hx rfl (hb hby own_d_m3_3) rfl k) ?_
  show own_G _ _ _ _ (T0.setTop (mkF m 4 #[.val (.int c0), .unset] [(.int ((c0.toUInt32 >>> ((16 : Int32) &&& 31).toUInt32).toInt32))]))
  refine own_st (fun _ k => XS.iconst X0.here hx rfl (hb hby own_d_m3_4) k) ?_
  show own_G _ _ _ _ (T0.setTop (mkF m 5 #[.val (.int c0), .unset] [(.int (3 : Int32)), (.int ((c0.toUInt32 >>> ((16 : Int32) &&& 31).toUInt32).toInt32))]))
  refine own_st (fun _ k => XS.iand X0.here hx rfl (hb hby own_d_m3_5) rfl k) ?_
  show own_G _ _ _ _ (T0.setTop (mkF m 6 #[.val (.int c0), .unset] [(.int (((c0.toUInt32 >>> ((16 : Int32) &&& 31).toUInt32).toInt32) &&& (3 : Int32)))]))
  refine own_st (fun _ k => XS.istoreN X0.here hx rfl (hb hby own_d_m3_6) rfl (l' := #[.val (.int c0), .val (.int (((c0.toUInt32 >>> ((16 : Int32) &&& 31).toUInt32).toInt32) &&& (3 : Int32)))]) rfl k) ?_
  show own_G _ _ _ _ (T0.setTop (mkF m 7 #[.val (.int c0), .val (.int (((c0.toUInt32 >>> ((16 : Int32) &&& 31).toUInt32).toInt32) &&& (3 : Int32)))] []))
  refine own_st (fun _ k => XS.iloadN X0.here hx rfl (hb hby own_d_m3_7) rfl k) ?_
  show own_G _ _ _ _ (T0.setTop (mkF m 8 #[.val (.int c0), .val (.int (((c0.toUInt32 >>> ((16 : Int32) &&& 31).toUInt32).toInt32) &&& (3 : Int32)))] [(.int (((c0.toUInt32 >>> ((16 : Int32) &&& 31).toUInt32).toInt32) &&& (3 : Int32)))]))
  by_cases h1 : (((c0.toUInt32 >>> ((16 : Int32) &&& 31).toUInt32).toInt32) &&& (3 : Int32)) = (0 : Int32)
  · show own_G _ _ _ _ (T0.setTop (mkF m 8 #[.val (.int c0), .val (.int (((c0.toUInt32 >>> ((16 : Int32) &&& 31).toUInt32).toInt32) &&& (3 : Int32)))] [(.int (((c0.toUInt32 >>> ((16 : Int32) &&& 31).toUInt32).toInt32) &&& (3 : Int32)))]))
    refine own_st (fun _ k => XS.ifNo X0.here hx rfl (hb hby own_d_m3_8) rfl ((if0 _ _).trans (teq h1).2) k) ?_
    show own_G _ _ _ _ (T0.setTop (mkF m 11 #[.val (.int c0), .val (.int (((c0.toUInt32 >>> ((16 : Int32) &&& 31).toUInt32).toInt32) &&& (3 : Int32)))] []))
    refine own_st (X0.ldcInt hx hown (mvT hZ (hw _ (List.mem_of_getElem? (i := 4) rfl))) (g := (mkF m 11 #[.val (.int c0), .val (.int (((c0.toUInt32 >>> ((16 : Int32) &&& 31).toUInt32).toInt32) &&& (3 : Int32)))] [])) rfl (hb hby own_d_m3_11)) ?_
    show own_G _ _ _ _ (T0.setTop (mkF m 13 #[.val (.int c0), .val (.int (((c0.toUInt32 >>> ((16 : Int32) &&& 31).toUInt32).toInt32) &&& (3 : Int32)))] [(.int (55296 : Int32))]))
    refine own_st (fun _ k => XS.iloadN X0.here hx rfl (hb hby own_d_m3_13) rfl k) ?_
    show own_G _ _ _ _ (T0.setTop (mkF m 14 #[.val (.int c0), .val (.int (((c0.toUInt32 >>> ((16 : Int32) &&& 31).toUInt32).toInt32) &&& (3 : Int32)))] [(.int c0), (.int (55296 : Int32))]))
    refine own_st (fun _ k => XS.sipush X0.here hx rfl (hb hby own_d_m3_14) k) ?_
    show own_G _ _ _ _ (T0.setTop (mkF m 17 #[.val (.int c0), .val (.int (((c0.toUInt32 >>> ((16 : Int32) &&& 31).toUInt32).toInt32) &&& (3 : Int32)))] [(.int (1023 : Int32)), (.int c0), (.int (55296 : Int32))]))
    refine own_st (fun _ k => XS.iand X0.here hx rfl (hb hby own_d_m3_17) rfl k) ?_
    show own_G _ _ _ _ (T0.setTop (mkF m 18 #[.val (.int c0), .val (.int (((c0.toUInt32 >>> ((16 : Int32) &&& 31).toUInt32).toInt32) &&& (3 : Int32)))] [(.int (c0 &&& (1023 : Int32))), (.int (55296 : Int32))]))
    refine own_st (fun _ k => XS.ior X0.here hx rfl (hb hby own_d_m3_18) rfl k) ?_
    show own_G _ _ _ _ (T0.setTop (mkF m 19 #[.val (.int c0), .val (.int (((c0.toUInt32 >>> ((16 : Int32) &&& 31).toUInt32).toInt32) &&& (3 : Int32)))] [(.int ((55296 : Int32) ||| (c0 &&& (1023 : Int32))))]))
    refine own_st (fun _ k => XS.i2c X0.here hx rfl (hb hby own_d_m3_19) rfl k) ?_
    show own_G _ _ _ _ (T0.setTop (mkF m 20 #[.val (.int c0), .val (.int (((c0.toUInt32 >>> ((16 : Int32) &&& 31).toUInt32).toInt32) &&& (3 : Int32)))] [(.int (((55296 : Int32) ||| (c0 &&& (1023 : Int32))).toUInt32.toUInt16.toUInt32.toInt32))]))
    exact own_retN X0 hx hret hlk (by simp) (hb hby own_d_m3_20) (by rw [e0]; exact ⟨_, rfl, N0, rfl, (c_i2c _).2⟩) (by decide) (by decide)
  · show own_G _ _ _ _ (T0.setTop (mkF m 8 #[.val (.int c0), .val (.int (((c0.toUInt32 >>> ((16 : Int32) &&& 31).toUInt32).toInt32) &&& (3 : Int32)))] [(.int (((c0.toUInt32 >>> ((16 : Int32) &&& 31).toUInt32).toInt32) &&& (3 : Int32)))]))
    refine own_st (fun _ k => XS.ifYes X0.here hx rfl (pc0 := 8) (pc' := 21) rfl (hb hby own_d_m3_8) rfl ((if0 _ _).trans (feq h1).2) (by decide) (by decide) k) ?_
    show own_G _ _ _ _ (T0.setTop (mkF m 21 #[.val (.int c0), .val (.int (((c0.toUInt32 >>> ((16 : Int32) &&& 31).toUInt32).toInt32) &&& (3 : Int32)))] []))
    refine own_st (fun _ k => XS.iloadN X0.here hx rfl (hb hby own_d_m3_21) rfl k) ?_
    show own_G _ _ _ _ (T0.setTop (mkF m 22 #[.val (.int c0), .val (.int (((c0.toUInt32 >>> ((16 : Int32) &&& 31).toUInt32).toInt32) &&& (3 : Int32)))] [(.int (((c0.toUInt32 >>> ((16 : Int32) &&& 31).toUInt32).toInt32) &&& (3 : Int32)))]))
    refine own_st (fun _ k => XS.iconst X0.here hx rfl (hb hby own_d_m3_22) k) ?_
    show own_G _ _ _ _ (T0.setTop (mkF m 23 #[.val (.int c0), .val (.int (((c0.toUInt32 >>> ((16 : Int32) &&& 31).toUInt32).toInt32) &&& (3 : Int32)))] [(.int (1 : Int32)), (.int (((c0.toUInt32 >>> ((16 : Int32) &&& 31).toUInt32).toInt32) &&& (3 : Int32)))]))
    by_cases h2 : (((c0.toUInt32 >>> ((16 : Int32) &&& 31).toUInt32).toInt32) &&& (3 : Int32)) = (1 : Int32)
    · show own_G _ _ _ _ (T0.setTop (mkF m 23 #[.val (.int c0), .val (.int (((c0.toUInt32 >>> ((16 : Int32) &&& 31).toUInt32).toInt32) &&& (3 : Int32)))] [(.int (1 : Int32)), (.int (((c0.toUInt32 >>> ((16 : Int32) &&& 31).toUInt32).toInt32) &&& (3 : Int32)))]))
      refine own_st (fun _ k => XS.icmpNo X0.here hx rfl (hb hby own_d_m3_23) rfl (teq h2).2 k) ?_
      show own_G _ _ _ _ (T0.setTop (mkF m 26 #[.val (.int c0), .val (.int (((c0.toUInt32 >>> ((16 : Int32) &&& 31).toUInt32).toInt32) &&& (3 : Int32)))] []))
      refine own_st (X0.ldcInt hx hown (mvT hZ (hw _ (List.mem_of_getElem? (i := 16) rfl))) (g := (mkF m 26 #[.val (.int c0), .val (.int (((c0.toUInt32 >>> ((16 : Int32) &&& 31).toUInt32).toInt32) &&& (3 : Int32)))] [])) rfl (hb hby own_d_m3_26)) ?_
      show own_G _ _ _ _ (T0.setTop (mkF m 28 #[.val (.int c0), .val (.int (((c0.toUInt32 >>> ((16 : Int32) &&& 31).toUInt32).toInt32) &&& (3 : Int32)))] [(.int (56320 : Int32))]))
      refine own_st (fun _ k => XS.iloadN X0.here hx rfl (hb hby own_d_m3_28) rfl k) ?_
      show own_G _ _ _ _ (T0.setTop (mkF m 29 #[.val (.int c0), .val (.int (((c0.toUInt32 >>> ((16 : Int32) &&& 31).toUInt32).toInt32) &&& (3 : Int32)))] [(.int c0), (.int (56320 : Int32))]))
      refine own_st (fun _ k => XS.sipush X0.here hx rfl (hb hby own_d_m3_29) k) ?_
      show own_G _ _ _ _ (T0.setTop (mkF m 32 #[.val (.int c0), .val (.int (((c0.toUInt32 >>> ((16 : Int32) &&& 31).toUInt32).toInt32) &&& (3 : Int32)))] [(.int (1023 : Int32)), (.int c0), (.int (56320 : Int32))]))
      refine own_st (fun _ k => XS.iand X0.here hx rfl (hb hby own_d_m3_32) rfl k) ?_
      show own_G _ _ _ _ (T0.setTop (mkF m 33 #[.val (.int c0), .val (.int (((c0.toUInt32 >>> ((16 : Int32) &&& 31).toUInt32).toInt32) &&& (3 : Int32)))] [(.int (c0 &&& (1023 : Int32))), (.int (56320 : Int32))]))
      refine own_st (fun _ k => XS.ior X0.here hx rfl (hb hby own_d_m3_33) rfl k) ?_
      show own_G _ _ _ _ (T0.setTop (mkF m 34 #[.val (.int c0), .val (.int (((c0.toUInt32 >>> ((16 : Int32) &&& 31).toUInt32).toInt32) &&& (3 : Int32)))] [(.int ((56320 : Int32) ||| (c0 &&& (1023 : Int32))))]))
      refine own_st (fun _ k => XS.i2c X0.here hx rfl (hb hby own_d_m3_34) rfl k) ?_
      show own_G _ _ _ _ (T0.setTop (mkF m 35 #[.val (.int c0), .val (.int (((c0.toUInt32 >>> ((16 : Int32) &&& 31).toUInt32).toInt32) &&& (3 : Int32)))] [(.int (((56320 : Int32) ||| (c0 &&& (1023 : Int32))).toUInt32.toUInt16.toUInt32.toInt32))]))
      exact own_retN X0 hx hret hlk (by simp) (hb hby own_d_m3_35) (by rw [e0]; exact ⟨_, rfl, N0, rfl, (c_i2c _).2⟩) (by decide) (by decide)
    · show own_G _ _ _ _ (T0.setTop (mkF m 23 #[.val (.int c0), .val (.int (((c0.toUInt32 >>> ((16 : Int32) &&& 31).toUInt32).toInt32) &&& (3 : Int32)))] [(.int (1 : Int32)), (.int (((c0.toUInt32 >>> ((16 : Int32) &&& 31).toUInt32).toInt32) &&& (3 : Int32)))]))
      refine own_st (fun _ k => XS.icmpYes X0.here hx rfl (pc0 := 23) (pc' := 36) rfl (hb hby own_d_m3_23) rfl (feq h2).2 (by decide) (by decide) k) ?_
      show own_G _ _ _ _ (T0.setTop (mkF m 36 #[.val (.int c0), .val (.int (((c0.toUInt32 >>> ((16 : Int32) &&& 31).toUInt32).toInt32) &&& (3 : Int32)))] []))
      refine own_st (fun _ k => XS.iloadN X0.here hx rfl (hb hby own_d_m3_36) rfl k) ?_
      show own_G _ _ _ _ (T0.setTop (mkF m 37 #[.val (.int c0), .val (.int (((c0.toUInt32 >>> ((16 : Int32) &&& 31).toUInt32).toInt32) &&& (3 : Int32)))] [(.int (((c0.toUInt32 >>> ((16 : Int32) &&& 31).toUInt32).toInt32) &&& (3 : Int32)))]))
      refine own_st (fun _ k => XS.iconst X0.here hx rfl (hb hby own_d_m3_37) k) ?_
      show own_G _ _ _ _ (T0.setTop (mkF m 38 #[.val (.int c0), .val (.int (((c0.toUInt32 >>> ((16 : Int32) &&& 31).toUInt32).toInt32) &&& (3 : Int32)))] [(.int (2 : Int32)), (.int (((c0.toUInt32 >>> ((16 : Int32) &&& 31).toUInt32).toInt32) &&& (3 : Int32)))]))
      by_cases h3 : (((c0.toUInt32 >>> ((16 : Int32) &&& 31).toUInt32).toInt32) &&& (3 : Int32)) = (2 : Int32)
      · show own_G _ _ _ _ (T0.setTop (mkF m 38 #[.val (.int c0), .val (.int (((c0.toUInt32 >>> ((16 : Int32) &&& 31).toUInt32).toInt32) &&& (3 : Int32)))] [(.int (2 : Int32)), (.int (((c0.toUInt32 >>> ((16 : Int32) &&& 31).toUInt32).toInt32) &&& (3 : Int32)))]))
        refine own_st (fun _ k => XS.icmpNo X0.here hx rfl (hb hby own_d_m3_38) rfl (teq h3).2 k) ?_
        show own_G _ _ _ _ (T0.setTop (mkF m 41 #[.val (.int c0), .val (.int (((c0.toUInt32 >>> ((16 : Int32) &&& 31).toUInt32).toInt32) &&& (3 : Int32)))] []))
        refine own_st (fun _ k => XS.iloadN X0.here hx rfl (hb hby own_d_m3_41) rfl k) ?_
        show own_G _ _ _ _ (T0.setTop (mkF m 42 #[.val (.int c0), .val (.int (((c0.toUInt32 >>> ((16 : Int32) &&& 31).toUInt32).toInt32) &&& (3 : Int32)))] [(.int c0)]))
        refine own_st (X0.ldcInt hx hown (mvT hZ (hw _ (List.mem_of_getElem? (i := 18) rfl))) (g := (mkF m 42 #[.val (.int c0), .val (.int (((c0.toUInt32 >>> ((16 : Int32) &&& 31).toUInt32).toInt32) &&& (3 : Int32)))] [(.int c0)])) rfl (hb hby own_d_m3_42)) ?_
        show own_G _ _ _ _ (T0.setTop (mkF m 44 #[.val (.int c0), .val (.int (((c0.toUInt32 >>> ((16 : Int32) &&& 31).toUInt32).toInt32) &&& (3 : Int32)))] [(.int (65535 : Int32)), (.int c0)]))
        refine own_st (fun _ k => XS.iand X0.here hx rfl (hb hby own_d_m3_44) rfl k) ?_
        show own_G _ _ _ _ (T0.setTop (mkF m 45 #[.val (.int c0), .val (.int (((c0.toUInt32 >>> ((16 : Int32) &&& 31).toUInt32).toInt32) &&& (3 : Int32)))] [(.int (c0 &&& (65535 : Int32)))]))
        refine own_st (fun _ k => XS.i2c X0.here hx rfl (hb hby own_d_m3_45) rfl k) ?_
        show own_G _ _ _ _ (T0.setTop (mkF m 46 #[.val (.int c0), .val (.int (((c0.toUInt32 >>> ((16 : Int32) &&& 31).toUInt32).toInt32) &&& (3 : Int32)))] [(.int ((c0 &&& (65535 : Int32)).toUInt32.toUInt16.toUInt32.toInt32))]))
        exact own_retN X0 hx hret hlk (by simp) (hb hby own_d_m3_46) (by rw [e0]; exact ⟨_, rfl, N0, rfl, (c_i2c _).2⟩) (by decide) (by decide)
      · show own_G _ _ _ _ (T0.setTop (mkF m 38 #[.val (.int c0), .val (.int (((c0.toUInt32 >>> ((16 : Int32) &&& 31).toUInt32).toInt32) &&& (3 : Int32)))] [(.int (2 : Int32)), (.int (((c0.toUInt32 >>> ((16 : Int32) &&& 31).toUInt32).toInt32) &&& (3 : Int32)))]))
        refine own_st (fun _ k => XS.icmpYes X0.here hx rfl (pc0 := 38) (pc' := 47) rfl (hb hby own_d_m3_38) rfl (feq h3).2 (by decide) (by decide) k) ?_
        show own_G _ _ _ _ (T0.setTop (mkF m 47 #[.val (.int c0), .val (.int (((c0.toUInt32 >>> ((16 : Int32) &&& 31).toUInt32).toInt32) &&& (3 : Int32)))] []))
        refine own_st (fun _ k => XS.iloadN X0.here hx rfl (hb hby own_d_m3_47) rfl k) ?_
        show own_G _ _ _ _ (T0.setTop (mkF m 48 #[.val (.int c0), .val (.int (((c0.toUInt32 >>> ((16 : Int32) &&& 31).toUInt32).toInt32) &&& (3 : Int32)))] [(.int c0)]))
        refine own_st (fun _ k => XS.sipush X0.here hx rfl (hb hby own_d_m3_48) k) ?_
        show own_G _ _ _ _ (T0.setTop (mkF m 51 #[.val (.int c0), .val (.int (((c0.toUInt32 >>> ((16 : Int32) &&& 31).toUInt32).toInt32) &&& (3 : Int32)))] [(.int (255 : Int32)), (.int c0)]))
        refine own_st (fun _ k => XS.iand X0.here hx rfl (hb hby own_d_m3_51) rfl k) ?_
        show own_G _ _ _ _ (T0.setTop (mkF m 52 #[.val (.int c0), .val (.int (((c0.toUInt32 >>> ((16 : Int32) &&& 31).toUInt32).toInt32) &&& (3 : Int32)))] [(.int (c0 &&& (255 : Int32)))]))
        refine own_st (fun _ k => XS.i2c X0.here hx rfl (hb hby own_d_m3_52) rfl k) ?_
        show own_G _ _ _ _ (T0.setTop (mkF m 53 #[.val (.int c0), .val (.int (((c0.toUInt32 >>> ((16 : Int32) &&& 31).toUInt32).toInt32) &&& (3 : Int32)))] [(.int ((c0 &&& (255 : Int32)).toUInt32.toUInt16.toUInt32.toInt32))]))
        exact own_retN X0 hx hret hlk (by simp) (hb hby own_d_m3_53) (by rw [e0]; exact ⟨_, rfl, N0, rfl, (c_i2c _).2⟩) (by decide) (by decide)
theorem own_d_m6_0 : decode method_6_code 0 = .ok (.aload_n 0, 1) := by decide +kernel
theorem own_d_m6_1 : decode method_6_code 1 = .ok (.arraylength, 1) := by decide +kernel
theorem own_d_m6_2 : decode method_6_code 2 = .ok (.istore_n 2, 1) := by decide +kernel
theorem own_d_m6_3 : decode method_6_code 3 = .ok (.aload_n 0, 1) := by decide +kernel
theorem own_d_m6_4 : decode method_6_code 4 = .ok (.iload_n 1, 1) := by decide +kernel
theorem own_d_m6_5 : decode method_6_code 5 = .ok (.caload, 1) := by decide +kernel
theorem own_d_m6_6 : decode method_6_code 6 = .ok (.invokestatic 33, 3) := by decide +kernel
theorem own_pd292 : parseMethodDescriptor "(C)Z" = some ⟨[.char], some .boolean⟩ := by decide +kernel
theorem own_d_m6_9 : decode method_6_code 9 = .ok (.ifCond .eq 27, 3) := by decide +kernel
theorem own_d_m6_12 : decode method_6_code 12 = .ok (.iload_n 1, 1) := by decide +kernel
theorem own_d_m6_13 : decode method_6_code 13 = .ok (.iconst 1, 1) := by decide +kernel
theorem own_d_m6_14 : decode method_6_code 14 = .ok (.iadd, 1) := by decide +kernel
theorem own_d_m6_15 : decode method_6_code 15 = .ok (.iload_n 2, 1) := by decide +kernel
theorem own_d_m6_16 : decode method_6_code 16 = .ok (.if_icmp .ge 14, 3) := by decide +kernel
theorem own_d_m6_19 : decode method_6_code 19 = .ok (.aload_n 0, 1) := by decide +kernel
theorem own_d_m6_20 : decode method_6_code 20 = .ok (.iload_n 1, 1) := by decide +kernel
theorem own_d_m6_21 : decode method_6_code 21 = .ok (.iconst 1, 1) := by decide +kernel
theorem own_d_m6_22 : decode method_6_code 22 = .ok (.iadd, 1) := by decide +kernel
theorem own_d_m6_23 : decode method_6_code 23 = .ok (.caload, 1) := by decide +kernel
theorem own_d_m6_24 : decode method_6_code 24 = .ok (.invokestatic 37, 3) := by decide +kernel
theorem own_d_m6_27 : decode method_6_code 27 = .ok (.ifCond .ne 7, 3) := by decide +kernel
theorem own_d_m6_34 : decode method_6_code 34 = .ok (.iconst 0, 1) := by decide +kernel
theorem own_d_m6_35 : decode method_6_code 35 = .ok (.ireturn, 1) := by decide +kernel
theorem own_d_m6_30 : decode method_6_code 30 = .ok (.iconst 1, 1) := by decide +kernel
theorem own_d_m6_31 : decode method_6_code 31 = .ok (.goto 4, 3) := by decide +kernel
theorem own_d_m6_36 : decode method_6_code 36 = .ok (.aload_n 0, 1) := by decide +kernel
theorem own_d_m6_37 : decode method_6_code 37 = .ok (.iload_n 1, 1) := by decide +kernel
theorem own_d_m6_38 : decode method_6_code 38 = .ok (.caload, 1) := by decide +kernel
theorem own_d_m6_39 : decode method_6_code 39 = .ok (.invokestatic 37, 3) := by decide +kernel
theorem own_d_m6_42 : decode method_6_code 42 = .ok (.ifCond .eq 24, 3) := by decide +kernel
theorem own_d_m6_45 : decode method_6_code 45 = .ok (.iload_n 1, 1) := by decide +kernel
theorem own_d_m6_46 : decode method_6_code 46 = .ok (.ifCond .le 14, 3) := by decide +kernel
theorem own_d_m6_49 : decode method_6_code 49 = .ok (.aload_n 0, 1) := by decide +kernel
theorem own_d_m6_50 : decode method_6_code 50 = .ok (.iload_n 1, 1) := by decide +kernel
theorem own_d_m6_51 : decode method_6_code 51 = .ok (.iconst 1, 1) := by decide +kernel
theorem own_d_m6_52 : decode method_6_code 52 = .ok (.isub, 1) := by decide +kernel
theorem own_d_m6_53 : decode method_6_code 53 = .ok (.caload, 1) := by decide +kernel
theorem own_d_m6_54 : decode method_6_code 54 = .ok (.invokestatic 33, 3) := by decide +kernel
theorem own_d_m6_57 : decode method_6_code 57 = .ok (.ifCond .ne 7, 3) := by decide +kernel
theorem own_d_m6_64 : decode method_6_code 64 = .ok (.iconst 0, 1) := by decide +kernel
theorem own_d_m6_65 : decode method_6_code 65 = .ok (.ireturn, 1) := by decide +kernel
theorem own_d_m6_60 : decode method_6_code 60 = .ok (.iconst 1, 1) := by decide +kernel
theorem own_d_m6_61 : decode method_6_code 61 = .ok (.goto 4, 3) := by decide +kernel
theorem own_d_m6_66 : decode method_6_code 66 = .ok (.iconst 0, 1) := by decide +kernel
theorem own_d_m6_67 : decode method_6_code 67 = .ok (.ireturn, 1) := by decide +kernel
set_option maxRecDepth 65536 in
set_option maxHeartbeats 40000000 in
theorem own_unp (l : Launch) (Z : State) (a0 : Array Value) (hw : ∀ d ∈ tables_1, d.before a0 Z = true) (ws : List Jvm.Cond) (a1 : Addr) (j n : Nat) (f : Nat → Int32) (kc : ClassId) (h0 : Heap) (O0 : Old Z Z.heap.size h0) (hj : j < n) (hn : n ≤ 3) (Vc : Arv Z h0 a1 kc .char (Int32.ofNat n) (own_vals f n) (.int (0 : Int32))) :
    own_Met l Z (⟨"com/example/acquire/acquire/internal/LockNamesRequireValidPinLaw", "unpairedAt", "([CI)Z"⟩ : MethodName) method_6_code 3 (some .boolean) ws ({ frames := 1, cells := 0, slots := 0, locals := 12 } : Room) #[(.ref a1), (.int (Int32.ofNat j))] h0 (fun v h L => ∃ r : Int32, v = some (.int r) ∧ Fr Z.heap.size L ∧ h = h0 ∧ (r = 1 ∨ (r = 0 ∧ own_ok f n j))) (({ frames := 1, cells := 0, slots := 0, locals := 12 } : Room)).cells (({ frames := 1, cells := 0, slots := 0, locals := 12 } : Room)).slots := by
  refine own_body (ef := fun m => mkF m 0 #[.val (.ref a1), .val (.int (Int32.ofNat j)), .unset] []) (plainFor_of_name own_pn226) (fun m => by first | rfl | (simp [entryFrame, mkF, argsToLocals, Value.category]; done)) ?_
  intro p e s m below meth c T0 hx hZ hby hml hown hnm hret hlk X0 e0
  have N0 := Fr.nil Z.heap.size
  have z0 : Z.heap.size ≤ h0.size := O0.2.1
  have Kr := Keep.refl h0 []
  show own_G _ _ _ _ (T0.setTop (mkF m 0 #[.val (.ref a1), .val (.int (Int32.ofNat j)), .unset] []))
  have ltc := own_ltN Vc.lt
  refine own_st (fun _ k => XS.aloadN X0.here hx rfl (hb hby own_d_m6_0) rfl rfl k) ?_
  show own_G _ _ _ _ (T0.setTop (mkF m 1 #[.val (.ref a1), .val (.int (Int32.ofNat j)), .unset] [(.ref a1)]))
  obtain ⟨cl1, Ar1, qk1, Sz1, Mz1, Hz1, Uz1⟩ := id Vc
  refine own_st (X0.arraylength hx (by rw [e0]; exact Ar1.1) (State.isArrayOf_alike hZ.alike Ar1.2.1) (g := (mkF m 1 #[.val (.ref a1), .val (.int (Int32.ofNat j)), .unset] [(.ref a1)])) rfl rfl (hb hby own_d_m6_1)) ?_
  rw [len_of Sz1 Mz1]
  show own_G _ _ _ _ (T0.setTop (mkF m 2 #[.val (.ref a1), .val (.int (Int32.ofNat j)), .unset] [(.int (Int32.ofNat n))]))
  refine own_st (fun _ k => XS.istoreN X0.here hx rfl (hb hby own_d_m6_2) rfl (l' := #[.val (.ref a1), .val (.int (Int32.ofNat j)), .val (.int (Int32.ofNat n))]) rfl k) ?_
  show own_G _ _ _ _ (T0.setTop (mkF m 3 #[.val (.ref a1), .val (.int (Int32.ofNat j)), .val (.int (Int32.ofNat n))] []))
  refine own_st (fun _ k => XS.aloadN X0.here hx rfl (hb hby own_d_m6_3) rfl rfl k) ?_
  show own_G _ _ _ _ (T0.setTop (mkF m 4 #[.val (.ref a1), .val (.int (Int32.ofNat j)), .val (.int (Int32.ofNat n))] [(.ref a1)]))
  refine own_st (fun _ k => XS.iloadN X0.here hx rfl (hb hby own_d_m6_4) rfl k) ?_
  show own_G _ _ _ _ (T0.setTop (mkF m 5 #[.val (.ref a1), .val (.int (Int32.ofNat j)), .val (.int (Int32.ofNat n))] [(.int (Int32.ofNat j)), (.ref a1)]))
  obtain ⟨cl2, Ar2, qk2, Sz2, Mz2, Hz2, Uz2⟩ := id Vc
  refine own_st (X0.caload hx (j := (Int32.ofNat j)) (v := (.int (f j))) (by rw [e0]; exact Ar2.1) (State.isArrayOf_alike hZ.alike Ar2.2.1) Ar2.2.2 (own_in Sz2 hj (by omega)) (own_get Sz2 Hz2 hj (by omega)) (g := (mkF m 5 #[.val (.ref a1), .val (.int (Int32.ofNat j)), .val (.int (Int32.ofNat n))] [(.int (Int32.ofNat j)), (.ref a1)])) rfl rfl (hb hby own_d_m6_5)) ?_
  show own_G _ _ _ _ (T0.setTop (mkF m 6 #[.val (.ref a1), .val (.int (Int32.ofNat j)), .val (.int (Int32.ofNat n))] [(.int (f j))]))
  obtain ⟨_, _, ⟨T3, L3, k3, n3⟩, -, X3, ⟨Lc3, hQ3, l3, y3, z3⟩, st3⟩ := Jvm.LawKit.callS X0 hx (y := (⟨"com/example/acquire/acquire/internal/LockNamesRequireValidPinLaw", "isHigh", "(C)Z"⟩ : MethodName)) hown (mvT hZ (hw _ (List.mem_of_getElem? (i := 9) rfl))) (mvT hZ (hw _ (List.mem_of_getElem? (i := 10) rfl))) (mvT hZ (hw _ (List.mem_of_getElem? (i := 2) rfl))) (mvT hZ (hw _ (List.mem_of_getElem? (i := 11) rfl))) (by decide) (own_back (rm := ({ frames := 0, cells := 0, slots := 0, locals := 0 } : Room)) (W := 0) (own_isHigh l Z a0 hw [] (f j) h0 O0) hZ (hw _ (List.mem_of_getElem? (i := 11) rfl)) (hw _ (List.mem_of_getElem? (i := 2) rfl)) (by decide) (by decide)) (g := (mkF m 6 #[.val (.ref a1), .val (.int (Int32.ofNat j)), .val (.int (Int32.ofNat n))] [(.int (f j))])) rfl (by rw [hml]; rfl) (argsL := [(.int (f j))]) (rest := []) (lenOf own_pd292 rfl) rfl (by show 2 * 0 + _ ≤ _; exact Nat.le_of_eq rfl) (hb hby own_d_m6_6) (fun _ _ => ⟨rfl, e0, (by decide : 0 + 0 ≤ _), (by decide : 0 + 0 ≤ _)⟩)
  dsimp only [Pt.U, Pt.locs, Pt.cells, Pt.slots] at X3 l3 y3 z3 st3 hQ3
  subst l3 y3 z3
  obtain ⟨r3, rfl, N3q, eh3, c3⟩ := hQ3
  have N3 := Fr.app N0 N3q
  refine own_st st3 ?_
  show own_G _ _ _ _ (T3.setTop (mkF m 9 #[.val (.ref a1), .val (.int (Int32.ofNat j)), .val (.int (Int32.ofNat n))] [(.int r3)]))
  rcases c3 with ⟨rfl, hh⟩ | ⟨rfl, hh⟩
  · show own_G _ _ _ _ (T3.setTop (mkF m 9 #[.val (.ref a1), .val (.int (Int32.ofNat j)), .val (.int (Int32.ofNat n))] [(.int (1 : Int32))]))
    refine own_st (fun _ k => XS.ifNo X3.here hx rfl (hb hby own_d_m6_9) rfl ((if0 _ _).trans (feq (by decide)).1) k) ?_
    show own_G _ _ _ _ (T3.setTop (mkF m 12 #[.val (.ref a1), .val (.int (Int32.ofNat j)), .val (.int (Int32.ofNat n))] []))
    refine own_st (fun _ k => XS.iloadN X3.here hx rfl (hb hby own_d_m6_12) rfl k) ?_
    show own_G _ _ _ _ (T3.setTop (mkF m 13 #[.val (.ref a1), .val (.int (Int32.ofNat j)), .val (.int (Int32.ofNat n))] [(.int (Int32.ofNat j))]))
    refine own_st (fun _ k => XS.iconst X3.here hx rfl (hb hby own_d_m6_13) k) ?_
    show own_G _ _ _ _ (T3.setTop (mkF m 14 #[.val (.ref a1), .val (.int (Int32.ofNat j)), .val (.int (Int32.ofNat n))] [(.int (1 : Int32)), (.int (Int32.ofNat j))]))
    refine own_st (fun _ k => XS.iadd X3.here hx rfl (hb hby own_d_m6_14) rfl k) ?_
    show own_G _ _ _ _ (T3.setTop (mkF m 15 #[.val (.ref a1), .val (.int (Int32.ofNat j)), .val (.int (Int32.ofNat n))] [(.int ((Int32.ofNat j) + (1 : Int32)))]))
    rw [own_one]
    show own_G _ _ _ _ (T3.setTop (mkF m 15 #[.val (.ref a1), .val (.int (Int32.ofNat j)), .val (.int (Int32.ofNat n))] [(.int (Int32.ofNat (j + 1)))]))
    refine own_st (fun _ k => XS.iloadN X3.here hx rfl (hb hby own_d_m6_15) rfl k) ?_
    show own_G _ _ _ _ (T3.setTop (mkF m 16 #[.val (.ref a1), .val (.int (Int32.ofNat j)), .val (.int (Int32.ofNat n))] [(.int (Int32.ofNat n)), (.int (Int32.ofNat (j + 1)))]))
    by_cases hj1 : j + 1 < n
    · skip
      refine own_st (fun _ k => XS.icmpNo X3.here hx rfl (hb hby own_d_m6_16) rfl (tlt (own_lt hj1 (by omega))).2.1 k) ?_
      show own_G _ _ _ _ (T3.setTop (mkF m 19 #[.val (.ref a1), .val (.int (Int32.ofNat j)), .val (.int (Int32.ofNat n))] []))
      refine own_st (fun _ k => XS.aloadN X3.here hx rfl (hb hby own_d_m6_19) rfl rfl k) ?_
      show own_G _ _ _ _ (T3.setTop (mkF m 20 #[.val (.ref a1), .val (.int (Int32.ofNat j)), .val (.int (Int32.ofNat n))] [(.ref a1)]))
      refine own_st (fun _ k => XS.iloadN X3.here hx rfl (hb hby own_d_m6_20) rfl k) ?_
      show own_G _ _ _ _ (T3.setTop (mkF m 21 #[.val (.ref a1), .val (.int (Int32.ofNat j)), .val (.int (Int32.ofNat n))] [(.int (Int32.ofNat j)), (.ref a1)]))
      refine own_st (fun _ k => XS.iconst X3.here hx rfl (hb hby own_d_m6_21) k) ?_
      show own_G _ _ _ _ (T3.setTop (mkF m 22 #[.val (.ref a1), .val (.int (Int32.ofNat j)), .val (.int (Int32.ofNat n))] [(.int (1 : Int32)), (.int (Int32.ofNat j)), (.ref a1)]))
      refine own_st (fun _ k => XS.iadd X3.here hx rfl (hb hby own_d_m6_22) rfl k) ?_
      show own_G _ _ _ _ (T3.setTop (mkF m 23 #[.val (.ref a1), .val (.int (Int32.ofNat j)), .val (.int (Int32.ofNat n))] [(.int ((Int32.ofNat j) + (1 : Int32))), (.ref a1)]))
      rw [own_one]
      show own_G _ _ _ _ (T3.setTop (mkF m 23 #[.val (.ref a1), .val (.int (Int32.ofNat j)), .val (.int (Int32.ofNat n))] [(.int (Int32.ofNat (j + 1))), (.ref a1)]))
      obtain ⟨cl4, Ar4, qk4, Sz4, Mz4, Hz4, Uz4⟩ := id Vc
      refine own_st (X3.caload hx (j := (Int32.ofNat (j + 1))) (v := (.int (f (j + 1)))) (by rw [eh3]; exact Ar4.1) (State.isArrayOf_alike hZ.alike Ar4.2.1) Ar4.2.2 (own_in Sz4 hj1 (by omega)) (own_get Sz4 Hz4 hj1 (by omega)) (g := (mkF m 23 #[.val (.ref a1), .val (.int (Int32.ofNat j)), .val (.int (Int32.ofNat n))] [(.int (Int32.ofNat (j + 1))), (.ref a1)])) rfl rfl (hb hby own_d_m6_23)) ?_
      show own_G _ _ _ _ (T3.setTop (mkF m 24 #[.val (.ref a1), .val (.int (Int32.ofNat j)), .val (.int (Int32.ofNat n))] [(.int (f (j + 1)))]))
      obtain ⟨_, _, ⟨T5, L5, k5, n5⟩, -, X5, ⟨Lc5, hQ5, l5, y5, z5⟩, st5⟩ := Jvm.LawKit.callS X3 hx (y := (⟨"com/example/acquire/acquire/internal/LockNamesRequireValidPinLaw", "isLow", "(C)Z"⟩ : MethodName)) hown (mvT hZ (hw _ (List.mem_of_getElem? (i := 13) rfl))) (mvT hZ (hw _ (List.mem_of_getElem? (i := 14) rfl))) (mvT hZ (hw _ (List.mem_of_getElem? (i := 2) rfl))) (mvT hZ (hw _ (List.mem_of_getElem? (i := 15) rfl))) (by decide) (own_back (rm := ({ frames := 0, cells := 0, slots := 0, locals := 0 } : Room)) (W := 0) (own_isLow l Z a0 hw [] (f (j + 1)) h0 O0) hZ (hw _ (List.mem_of_getElem? (i := 15) rfl)) (hw _ (List.mem_of_getElem? (i := 2) rfl)) (by decide) (by decide)) (g := (mkF m 24 #[.val (.ref a1), .val (.int (Int32.ofNat j)), .val (.int (Int32.ofNat n))] [(.int (f (j + 1)))])) rfl (by rw [hml]; rfl) (argsL := [(.int (f (j + 1)))]) (rest := []) (lenOf own_pd292 rfl) rfl (by show 2 * 0 + _ ≤ _; exact Nat.le_of_eq rfl) (hb hby own_d_m6_24) (fun _ _ => ⟨rfl, eh3, (by decide : 0 + 0 + 0 ≤ _), (by decide : 0 + 0 + 0 ≤ _)⟩)
      dsimp only [Pt.U, Pt.locs, Pt.cells, Pt.slots] at X5 l5 y5 z5 st5 hQ5
      subst l5 y5 z5
      obtain ⟨r5, rfl, N5q, eh5, c5⟩ := hQ5
      have N5 := Fr.app N3 N5q
      refine own_st st5 ?_
      show own_G _ _ _ _ (T5.setTop (mkF m 27 #[.val (.ref a1), .val (.int (Int32.ofNat j)), .val (.int (Int32.ofNat n))] [(.int r5)]))
      rcases c5 with ⟨rfl, hl1⟩ | ⟨rfl, hl1⟩
      · show own_G _ _ _ _ (T5.setTop (mkF m 27 #[.val (.ref a1), .val (.int (Int32.ofNat j)), .val (.int (Int32.ofNat n))] [(.int (1 : Int32))]))
        refine own_st (fun _ k => XS.ifYes X5.here hx rfl (pc0 := 27) (pc' := 34) rfl (hb hby own_d_m6_27) rfl ((if0 _ _).trans (feq (by decide)).2) (by decide) (by decide) k) ?_
        show own_G _ _ _ _ (T5.setTop (mkF m 34 #[.val (.ref a1), .val (.int (Int32.ofNat j)), .val (.int (Int32.ofNat n))] []))
        refine own_st (fun _ k => XS.iconst X5.here hx rfl (hb hby own_d_m6_34) k) ?_
        show own_G _ _ _ _ (T5.setTop (mkF m 35 #[.val (.ref a1), .val (.int (Int32.ofNat j)), .val (.int (Int32.ofNat n))] [(.int (0 : Int32))]))
        exact own_retN X5 hx hret hlk (by simp) (hb hby own_d_m6_35) (by rw [eh5]; exact ⟨0, rfl, N5, rfl, Or.inr ⟨rfl, fun _ => ⟨hj1, hl1⟩, fun q => absurd q.1 (by have := hh.2; omega)⟩⟩) (by decide) (by decide)
      · show own_G _ _ _ _ (T5.setTop (mkF m 27 #[.val (.ref a1), .val (.int (Int32.ofNat j)), .val (.int (Int32.ofNat n))] [(.int (0 : Int32))]))
        refine own_st (fun _ k => XS.ifNo X5.here hx rfl (hb hby own_d_m6_27) rfl ((if0 _ _).trans (teq rfl).2) k) ?_
        show own_G _ _ _ _ (T5.setTop (mkF m 30 #[.val (.ref a1), .val (.int (Int32.ofNat j)), .val (.int (Int32.ofNat n))] []))
        refine own_st (fun _ k => XS.iconst X5.here hx rfl (hb hby own_d_m6_30) k) ?_
        show own_G _ _ _ _ (T5.setTop (mkF m 31 #[.val (.ref a1), .val (.int (Int32.ofNat j)), .val (.int (Int32.ofNat n))] [(.int (1 : Int32))]))
        refine own_st (fun _ k => XS.goto X5.here hx rfl (pc0 := 31) (pc' := 35) rfl (hb hby own_d_m6_31) (by decide) (by decide) k) ?_
        show own_G _ _ _ _ (T5.setTop (mkF m 35 #[.val (.ref a1), .val (.int (Int32.ofNat j)), .val (.int (Int32.ofNat n))] [(.int (1 : Int32))]))
        exact own_retN X5 hx hret hlk (by simp) (hb hby own_d_m6_35) (by rw [eh5]; exact ⟨1, rfl, N5, rfl, Or.inl rfl⟩) (by decide) (by decide)
    · skip
      refine own_st (fun _ k => XS.icmpYes X3.here hx rfl (pc0 := 16) (pc' := 30) rfl (hb hby own_d_m6_16) rfl (flt (by rw [Int32.lt_iff_toInt_lt, own_nat (by omega), own_nat (by omega)]; omega)).2.1 (by decide) (by decide) k) ?_
      show own_G _ _ _ _ (T3.setTop (mkF m 30 #[.val (.ref a1), .val (.int (Int32.ofNat j)), .val (.int (Int32.ofNat n))] []))
      refine own_st (fun _ k => XS.iconst X3.here hx rfl (hb hby own_d_m6_30) k) ?_
      show own_G _ _ _ _ (T3.setTop (mkF m 31 #[.val (.ref a1), .val (.int (Int32.ofNat j)), .val (.int (Int32.ofNat n))] [(.int (1 : Int32))]))
      refine own_st (fun _ k => XS.goto X3.here hx rfl (pc0 := 31) (pc' := 35) rfl (hb hby own_d_m6_31) (by decide) (by decide) k) ?_
      show own_G _ _ _ _ (T3.setTop (mkF m 35 #[.val (.ref a1), .val (.int (Int32.ofNat j)), .val (.int (Int32.ofNat n))] [(.int (1 : Int32))]))
      exact own_retN X3 hx hret hlk (by simp) (hb hby own_d_m6_35) (by rw [eh3]; exact ⟨1, rfl, N3, rfl, Or.inl rfl⟩) (by decide) (by decide)
  · show own_G _ _ _ _ (T3.setTop (mkF m 9 #[.val (.ref a1), .val (.int (Int32.ofNat j)), .val (.int (Int32.ofNat n))] [(.int (0 : Int32))]))
    refine own_st (fun _ k => XS.ifYes X3.here hx rfl (pc0 := 9) (pc' := 36) rfl (hb hby own_d_m6_9) rfl ((if0 _ _).trans (teq rfl).1) (by decide) (by decide) k) ?_
    show own_G _ _ _ _ (T3.setTop (mkF m 36 #[.val (.ref a1), .val (.int (Int32.ofNat j)), .val (.int (Int32.ofNat n))] []))
    refine own_st (fun _ k => XS.aloadN X3.here hx rfl (hb hby own_d_m6_36) rfl rfl k) ?_
    show own_G _ _ _ _ (T3.setTop (mkF m 37 #[.val (.ref a1), .val (.int (Int32.ofNat j)), .val (.int (Int32.ofNat n))] [(.ref a1)]))
    refine own_st (fun _ k => XS.iloadN X3.here hx rfl (hb hby own_d_m6_37) rfl k) ?_
    show own_G _ _ _ _ (T3.setTop (mkF m 38 #[.val (.ref a1), .val (.int (Int32.ofNat j)), .val (.int (Int32.ofNat n))] [(.int (Int32.ofNat j)), (.ref a1)]))
    obtain ⟨cl6, Ar6, qk6, Sz6, Mz6, Hz6, Uz6⟩ := id Vc
    refine own_st (X3.caload hx (j := (Int32.ofNat j)) (v := (.int (f j))) (by rw [eh3]; exact Ar6.1) (State.isArrayOf_alike hZ.alike Ar6.2.1) Ar6.2.2 (own_in Sz6 hj (by omega)) (own_get Sz6 Hz6 hj (by omega)) (g := (mkF m 38 #[.val (.ref a1), .val (.int (Int32.ofNat j)), .val (.int (Int32.ofNat n))] [(.int (Int32.ofNat j)), (.ref a1)])) rfl rfl (hb hby own_d_m6_38)) ?_
    show own_G _ _ _ _ (T3.setTop (mkF m 39 #[.val (.ref a1), .val (.int (Int32.ofNat j)), .val (.int (Int32.ofNat n))] [(.int (f j))]))
    obtain ⟨_, _, ⟨T7, L7, k7, n7⟩, -, X7, ⟨Lc7, hQ7, l7, y7, z7⟩, st7⟩ := Jvm.LawKit.callS X3 hx (y := (⟨"com/example/acquire/acquire/internal/LockNamesRequireValidPinLaw", "isLow", "(C)Z"⟩ : MethodName)) hown (mvT hZ (hw _ (List.mem_of_getElem? (i := 13) rfl))) (mvT hZ (hw _ (List.mem_of_getElem? (i := 14) rfl))) (mvT hZ (hw _ (List.mem_of_getElem? (i := 2) rfl))) (mvT hZ (hw _ (List.mem_of_getElem? (i := 15) rfl))) (by decide) (own_back (rm := ({ frames := 0, cells := 0, slots := 0, locals := 0 } : Room)) (W := 0) (own_isLow l Z a0 hw [] (f j) h0 O0) hZ (hw _ (List.mem_of_getElem? (i := 15) rfl)) (hw _ (List.mem_of_getElem? (i := 2) rfl)) (by decide) (by decide)) (g := (mkF m 39 #[.val (.ref a1), .val (.int (Int32.ofNat j)), .val (.int (Int32.ofNat n))] [(.int (f j))])) rfl (by rw [hml]; rfl) (argsL := [(.int (f j))]) (rest := []) (lenOf own_pd292 rfl) rfl (by show 2 * 0 + _ ≤ _; exact Nat.le_of_eq rfl) (hb hby own_d_m6_39) (fun _ _ => ⟨rfl, eh3, (by decide : 0 + 0 + 0 ≤ _), (by decide : 0 + 0 + 0 ≤ _)⟩)
    dsimp only [Pt.U, Pt.locs, Pt.cells, Pt.slots] at X7 l7 y7 z7 st7 hQ7
    subst l7 y7 z7
    obtain ⟨r7, rfl, N7q, eh7, c7⟩ := hQ7
    have N7 := Fr.app N3 N7q
    refine own_st st7 ?_
    show own_G _ _ _ _ (T7.setTop (mkF m 42 #[.val (.ref a1), .val (.int (Int32.ofNat j)), .val (.int (Int32.ofNat n))] [(.int r7)]))
    rcases c7 with ⟨rfl, hl⟩ | ⟨rfl, hl⟩
    · show own_G _ _ _ _ (T7.setTop (mkF m 42 #[.val (.ref a1), .val (.int (Int32.ofNat j)), .val (.int (Int32.ofNat n))] [(.int (1 : Int32))]))
      refine own_st (fun _ k => XS.ifNo X7.here hx rfl (hb hby own_d_m6_42) rfl ((if0 _ _).trans (feq (by decide)).1) k) ?_
      show own_G _ _ _ _ (T7.setTop (mkF m 45 #[.val (.ref a1), .val (.int (Int32.ofNat j)), .val (.int (Int32.ofNat n))] []))
      refine own_st (fun _ k => XS.iloadN X7.here hx rfl (hb hby own_d_m6_45) rfl k) ?_
      show own_G _ _ _ _ (T7.setTop (mkF m 46 #[.val (.ref a1), .val (.int (Int32.ofNat j)), .val (.int (Int32.ofNat n))] [(.int (Int32.ofNat j))]))
      by_cases hj0 : 0 < j
      · skip
        refine own_st (fun _ k => XS.ifNo X7.here hx rfl (hb hby own_d_m6_46) rfl ((if0 _ _).trans (tlt (by rw [Int32.lt_iff_toInt_lt, own_nat (by omega)]; exact Int.ofNat_lt.mpr hj0)).2.2.2) k) ?_
        show own_G _ _ _ _ (T7.setTop (mkF m 49 #[.val (.ref a1), .val (.int (Int32.ofNat j)), .val (.int (Int32.ofNat n))] []))
        refine own_st (fun _ k => XS.aloadN X7.here hx rfl (hb hby own_d_m6_49) rfl rfl k) ?_
        show own_G _ _ _ _ (T7.setTop (mkF m 50 #[.val (.ref a1), .val (.int (Int32.ofNat j)), .val (.int (Int32.ofNat n))] [(.ref a1)]))
        refine own_st (fun _ k => XS.iloadN X7.here hx rfl (hb hby own_d_m6_50) rfl k) ?_
        show own_G _ _ _ _ (T7.setTop (mkF m 51 #[.val (.ref a1), .val (.int (Int32.ofNat j)), .val (.int (Int32.ofNat n))] [(.int (Int32.ofNat j)), (.ref a1)]))
        refine own_st (fun _ k => XS.iconst X7.here hx rfl (hb hby own_d_m6_51) k) ?_
        show own_G _ _ _ _ (T7.setTop (mkF m 52 #[.val (.ref a1), .val (.int (Int32.ofNat j)), .val (.int (Int32.ofNat n))] [(.int (1 : Int32)), (.int (Int32.ofNat j)), (.ref a1)]))
        refine own_st (fun _ k => XS.isub X7.here hx rfl (hb hby own_d_m6_52) rfl k) ?_
        show own_G _ _ _ _ (T7.setTop (mkF m 53 #[.val (.ref a1), .val (.int (Int32.ofNat j)), .val (.int (Int32.ofNat n))] [(.int ((Int32.ofNat j) - (1 : Int32))), (.ref a1)]))
        rw [own_pred hj0 (by omega)]
        show own_G _ _ _ _ (T7.setTop (mkF m 53 #[.val (.ref a1), .val (.int (Int32.ofNat j)), .val (.int (Int32.ofNat n))] [(.int (Int32.ofNat (j - 1))), (.ref a1)]))
        obtain ⟨cl8, Ar8, qk8, Sz8, Mz8, Hz8, Uz8⟩ := id Vc
        refine own_st (X7.caload hx (j := (Int32.ofNat (j - 1))) (v := (.int (f (j - 1)))) (by rw [eh7]; exact Ar8.1) (State.isArrayOf_alike hZ.alike Ar8.2.1) Ar8.2.2 (own_in Sz8 (by omega) (by omega)) (own_get Sz8 Hz8 (by omega) (by omega)) (g := (mkF m 53 #[.val (.ref a1), .val (.int (Int32.ofNat j)), .val (.int (Int32.ofNat n))] [(.int (Int32.ofNat (j - 1))), (.ref a1)])) rfl rfl (hb hby own_d_m6_53)) ?_
        show own_G _ _ _ _ (T7.setTop (mkF m 54 #[.val (.ref a1), .val (.int (Int32.ofNat j)), .val (.int (Int32.ofNat n))] [(.int (f (j - 1)))]))
        obtain ⟨_, _, ⟨T9, L9, k9, n9⟩, -, X9, ⟨Lc9, hQ9, l9, y9, z9⟩, st9⟩ := Jvm.LawKit.callS X7 hx (y := (⟨"com/example/acquire/acquire/internal/LockNamesRequireValidPinLaw", "isHigh", "(C)Z"⟩ : MethodName)) hown (mvT hZ (hw _ (List.mem_of_getElem? (i := 9) rfl))) (mvT hZ (hw _ (List.mem_of_getElem? (i := 10) rfl))) (mvT hZ (hw _ (List.mem_of_getElem? (i := 2) rfl))) (mvT hZ (hw _ (List.mem_of_getElem? (i := 11) rfl))) (by decide) (own_back (rm := ({ frames := 0, cells := 0, slots := 0, locals := 0 } : Room)) (W := 0) (own_isHigh l Z a0 hw [] (f (j - 1)) h0 O0) hZ (hw _ (List.mem_of_getElem? (i := 11) rfl)) (hw _ (List.mem_of_getElem? (i := 2) rfl)) (by decide) (by decide)) (g := (mkF m 54 #[.val (.ref a1), .val (.int (Int32.ofNat j)), .val (.int (Int32.ofNat n))] [(.int (f (j - 1)))])) rfl (by rw [hml]; rfl) (argsL := [(.int (f (j - 1)))]) (rest := []) (lenOf own_pd292 rfl) rfl (by show 2 * 0 + _ ≤ _; exact Nat.le_of_eq rfl) (hb hby own_d_m6_54) (fun _ _ => ⟨rfl, eh7, (by decide : 0 + 0 + 0 + 0 ≤ _), (by decide : 0 + 0 + 0 + 0 ≤ _)⟩)
        dsimp only [Pt.U, Pt.locs, Pt.cells, Pt.slots] at X9 l9 y9 z9 st9 hQ9
        subst l9 y9 z9
        obtain ⟨r9, rfl, N9q, eh9, c9⟩ := hQ9
        have N9 := Fr.app N7 N9q
        refine own_st st9 ?_
        show own_G _ _ _ _ (T9.setTop (mkF m 57 #[.val (.ref a1), .val (.int (Int32.ofNat j)), .val (.int (Int32.ofNat n))] [(.int r9)]))
        rcases c9 with ⟨rfl, hh1⟩ | ⟨rfl, hh1⟩
        · show own_G _ _ _ _ (T9.setTop (mkF m 57 #[.val (.ref a1), .val (.int (Int32.ofNat j)), .val (.int (Int32.ofNat n))] [(.int (1 : Int32))]))
          refine own_st (fun _ k => XS.ifYes X9.here hx rfl (pc0 := 57) (pc' := 64) rfl (hb hby own_d_m6_57) rfl ((if0 _ _).trans (feq (by decide)).2) (by decide) (by decide) k) ?_
          show own_G _ _ _ _ (T9.setTop (mkF m 64 #[.val (.ref a1), .val (.int (Int32.ofNat j)), .val (.int (Int32.ofNat n))] []))
          refine own_st (fun _ k => XS.iconst X9.here hx rfl (hb hby own_d_m6_64) k) ?_
          show own_G _ _ _ _ (T9.setTop (mkF m 65 #[.val (.ref a1), .val (.int (Int32.ofNat j)), .val (.int (Int32.ofNat n))] [(.int (0 : Int32))]))
          exact own_retN X9 hx hret hlk (by simp) (hb hby own_d_m6_65) (by rw [eh9]; exact ⟨0, rfl, N9, rfl, Or.inr ⟨rfl, fun q => absurd q hh, fun _ => ⟨hj0, hh1⟩⟩⟩) (by decide) (by decide)
        · show own_G _ _ _ _ (T9.setTop (mkF m 57 #[.val (.ref a1), .val (.int (Int32.ofNat j)), .val (.int (Int32.ofNat n))] [(.int (0 : Int32))]))
          refine own_st (fun _ k => XS.ifNo X9.here hx rfl (hb hby own_d_m6_57) rfl ((if0 _ _).trans (teq rfl).2) k) ?_
          show own_G _ _ _ _ (T9.setTop (mkF m 60 #[.val (.ref a1), .val (.int (Int32.ofNat j)), .val (.int (Int32.ofNat n))] []))
          refine own_st (fun _ k => XS.iconst X9.here hx rfl (hb hby own_d_m6_60) k) ?_
          show own_G _ _ _ _ (T9.setTop (mkF m 61 #[.val (.ref a1), .val (.int (Int32.ofNat j)), .val (.int (Int32.ofNat n))] [(.int (1 : Int32))]))
          refine own_st (fun _ k => XS.goto X9.here hx rfl (pc0 := 61) (pc' := 65) rfl (hb hby own_d_m6_61) (by decide) (by decide) k) ?_
          show own_G _ _ _ _ (T9.setTop (mkF m 65 #[.val (.ref a1), .val (.int (Int32.ofNat j)), .val (.int (Int32.ofNat n))] [(.int (1 : Int32))]))
          exact own_retN X9 hx hret hlk (by simp) (hb hby own_d_m6_65) (by rw [eh9]; exact ⟨1, rfl, N9, rfl, Or.inl rfl⟩) (by decide) (by decide)
      · skip
        refine own_st (fun _ k => XS.ifYes X7.here hx rfl (pc0 := 46) (pc' := 60) rfl (hb hby own_d_m6_46) rfl ((if0 _ _).trans (flt (by rw [Int32.lt_iff_toInt_lt, own_nat (by omega), show (0 : Int32).toInt = 0 from rfl]; omega)).2.2.2) (by decide) (by decide) k) ?_
        show own_G _ _ _ _ (T7.setTop (mkF m 60 #[.val (.ref a1), .val (.int (Int32.ofNat j)), .val (.int (Int32.ofNat n))] []))
        refine own_st (fun _ k => XS.iconst X7.here hx rfl (hb hby own_d_m6_60) k) ?_
        show own_G _ _ _ _ (T7.setTop (mkF m 61 #[.val (.ref a1), .val (.int (Int32.ofNat j)), .val (.int (Int32.ofNat n))] [(.int (1 : Int32))]))
        refine own_st (fun _ k => XS.goto X7.here hx rfl (pc0 := 61) (pc' := 65) rfl (hb hby own_d_m6_61) (by decide) (by decide) k) ?_
        show own_G _ _ _ _ (T7.setTop (mkF m 65 #[.val (.ref a1), .val (.int (Int32.ofNat j)), .val (.int (Int32.ofNat n))] [(.int (1 : Int32))]))
        exact own_retN X7 hx hret hlk (by simp) (hb hby own_d_m6_65) (by rw [eh7]; exact ⟨1, rfl, N7, rfl, Or.inl rfl⟩) (by decide) (by decide)
    · show own_G _ _ _ _ (T7.setTop (mkF m 42 #[.val (.ref a1), .val (.int (Int32.ofNat j)), .val (.int (Int32.ofNat n))] [(.int (0 : Int32))]))
      refine own_st (fun _ k => XS.ifYes X7.here hx rfl (pc0 := 42) (pc' := 66) rfl (hb hby own_d_m6_42) rfl ((if0 _ _).trans (teq rfl).1) (by decide) (by decide) k) ?_
      show own_G _ _ _ _ (T7.setTop (mkF m 66 #[.val (.ref a1), .val (.int (Int32.ofNat j)), .val (.int (Int32.ofNat n))] []))
      refine own_st (fun _ k => XS.iconst X7.here hx rfl (hb hby own_d_m6_66) k) ?_
      show own_G _ _ _ _ (T7.setTop (mkF m 67 #[.val (.ref a1), .val (.int (Int32.ofNat j)), .val (.int (Int32.ofNat n))] [(.int (0 : Int32))]))
      exact own_retN X7 hx hret hlk (by simp) (hb hby own_d_m6_67) (by rw [eh7]; exact ⟨0, rfl, N7, rfl, Or.inr ⟨rfl, fun q => absurd q hh, fun q => absurd q hl⟩⟩) (by decide) (by decide)
theorem own_d_jdk_89_m19_0 : decode jdk_89_method_19_code 0 = .ok (.iload_n 0, 1) := by decide +kernel
theorem own_d_jdk_89_m19_1 : decode jdk_89_method_19_code 1 = .ok (.bipush 10, 2) := by decide +kernel
theorem own_d_jdk_89_m19_3 : decode jdk_89_method_19_code 3 = .ok (.ishl, 1) := by decide +kernel
theorem own_d_jdk_89_m19_4 : decode jdk_89_method_19_code 4 = .ok (.iload_n 1, 1) := by decide +kernel
theorem own_d_jdk_89_m19_5 : decode jdk_89_method_19_code 5 = .ok (.iadd, 1) := by decide +kernel
theorem own_d_jdk_89_m19_6 : decode jdk_89_method_19_code 6 = .ok (.ldc 85, 2) := by decide +kernel
theorem own_d_jdk_89_m19_8 : decode jdk_89_method_19_code 8 = .ok (.iadd, 1) := by decide +kernel
theorem own_d_jdk_89_m19_9 : decode jdk_89_method_19_code 9 = .ok (.ireturn, 1) := by decide +kernel
set_option maxRecDepth 65536 in
set_option maxHeartbeats 40000000 in
theorem own_tcp (l : Launch) (Z : State) (a0 : Array Value) (hw : ∀ d ∈ tables_1, d.before a0 Z = true) (ws : List Jvm.Cond) (c0 : Int32) (c1 : Int32)  (h0 : Heap) (O0 : Old Z Z.heap.size h0)  :
    own_Met l Z (⟨"java/lang/Character", "toCodePoint", "(CC)I"⟩ : MethodName) jdk_89_method_19_code 2 (some .int) ws ({ frames := 0, cells := 0, slots := 0, locals := 0 } : Room) #[(.int c0), (.int c1)] h0 (fun v h L => v = some (.int (((c0 <<< ((10 : Int32) &&& 31)) + c1) + (-56613888 : Int32))) ∧ Fr Z.heap.size L ∧ h = h0) (({ frames := 0, cells := 0, slots := 0, locals := 0 } : Room)).cells (({ frames := 0, cells := 0, slots := 0, locals := 0 } : Room)).slots := by
  refine own_body (ef := fun m => mkF m 0 #[.val (.int c0), .val (.int c1)] []) (plainFor_of_name own_pn205) (fun m => by first | rfl | (simp [entryFrame, mkF, argsToLocals, Value.category]; done)) ?_
  intro p e s m below meth c T0 hx hZ hby hml hown hnm hret hlk X0 e0
  have N0 := Fr.nil Z.heap.size
  have z0 : Z.heap.size ≤ h0.size := O0.2.1
  have Kr := Keep.refl h0 []
  show own_G _ _ _ _ (T0.setTop (mkF m 0 #[.val (.int c0), .val (.int c1)] []))
  refine own_st (fun _ k => XS.iloadN X0.here hx rfl (hb hby own_d_jdk_89_m19_0) rfl k) ?_
  show own_G _ _ _ _ (T0.setTop (mkF m 1 #[.val (.int c0), .val (.int c1)] [(.int c0)]))
  refine own_st (fun _ k => XS.bipush X0.here hx rfl (hb hby own_d_jdk_89_m19_1) k) ?_
  show own_G _ _ _ _ (T0.setTop (mkF m 3 #[.val (.int c0), .val (.int c1)] [(.int (10 : Int32)), (.int c0)]))
  refine own_st (fun _ k => XS.ishl X0.here hx rfl (hb hby own_d_jdk_89_m19_3) rfl k) ?_
  show own_G _ _ _ _ (T0.setTop (mkF m 4 #[.val (.int c0), .val (.int c1)] [(.int (c0 <<< ((10 : Int32) &&& 31)))]))
  refine own_st (fun _ k => XS.iloadN X0.here hx rfl (hb hby own_d_jdk_89_m19_4) rfl k) ?_
  show own_G _ _ _ _ (T0.setTop (mkF m 5 #[.val (.int c0), .val (.int c1)] [(.int c1), (.int (c0 <<< ((10 : Int32) &&& 31)))]))
  refine own_st (fun _ k => XS.iadd X0.here hx rfl (hb hby own_d_jdk_89_m19_5) rfl k) ?_
  show own_G _ _ _ _ (T0.setTop (mkF m 6 #[.val (.int c0), .val (.int c1)] [(.int ((c0 <<< ((10 : Int32) &&& 31)) + c1))]))
  refine own_st (X0.ldcInt hx hown (mvT hZ (hw _ (List.mem_of_getElem? (i := 132) rfl))) (g := (mkF m 6 #[.val (.int c0), .val (.int c1)] [(.int ((c0 <<< ((10 : Int32) &&& 31)) + c1))])) rfl (hb hby own_d_jdk_89_m19_6)) ?_
  show own_G _ _ _ _ (T0.setTop (mkF m 8 #[.val (.int c0), .val (.int c1)] [(.int (-56613888 : Int32)), (.int ((c0 <<< ((10 : Int32) &&& 31)) + c1))]))
  refine own_st (fun _ k => XS.iadd X0.here hx rfl (hb hby own_d_jdk_89_m19_8) rfl k) ?_
  show own_G _ _ _ _ (T0.setTop (mkF m 9 #[.val (.int c0), .val (.int c1)] [(.int (((c0 <<< ((10 : Int32) &&& 31)) + c1) + (-56613888 : Int32)))]))
  exact own_retI X0 hx hret hlk (hb hby own_d_jdk_89_m19_9) (by rw [e0]; exact ⟨rfl, N0, rfl⟩) (by decide) (by decide)
theorem own_d_jdk_89_m18_0 : decode jdk_89_method_18_code 0 = .ok (.iload_n 0, 1) := by decide +kernel
theorem own_d_jdk_89_m18_1 : decode jdk_89_method_18_code 1 = .ok (.ldc 73, 2) := by decide +kernel
theorem own_d_jdk_89_m18_3 : decode jdk_89_method_18_code 3 = .ok (.if_icmp .lt 7, 3) := by decide +kernel
theorem own_d_jdk_89_m18_10 : decode jdk_89_method_18_code 10 = .ok (.iconst 1, 1) := by decide +kernel
theorem own_d_jdk_89_m18_11 : decode jdk_89_method_18_code 11 = .ok (.ireturn, 1) := by decide +kernel
theorem own_d_jdk_89_m18_6 : decode jdk_89_method_18_code 6 = .ok (.iconst 2, 1) := by decide +kernel
theorem own_d_jdk_89_m18_7 : decode jdk_89_method_18_code 7 = .ok (.goto 4, 3) := by decide +kernel
set_option maxRecDepth 65536 in
set_option maxHeartbeats 40000000 in
theorem own_cc (l : Launch) (Z : State) (a0 : Array Value) (hw : ∀ d ∈ tables_1, d.before a0 Z = true) (ws : List Jvm.Cond) (c0 : Int32)  (h0 : Heap) (O0 : Old Z Z.heap.size h0)  :
    own_Met l Z (⟨"java/lang/Character", "charCount", "(I)I"⟩ : MethodName) jdk_89_method_18_code 1 (some .int) ws ({ frames := 0, cells := 0, slots := 0, locals := 0 } : Room) #[(.int c0)] h0 (fun v h L => ∃ r : Int32, v = some (.int r) ∧ Fr Z.heap.size L ∧ h = h0 ∧ ((r = 1 ∧ c0 < (65536 : Int32)) ∨ (r = 2 ∧ ¬ c0 < (65536 : Int32)))) (({ frames := 0, cells := 0, slots := 0, locals := 0 } : Room)).cells (({ frames := 0, cells := 0, slots := 0, locals := 0 } : Room)).slots := by
  refine own_body (ef := fun m => mkF m 0 #[.val (.int c0)] []) (plainFor_of_name own_pn205) (fun m => by first | rfl | (simp [entryFrame, mkF, argsToLocals, Value.category]; done)) ?_
  intro p e s m below meth c T0 hx hZ hby hml hown hnm hret hlk X0 e0
  have N0 := Fr.nil Z.heap.size
  have z0 : Z.heap.size ≤ h0.size := O0.2.1
  have Kr := Keep.refl h0 []
  show own_G _ _ _ _ (T0.setTop (mkF m 0 #[.val (.int c0)] []))
  refine own_st (fun _ k => XS.iloadN X0.here hx rfl (hb hby own_d_jdk_89_m18_0) rfl k) ?_
  show own_G _ _ _ _ (T0.setTop (mkF m 1 #[.val (.int c0)] [(.int c0)]))
  refine own_st (X0.ldcInt hx hown (mvT hZ (hw _ (List.mem_of_getElem? (i := 122) rfl))) (g := (mkF m 1 #[.val (.int c0)] [(.int c0)])) rfl (hb hby own_d_jdk_89_m18_1)) ?_
  show own_G _ _ _ _ (T0.setTop (mkF m 3 #[.val (.int c0)] [(.int (65536 : Int32)), (.int c0)]))
  by_cases h1 : c0 < (65536 : Int32)
  · show own_G _ _ _ _ (T0.setTop (mkF m 3 #[.val (.int c0)] [(.int (65536 : Int32)), (.int c0)]))
    refine own_st (fun _ k => XS.icmpYes X0.here hx rfl (pc0 := 3) (pc' := 10) rfl (hb hby own_d_jdk_89_m18_3) rfl (tlt h1).1 (by decide) (by decide) k) ?_
    show own_G _ _ _ _ (T0.setTop (mkF m 10 #[.val (.int c0)] []))
    refine own_st (fun _ k => XS.iconst X0.here hx rfl (hb hby own_d_jdk_89_m18_10) k) ?_
    show own_G _ _ _ _ (T0.setTop (mkF m 11 #[.val (.int c0)] [(.int (1 : Int32))]))
    exact own_retI X0 hx hret hlk (hb hby own_d_jdk_89_m18_11) (by rw [e0]; exact ⟨1, rfl, N0, rfl, Or.inl ⟨rfl, h1⟩⟩) (by decide) (by decide)
  · show own_G _ _ _ _ (T0.setTop (mkF m 3 #[.val (.int c0)] [(.int (65536 : Int32)), (.int c0)]))
    refine own_st (fun _ k => XS.icmpNo X0.here hx rfl (hb hby own_d_jdk_89_m18_3) rfl (flt h1).1 k) ?_
    show own_G _ _ _ _ (T0.setTop (mkF m 6 #[.val (.int c0)] []))
    refine own_st (fun _ k => XS.iconst X0.here hx rfl (hb hby own_d_jdk_89_m18_6) k) ?_
    show own_G _ _ _ _ (T0.setTop (mkF m 7 #[.val (.int c0)] [(.int (2 : Int32))]))
    refine own_st (fun _ k => XS.goto X0.here hx rfl (pc0 := 7) (pc' := 11) rfl (hb hby own_d_jdk_89_m18_7) (by decide) (by decide) k) ?_
    show own_G _ _ _ _ (T0.setTop (mkF m 11 #[.val (.int c0)] [(.int (2 : Int32))]))
    exact own_retI X0 hx hret hlk (hb hby own_d_jdk_89_m18_11) (by rw [e0]; exact ⟨2, rfl, N0, rfl, Or.inr ⟨rfl, h1⟩⟩) (by decide) (by decide)
theorem own_d_jdk_52_m7_0 : decode jdk_52_method_7_code 0 = .ok (.getstatic 44, 3) := by decide +kernel
theorem own_d_jdk_52_m7_3 : decode jdk_52_method_7_code 3 = .ok (.ifCond .ne 16, 3) := by decide +kernel
theorem own_d_jdk_52_m7_19 : decode jdk_52_method_7_code 19 = .ok (.iload_n 3, 1) := by decide +kernel
theorem own_d_jdk_52_m7_20 : decode jdk_52_method_7_code 20 = .ok (.ifCond .eq 8, 3) := by decide +kernel
theorem own_d_jdk_52_m7_28 : decode jdk_52_method_7_code 28 = .ok (.aload_n 0, 1) := by decide +kernel
theorem own_d_jdk_52_m7_29 : decode jdk_52_method_7_code 29 = .ok (.iload_n 1, 1) := by decide +kernel
theorem own_d_jdk_52_m7_30 : decode jdk_52_method_7_code 30 = .ok (.invokestatic 71, 3) := by decide +kernel
theorem own_d_jdk_52_m7_33 : decode jdk_52_method_7_code 33 = .ok (.istore 4, 2) := by decide +kernel
theorem own_d_jdk_52_m7_35 : decode jdk_52_method_7_code 35 = .ok (.iload 4, 2) := by decide +kernel
theorem own_d_jdk_52_m7_37 : decode jdk_52_method_7_code 37 = .ok (.invokestatic 75, 3) := by decide +kernel
theorem own_d_jdk_52_m7_40 : decode jdk_52_method_7_code 40 = .ok (.ifCond .eq 43, 3) := by decide +kernel
theorem own_d_jdk_52_m7_43 : decode jdk_52_method_7_code 43 = .ok (.iinc 1 1, 3) := by decide +kernel
theorem own_d_jdk_52_m7_46 : decode jdk_52_method_7_code 46 = .ok (.iload_n 1, 1) := by decide +kernel
theorem own_d_jdk_52_m7_47 : decode jdk_52_method_7_code 47 = .ok (.iload_n 2, 1) := by decide +kernel
theorem own_d_jdk_52_m7_48 : decode jdk_52_method_7_code 48 = .ok (.if_icmp .ge 35, 3) := by decide +kernel
theorem own_d_jdk_52_m7_51 : decode jdk_52_method_7_code 51 = .ok (.iload_n 3, 1) := by decide +kernel
theorem own_d_jdk_52_m7_52 : decode jdk_52_method_7_code 52 = .ok (.ifCond .eq 8, 3) := by decide +kernel
theorem own_d_jdk_52_m7_60 : decode jdk_52_method_7_code 60 = .ok (.aload_n 0, 1) := by decide +kernel
theorem own_d_jdk_52_m7_61 : decode jdk_52_method_7_code 61 = .ok (.iload_n 1, 1) := by decide +kernel
theorem own_d_jdk_52_m7_62 : decode jdk_52_method_7_code 62 = .ok (.invokestatic 71, 3) := by decide +kernel
theorem own_d_jdk_52_m7_65 : decode jdk_52_method_7_code 65 = .ok (.istore 5, 2) := by decide +kernel
theorem own_d_jdk_52_m7_67 : decode jdk_52_method_7_code 67 = .ok (.iload 5, 2) := by decide +kernel
theorem own_d_jdk_52_m7_69 : decode jdk_52_method_7_code 69 = .ok (.invokestatic 81, 3) := by decide +kernel
theorem own_d_jdk_52_m7_72 : decode jdk_52_method_7_code 72 = .ok (.ifCond .eq 11, 3) := by decide +kernel
theorem own_d_jdk_52_m7_75 : decode jdk_52_method_7_code 75 = .ok (.iload 4, 2) := by decide +kernel
theorem own_d_jdk_52_m7_77 : decode jdk_52_method_7_code 77 = .ok (.iload 5, 2) := by decide +kernel
theorem own_d_jdk_52_m7_79 : decode jdk_52_method_7_code 79 = .ok (.invokestatic 84, 3) := by decide +kernel
theorem own_pd372 : parseMethodDescriptor "(CC)I" = some ⟨[.char, .char], some .int⟩ := by decide +kernel
theorem own_d_jdk_52_m7_82 : decode jdk_52_method_7_code 82 = .ok (.ireturn, 1) := by decide +kernel
theorem own_d_jdk_52_m7_83 : decode jdk_52_method_7_code 83 = .ok (.iload 4, 2) := by decide +kernel
theorem own_d_jdk_52_m7_85 : decode jdk_52_method_7_code 85 = .ok (.ireturn, 1) := by decide +kernel
set_option maxRecDepth 65536 in
set_option maxHeartbeats 40000000 in
theorem own_cp4 (l : Launch) (Z : State) (a0 : Array Value) (hw : ∀ d ∈ tables_1, d.before a0 Z = true) (ws : List Jvm.Cond) (a1 : Addr) (i n : Nat) (f : Nat → Int32) (kt : ClassId) (h0 : Heap) (O0 : Old Z Z.heap.size h0) (hi : i < n) (hn : n ≤ 3) (hf : ∀ j, j < n → 0 ≤ (f j).toInt ∧ (f j).toInt < 65536) (US : own_US Z) (Vt : Arv Z h0 a1 kt .byte (Int32.ofNat (2 * n)) (own_vals (own_wide f) (2 * n)) (.int (0 : Int32))) :
    own_Met l Z (⟨"java/lang/StringUTF16", "codePointAt", "([BIIZ)I"⟩ : MethodName) jdk_52_method_7_code 6 (some .int) ws ({ frames := 1, cells := 0, slots := 0, locals := 13 } : Room) #[(.ref a1), (.int (Int32.ofNat i)), (.int (Int32.ofNat n)), (.int (Int32.ofNat 0))] h0 (fun v h L => ∃ r : Int32, v = some (.int r) ∧ Fr Z.heap.size L ∧ h = h0 ∧ (((own_hs (f i) ∧ i + 1 < n ∧ own_ls (f (i + 1))) ∧ 65536 ≤ r.toInt) ∨ (r = f i ∧ ¬ (own_hs (f i) ∧ i + 1 < n ∧ own_ls (f (i + 1)))))) (({ frames := 1, cells := 0, slots := 0, locals := 13 } : Room)).cells (({ frames := 1, cells := 0, slots := 0, locals := 13 } : Room)).slots := by
  refine own_body (ef := fun m => mkF m 0 #[.val (.ref a1), .val (.int (Int32.ofNat i)), .val (.int (Int32.ofNat n)), .val (.int (Int32.ofNat 0)), .unset, .unset] []) (plainFor_of_name own_pn0) (fun m => by first | rfl | (simp [entryFrame, mkF, argsToLocals, Value.category]; done)) ?_
  intro p e s m below meth c T0 hx hZ hby hml hown hnm hret hlk X0 e0
  have N0 := Fr.nil Z.heap.size
  have z0 : Z.heap.size ≤ h0.size := O0.2.1
  have Kr := Keep.refl h0 []
  show own_G _ _ _ _ (T0.setTop (mkF m 0 #[.val (.ref a1), .val (.int (Int32.ofNat i)), .val (.int (Int32.ofNat n)), .val (.int (Int32.ofNat 0)), .unset, .unset] []))
  obtain ⟨U1, U2, U3⟩ := id US
  obtain ⟨T1, X1, e1, st1⟩ := getS2 X0 hx hZ hown (host := "") (Or.inl (hw _ (List.mem_of_getElem? (i := 54) rfl))) Via.refl e0 (Sta.ext O0.2 U1) (g := (mkF m 0 #[.val (.ref a1), .val (.int (Int32.ofNat i)), .val (.int (Int32.ofNat n)), .val (.int (Int32.ofNat 0)), .unset, .unset] [])) rfl (hb hby own_d_jdk_52_m7_0)
  refine own_st st1 ?_
  show own_G _ _ _ _ (T1.setTop (mkF m 3 #[.val (.ref a1), .val (.int (Int32.ofNat i)), .val (.int (Int32.ofNat n)), .val (.int (Int32.ofNat 0)), .unset, .unset] [(.int (1 : Int32))]))
  refine own_st (fun _ k => XS.ifYes X1.here hx rfl (pc0 := 3) (pc' := 19) rfl (hb hby own_d_jdk_52_m7_3) rfl ((if0 _ _).trans (feq (by decide)).2) (by decide) (by decide) k) ?_
  show own_G _ _ _ _ (T1.setTop (mkF m 19 #[.val (.ref a1), .val (.int (Int32.ofNat i)), .val (.int (Int32.ofNat n)), .val (.int (Int32.ofNat 0)), .unset, .unset] []))
  refine own_st (fun _ k => XS.iloadN X1.here hx rfl (hb hby own_d_jdk_52_m7_19) rfl k) ?_
  show own_G _ _ _ _ (T1.setTop (mkF m 20 #[.val (.ref a1), .val (.int (Int32.ofNat i)), .val (.int (Int32.ofNat n)), .val (.int (Int32.ofNat 0)), .unset, .unset] [(.int (Int32.ofNat 0))]))
  refine own_st (fun _ k => XS.ifYes X1.here hx rfl (pc0 := 20) (pc' := 28) rfl (hb hby own_d_jdk_52_m7_20) rfl ((if0 _ _).trans (teq rfl).1) (by decide) (by decide) k) ?_
  show own_G _ _ _ _ (T1.setTop (mkF m 28 #[.val (.ref a1), .val (.int (Int32.ofNat i)), .val (.int (Int32.ofNat n)), .val (.int (Int32.ofNat 0)), .unset, .unset] []))
  refine own_st (fun _ k => XS.aloadN X1.here hx rfl (hb hby own_d_jdk_52_m7_28) rfl rfl k) ?_
  show own_G _ _ _ _ (T1.setTop (mkF m 29 #[.val (.ref a1), .val (.int (Int32.ofNat i)), .val (.int (Int32.ofNat n)), .val (.int (Int32.ofNat 0)), .unset, .unset] [(.ref a1)]))
  refine own_st (fun _ k => XS.iloadN X1.here hx rfl (hb hby own_d_jdk_52_m7_29) rfl k) ?_
  show own_G _ _ _ _ (T1.setTop (mkF m 30 #[.val (.ref a1), .val (.int (Int32.ofNat i)), .val (.int (Int32.ofNat n)), .val (.int (Int32.ofNat 0)), .unset, .unset] [(.int (Int32.ofNat i)), (.ref a1)]))
  obtain ⟨_, _, ⟨T2, L2, k2, n2⟩, -, X2, ⟨Lc2, hQ2, l2, y2, z2⟩, st2⟩ := Jvm.LawKit.callS X1 hx (y := (⟨"java/lang/StringUTF16", "getChar", "([BI)C"⟩ : MethodName)) hown (mvT hZ (hw _ (List.mem_of_getElem? (i := 57) rfl))) (mvT hZ (hw _ (List.mem_of_getElem? (i := 58) rfl))) (mvT hZ (hw _ (List.mem_of_getElem? (i := 35) rfl))) (mvT hZ (hw _ (List.mem_of_getElem? (i := 59) rfl))) (by decide) (own_back (rm := ({ frames := 0, cells := 0, slots := 0, locals := 0 } : Room)) (W := 0) (own_getChar l Z a0 hw [] a1 i n f kt h0 O0 hi hn (hf i hi) US Vt) hZ (hw _ (List.mem_of_getElem? (i := 59) rfl)) (hw _ (List.mem_of_getElem? (i := 35) rfl)) (by decide) (by decide)) (g := (mkF m 30 #[.val (.ref a1), .val (.int (Int32.ofNat i)), .val (.int (Int32.ofNat n)), .val (.int (Int32.ofNat 0)), .unset, .unset] [(.int (Int32.ofNat i)), (.ref a1)])) rfl (by rw [hml]; rfl) (argsL := [(.ref a1), (.int (Int32.ofNat i))]) (rest := []) (lenOf own_pd140 rfl) rfl (by show 2 * 0 + _ ≤ _; exact Nat.le_of_eq rfl) (hb hby own_d_jdk_52_m7_30) (fun _ _ => ⟨rfl, e1, (by decide : 0 + 0 ≤ _), (by decide : 0 + 0 ≤ _)⟩)
  dsimp only [Pt.U, Pt.locs, Pt.cells, Pt.slots] at X2 l2 y2 z2 st2 hQ2
  subst l2 y2 z2
  obtain ⟨rfl, N2q, eh2⟩ := hQ2
  have N2 := Fr.app N0 N2q
  refine own_st st2 ?_
  show own_G _ _ _ _ (T2.setTop (mkF m 33 #[.val (.ref a1), .val (.int (Int32.ofNat i)), .val (.int (Int32.ofNat n)), .val (.int (Int32.ofNat 0)), .unset, .unset] [(.int (f i))]))
  refine own_st (fun _ k => XS.istore X2.here hx rfl (hb hby own_d_jdk_52_m7_33) rfl (l' := #[.val (.ref a1), .val (.int (Int32.ofNat i)), .val (.int (Int32.ofNat n)), .val (.int (Int32.ofNat 0)), .val (.int (f i)), .unset]) rfl k) ?_
  show own_G _ _ _ _ (T2.setTop (mkF m 35 #[.val (.ref a1), .val (.int (Int32.ofNat i)), .val (.int (Int32.ofNat n)), .val (.int (Int32.ofNat 0)), .val (.int (f i)), .unset] []))
  refine own_st (fun _ k => XS.iload X2.here hx rfl (hb hby own_d_jdk_52_m7_35) rfl k) ?_
  show own_G _ _ _ _ (T2.setTop (mkF m 37 #[.val (.ref a1), .val (.int (Int32.ofNat i)), .val (.int (Int32.ofNat n)), .val (.int (Int32.ofNat 0)), .val (.int (f i)), .unset] [(.int (f i))]))
  obtain ⟨_, _, ⟨T3, L3, k3, n3⟩, -, X3, ⟨Lc3, hQ3, l3, y3, z3⟩, st3⟩ := Jvm.LawKit.callS X2 hx (y := (⟨"java/lang/Character", "isHighSurrogate", "(C)Z"⟩ : MethodName)) hown (mvT hZ (hw _ (List.mem_of_getElem? (i := 113) rfl))) (mvT hZ (hw _ (List.mem_of_getElem? (i := 114) rfl))) (mvT hZ (hw _ (List.mem_of_getElem? (i := 115) rfl))) (mvT hZ (hw _ (List.mem_of_getElem? (i := 116) rfl))) (by decide) (own_back (rm := ({ frames := 0, cells := 0, slots := 0, locals := 0 } : Room)) (W := 0) (own_hiS l Z a0 hw [] (f i) h0 O0) hZ (hw _ (List.mem_of_getElem? (i := 116) rfl)) (hw _ (List.mem_of_getElem? (i := 115) rfl)) (by decide) (by decide)) (g := (mkF m 37 #[.val (.ref a1), .val (.int (Int32.ofNat i)), .val (.int (Int32.ofNat n)), .val (.int (Int32.ofNat 0)), .val (.int (f i)), .unset] [(.int (f i))])) rfl (by rw [hml]; rfl) (argsL := [(.int (f i))]) (rest := []) (lenOf own_pd292 rfl) rfl (by show 2 * 0 + _ ≤ _; exact Nat.le_of_eq rfl) (hb hby own_d_jdk_52_m7_37) (fun _ _ => ⟨rfl, eh2, (by decide : 0 + 0 + 0 ≤ _), (by decide : 0 + 0 + 0 ≤ _)⟩)
  dsimp only [Pt.U, Pt.locs, Pt.cells, Pt.slots] at X3 l3 y3 z3 st3 hQ3
  subst l3 y3 z3
  obtain ⟨r3, rfl, N3q, eh3, c3⟩ := hQ3
  have N3 := Fr.app N2 N3q
  refine own_st st3 ?_
  show own_G _ _ _ _ (T3.setTop (mkF m 40 #[.val (.ref a1), .val (.int (Int32.ofNat i)), .val (.int (Int32.ofNat n)), .val (.int (Int32.ofNat 0)), .val (.int (f i)), .unset] [(.int r3)]))
  rcases c3 with ⟨rfl, hh⟩ | ⟨rfl, hh⟩
  · show own_G _ _ _ _ (T3.setTop (mkF m 40 #[.val (.ref a1), .val (.int (Int32.ofNat i)), .val (.int (Int32.ofNat n)), .val (.int (Int32.ofNat 0)), .val (.int (f i)), .unset] [(.int (1 : Int32))]))
    refine own_st (fun _ k => XS.ifNo X3.here hx rfl (hb hby own_d_jdk_52_m7_40) rfl ((if0 _ _).trans (feq (by decide)).1) k) ?_
    show own_G _ _ _ _ (T3.setTop (mkF m 43 #[.val (.ref a1), .val (.int (Int32.ofNat i)), .val (.int (Int32.ofNat n)), .val (.int (Int32.ofNat 0)), .val (.int (f i)), .unset] []))
    refine own_st (fun _ k => XS.iinc X3.here hx rfl (hb hby own_d_jdk_52_m7_43) rfl (l' := #[.val (.ref a1), .val (.int ((Int32.ofNat i) + (1 : Int32))), .val (.int (Int32.ofNat n)), .val (.int (Int32.ofNat 0)), .val (.int (f i)), .unset]) rfl k) ?_
    show own_G _ _ _ _ (T3.setTop (mkF m 46 #[.val (.ref a1), .val (.int ((Int32.ofNat i) + (1 : Int32))), .val (.int (Int32.ofNat n)), .val (.int (Int32.ofNat 0)), .val (.int (f i)), .unset] []))
    rw [own_one]
    show own_G _ _ _ _ (T3.setTop (mkF m 46 #[.val (.ref a1), .val (.int (Int32.ofNat (i + 1))), .val (.int (Int32.ofNat n)), .val (.int (Int32.ofNat 0)), .val (.int (f i)), .unset] []))
    refine own_st (fun _ k => XS.iloadN X3.here hx rfl (hb hby own_d_jdk_52_m7_46) rfl k) ?_
    show own_G _ _ _ _ (T3.setTop (mkF m 47 #[.val (.ref a1), .val (.int (Int32.ofNat (i + 1))), .val (.int (Int32.ofNat n)), .val (.int (Int32.ofNat 0)), .val (.int (f i)), .unset] [(.int (Int32.ofNat (i + 1)))]))
    refine own_st (fun _ k => XS.iloadN X3.here hx rfl (hb hby own_d_jdk_52_m7_47) rfl k) ?_
    show own_G _ _ _ _ (T3.setTop (mkF m 48 #[.val (.ref a1), .val (.int (Int32.ofNat (i + 1))), .val (.int (Int32.ofNat n)), .val (.int (Int32.ofNat 0)), .val (.int (f i)), .unset] [(.int (Int32.ofNat n)), (.int (Int32.ofNat (i + 1)))]))
    by_cases hi1 : i + 1 < n
    · skip
      refine own_st (fun _ k => XS.icmpNo X3.here hx rfl (hb hby own_d_jdk_52_m7_48) rfl (tlt (own_lt hi1 (by omega))).2.1 k) ?_
      show own_G _ _ _ _ (T3.setTop (mkF m 51 #[.val (.ref a1), .val (.int (Int32.ofNat (i + 1))), .val (.int (Int32.ofNat n)), .val (.int (Int32.ofNat 0)), .val (.int (f i)), .unset] []))
      refine own_st (fun _ k => XS.iloadN X3.here hx rfl (hb hby own_d_jdk_52_m7_51) rfl k) ?_
      show own_G _ _ _ _ (T3.setTop (mkF m 52 #[.val (.ref a1), .val (.int (Int32.ofNat (i + 1))), .val (.int (Int32.ofNat n)), .val (.int (Int32.ofNat 0)), .val (.int (f i)), .unset] [(.int (Int32.ofNat 0))]))
      refine own_st (fun _ k => XS.ifYes X3.here hx rfl (pc0 := 52) (pc' := 60) rfl (hb hby own_d_jdk_52_m7_52) rfl ((if0 _ _).trans (teq rfl).1) (by decide) (by decide) k) ?_
      show own_G _ _ _ _ (T3.setTop (mkF m 60 #[.val (.ref a1), .val (.int (Int32.ofNat (i + 1))), .val (.int (Int32.ofNat n)), .val (.int (Int32.ofNat 0)), .val (.int (f i)), .unset] []))
      refine own_st (fun _ k => XS.aloadN X3.here hx rfl (hb hby own_d_jdk_52_m7_60) rfl rfl k) ?_
      show own_G _ _ _ _ (T3.setTop (mkF m 61 #[.val (.ref a1), .val (.int (Int32.ofNat (i + 1))), .val (.int (Int32.ofNat n)), .val (.int (Int32.ofNat 0)), .val (.int (f i)), .unset] [(.ref a1)]))
      refine own_st (fun _ k => XS.iloadN X3.here hx rfl (hb hby own_d_jdk_52_m7_61) rfl k) ?_
      show own_G _ _ _ _ (T3.setTop (mkF m 62 #[.val (.ref a1), .val (.int (Int32.ofNat (i + 1))), .val (.int (Int32.ofNat n)), .val (.int (Int32.ofNat 0)), .val (.int (f i)), .unset] [(.int (Int32.ofNat (i + 1))), (.ref a1)]))
      obtain ⟨_, _, ⟨T4, L4, k4, n4⟩, -, X4, ⟨Lc4, hQ4, l4, y4, z4⟩, st4⟩ := Jvm.LawKit.callS X3 hx (y := (⟨"java/lang/StringUTF16", "getChar", "([BI)C"⟩ : MethodName)) hown (mvT hZ (hw _ (List.mem_of_getElem? (i := 57) rfl))) (mvT hZ (hw _ (List.mem_of_getElem? (i := 58) rfl))) (mvT hZ (hw _ (List.mem_of_getElem? (i := 35) rfl))) (mvT hZ (hw _ (List.mem_of_getElem? (i := 59) rfl))) (by decide) (own_back (rm := ({ frames := 0, cells := 0, slots := 0, locals := 0 } : Room)) (W := 0) (own_getChar l Z a0 hw [] a1 (i + 1) n f kt h0 O0 hi1 hn (hf _ hi1) US Vt) hZ (hw _ (List.mem_of_getElem? (i := 59) rfl)) (hw _ (List.mem_of_getElem? (i := 35) rfl)) (by decide) (by decide)) (g := (mkF m 62 #[.val (.ref a1), .val (.int (Int32.ofNat (i + 1))), .val (.int (Int32.ofNat n)), .val (.int (Int32.ofNat 0)), .val (.int (f i)), .unset] [(.int (Int32.ofNat (i + 1))), (.ref a1)])) rfl (by rw [hml]; rfl) (argsL := [(.ref a1), (.int (Int32.ofNat (i + 1)))]) (rest := []) (lenOf own_pd140 rfl) rfl (by show 2 * 0 + _ ≤ _; exact Nat.le_of_eq rfl) (hb hby own_d_jdk_52_m7_62) (fun _ _ => ⟨rfl, eh3, (by decide : 0 + 0 + 0 + 0 ≤ _), (by decide : 0 + 0 + 0 + 0 ≤ _)⟩)
      dsimp only [Pt.U, Pt.locs, Pt.cells, Pt.slots] at X4 l4 y4 z4 st4 hQ4
      subst l4 y4 z4
      obtain ⟨rfl, N4q, eh4⟩ := hQ4
      have N4 := Fr.app N3 N4q
      refine own_st st4 ?_
      show own_G _ _ _ _ (T4.setTop (mkF m 65 #[.val (.ref a1), .val (.int (Int32.ofNat (i + 1))), .val (.int (Int32.ofNat n)), .val (.int (Int32.ofNat 0)), .val (.int (f i)), .unset] [(.int (f (i + 1)))]))
      refine own_st (fun _ k => XS.istore X4.here hx rfl (hb hby own_d_jdk_52_m7_65) rfl (l' := #[.val (.ref a1), .val (.int (Int32.ofNat (i + 1))), .val (.int (Int32.ofNat n)), .val (.int (Int32.ofNat 0)), .val (.int (f i)), .val (.int (f (i + 1)))]) rfl k) ?_
      show own_G _ _ _ _ (T4.setTop (mkF m 67 #[.val (.ref a1), .val (.int (Int32.ofNat (i + 1))), .val (.int (Int32.ofNat n)), .val (.int (Int32.ofNat 0)), .val (.int (f i)), .val (.int (f (i + 1)))] []))
      refine own_st (fun _ k => XS.iload X4.here hx rfl (hb hby own_d_jdk_52_m7_67) rfl k) ?_
      show own_G _ _ _ _ (T4.setTop (mkF m 69 #[.val (.ref a1), .val (.int (Int32.ofNat (i + 1))), .val (.int (Int32.ofNat n)), .val (.int (Int32.ofNat 0)), .val (.int (f i)), .val (.int (f (i + 1)))] [(.int (f (i + 1)))]))
      obtain ⟨_, _, ⟨T5, L5, k5, n5⟩, -, X5, ⟨Lc5, hQ5, l5, y5, z5⟩, st5⟩ := Jvm.LawKit.callS X4 hx (y := (⟨"java/lang/Character", "isLowSurrogate", "(C)Z"⟩ : MethodName)) hown (mvT hZ (hw _ (List.mem_of_getElem? (i := 125) rfl))) (mvT hZ (hw _ (List.mem_of_getElem? (i := 126) rfl))) (mvT hZ (hw _ (List.mem_of_getElem? (i := 115) rfl))) (mvT hZ (hw _ (List.mem_of_getElem? (i := 127) rfl))) (by decide) (own_back (rm := ({ frames := 0, cells := 0, slots := 0, locals := 0 } : Room)) (W := 0) (own_loS l Z a0 hw [] (f (i + 1)) h0 O0) hZ (hw _ (List.mem_of_getElem? (i := 127) rfl)) (hw _ (List.mem_of_getElem? (i := 115) rfl)) (by decide) (by decide)) (g := (mkF m 69 #[.val (.ref a1), .val (.int (Int32.ofNat (i + 1))), .val (.int (Int32.ofNat n)), .val (.int (Int32.ofNat 0)), .val (.int (f i)), .val (.int (f (i + 1)))] [(.int (f (i + 1)))])) rfl (by rw [hml]; rfl) (argsL := [(.int (f (i + 1)))]) (rest := []) (lenOf own_pd292 rfl) rfl (by show 2 * 0 + _ ≤ _; exact Nat.le_of_eq rfl) (hb hby own_d_jdk_52_m7_69) (fun _ _ => ⟨rfl, eh4, (by decide : 0 + 0 + 0 + 0 + 0 ≤ _), (by decide : 0 + 0 + 0 + 0 + 0 ≤ _)⟩)
      dsimp only [Pt.U, Pt.locs, Pt.cells, Pt.slots] at X5 l5 y5 z5 st5 hQ5
      subst l5 y5 z5
      obtain ⟨r5, rfl, N5q, eh5, c5⟩ := hQ5
      have N5 := Fr.app N4 N5q
      refine own_st st5 ?_
      show own_G _ _ _ _ (T5.setTop (mkF m 72 #[.val (.ref a1), .val (.int (Int32.ofNat (i + 1))), .val (.int (Int32.ofNat n)), .val (.int (Int32.ofNat 0)), .val (.int (f i)), .val (.int (f (i + 1)))] [(.int r5)]))
      rcases c5 with ⟨rfl, hl⟩ | ⟨rfl, hl⟩
      · show own_G _ _ _ _ (T5.setTop (mkF m 72 #[.val (.ref a1), .val (.int (Int32.ofNat (i + 1))), .val (.int (Int32.ofNat n)), .val (.int (Int32.ofNat 0)), .val (.int (f i)), .val (.int (f (i + 1)))] [(.int (1 : Int32))]))
        refine own_st (fun _ k => XS.ifNo X5.here hx rfl (hb hby own_d_jdk_52_m7_72) rfl ((if0 _ _).trans (feq (by decide)).1) k) ?_
        show own_G _ _ _ _ (T5.setTop (mkF m 75 #[.val (.ref a1), .val (.int (Int32.ofNat (i + 1))), .val (.int (Int32.ofNat n)), .val (.int (Int32.ofNat 0)), .val (.int (f i)), .val (.int (f (i + 1)))] []))
        refine own_st (fun _ k => XS.iload X5.here hx rfl (hb hby own_d_jdk_52_m7_75) rfl k) ?_
        show own_G _ _ _ _ (T5.setTop (mkF m 77 #[.val (.ref a1), .val (.int (Int32.ofNat (i + 1))), .val (.int (Int32.ofNat n)), .val (.int (Int32.ofNat 0)), .val (.int (f i)), .val (.int (f (i + 1)))] [(.int (f i))]))
        refine own_st (fun _ k => XS.iload X5.here hx rfl (hb hby own_d_jdk_52_m7_77) rfl k) ?_
        show own_G _ _ _ _ (T5.setTop (mkF m 79 #[.val (.ref a1), .val (.int (Int32.ofNat (i + 1))), .val (.int (Int32.ofNat n)), .val (.int (Int32.ofNat 0)), .val (.int (f i)), .val (.int (f (i + 1)))] [(.int (f (i + 1))), (.int (f i))]))
        obtain ⟨_, _, ⟨T6, L6, k6, n6⟩, -, X6, ⟨Lc6, hQ6, l6, y6, z6⟩, st6⟩ := Jvm.LawKit.callS X5 hx (y := (⟨"java/lang/Character", "toCodePoint", "(CC)I"⟩ : MethodName)) hown (mvT hZ (hw _ (List.mem_of_getElem? (i := 129) rfl))) (mvT hZ (hw _ (List.mem_of_getElem? (i := 130) rfl))) (mvT hZ (hw _ (List.mem_of_getElem? (i := 115) rfl))) (mvT hZ (hw _ (List.mem_of_getElem? (i := 131) rfl))) (by decide) (own_back (rm := ({ frames := 0, cells := 0, slots := 0, locals := 0 } : Room)) (W := 0) (own_tcp l Z a0 hw [] (f i) (f (i + 1)) h0 O0) hZ (hw _ (List.mem_of_getElem? (i := 131) rfl)) (hw _ (List.mem_of_getElem? (i := 115) rfl)) (by decide) (by decide)) (g := (mkF m 79 #[.val (.ref a1), .val (.int (Int32.ofNat (i + 1))), .val (.int (Int32.ofNat n)), .val (.int (Int32.ofNat 0)), .val (.int (f i)), .val (.int (f (i + 1)))] [(.int (f (i + 1))), (.int (f i))])) rfl (by rw [hml]; rfl) (argsL := [(.int (f i)), (.int (f (i + 1)))]) (rest := []) (lenOf own_pd372 rfl) rfl (by show 2 * 0 + _ ≤ _; exact Nat.le_of_eq rfl) (hb hby own_d_jdk_52_m7_79) (fun _ _ => ⟨rfl, eh5, (by decide : 0 + 0 + 0 + 0 + 0 + 0 ≤ _), (by decide : 0 + 0 + 0 + 0 + 0 + 0 ≤ _)⟩)
        dsimp only [Pt.U, Pt.locs, Pt.cells, Pt.slots] at X6 l6 y6 z6 st6 hQ6
        subst l6 y6 z6
        obtain ⟨rfl, N6q, eh6⟩ := hQ6
        have N6 := Fr.app N5 N6q
        refine own_st st6 ?_
        show own_G _ _ _ _ (T6.setTop (mkF m 82 #[.val (.ref a1), .val (.int (Int32.ofNat (i + 1))), .val (.int (Int32.ofNat n)), .val (.int (Int32.ofNat 0)), .val (.int (f i)), .val (.int (f (i + 1)))] [(.int ((((f i) <<< ((10 : Int32) &&& 31)) + (f (i + 1))) + (-56613888 : Int32)))]))
        exact own_retI X6 hx hret hlk (hb hby own_d_jdk_52_m7_82) (by rw [eh6]; exact ⟨_, rfl, N6, rfl, Or.inl ⟨⟨hh, hi1, hl⟩, own_cp hh hl⟩⟩) (by decide) (by decide)
      · show own_G _ _ _ _ (T5.setTop (mkF m 72 #[.val (.ref a1), .val (.int (Int32.ofNat (i + 1))), .val (.int (Int32.ofNat n)), .val (.int (Int32.ofNat 0)), .val (.int (f i)), .val (.int (f (i + 1)))] [(.int (0 : Int32))]))
        refine own_st (fun _ k => XS.ifYes X5.here hx rfl (pc0 := 72) (pc' := 83) rfl (hb hby own_d_jdk_52_m7_72) rfl ((if0 _ _).trans (teq rfl).1) (by decide) (by decide) k) ?_
        show own_G _ _ _ _ (T5.setTop (mkF m 83 #[.val (.ref a1), .val (.int (Int32.ofNat (i + 1))), .val (.int (Int32.ofNat n)), .val (.int (Int32.ofNat 0)), .val (.int (f i)), .val (.int (f (i + 1)))] []))
        refine own_st (fun _ k => XS.iload X5.here hx rfl (hb hby own_d_jdk_52_m7_83) rfl k) ?_
        show own_G _ _ _ _ (T5.setTop (mkF m 85 #[.val (.ref a1), .val (.int (Int32.ofNat (i + 1))), .val (.int (Int32.ofNat n)), .val (.int (Int32.ofNat 0)), .val (.int (f i)), .val (.int (f (i + 1)))] [(.int (f i))]))
        exact own_retI X5 hx hret hlk (hb hby own_d_jdk_52_m7_85) (by rw [eh5]; exact ⟨f i, rfl, N5, rfl, Or.inr ⟨rfl, fun q => hl q.2.2⟩⟩) (by decide) (by decide)
    · skip
      refine own_st (fun _ k => XS.icmpYes X3.here hx rfl (pc0 := 48) (pc' := 83) rfl (hb hby own_d_jdk_52_m7_48) rfl (flt (by rw [Int32.lt_iff_toInt_lt, own_nat (by omega), own_nat (by omega)]; omega)).2.1 (by decide) (by decide) k) ?_
      show own_G _ _ _ _ (T3.setTop (mkF m 83 #[.val (.ref a1), .val (.int (Int32.ofNat (i + 1))), .val (.int (Int32.ofNat n)), .val (.int (Int32.ofNat 0)), .val (.int (f i)), .unset] []))
      refine own_st (fun _ k => XS.iload X3.here hx rfl (hb hby own_d_jdk_52_m7_83) rfl k) ?_
      show own_G _ _ _ _ (T3.setTop (mkF m 85 #[.val (.ref a1), .val (.int (Int32.ofNat (i + 1))), .val (.int (Int32.ofNat n)), .val (.int (Int32.ofNat 0)), .val (.int (f i)), .unset] [(.int (f i))]))
      exact own_retI X3 hx hret hlk (hb hby own_d_jdk_52_m7_85) (by rw [eh3]; exact ⟨f i, rfl, N3, rfl, Or.inr ⟨rfl, fun q => hi1 q.2.1⟩⟩) (by decide) (by decide)
  · show own_G _ _ _ _ (T3.setTop (mkF m 40 #[.val (.ref a1), .val (.int (Int32.ofNat i)), .val (.int (Int32.ofNat n)), .val (.int (Int32.ofNat 0)), .val (.int (f i)), .unset] [(.int (0 : Int32))]))
    refine own_st (fun _ k => XS.ifYes X3.here hx rfl (pc0 := 40) (pc' := 83) rfl (hb hby own_d_jdk_52_m7_40) rfl ((if0 _ _).trans (teq rfl).1) (by decide) (by decide) k) ?_
    show own_G _ _ _ _ (T3.setTop (mkF m 83 #[.val (.ref a1), .val (.int (Int32.ofNat i)), .val (.int (Int32.ofNat n)), .val (.int (Int32.ofNat 0)), .val (.int (f i)), .unset] []))
    refine own_st (fun _ k => XS.iload X3.here hx rfl (hb hby own_d_jdk_52_m7_83) rfl k) ?_
    show own_G _ _ _ _ (T3.setTop (mkF m 85 #[.val (.ref a1), .val (.int (Int32.ofNat i)), .val (.int (Int32.ofNat n)), .val (.int (Int32.ofNat 0)), .val (.int (f i)), .unset] [(.int (f i))]))
    exact own_retI X3 hx hret hlk (hb hby own_d_jdk_52_m7_85) (by rw [eh3]; exact ⟨f i, rfl, N3, rfl, Or.inr ⟨rfl, fun q => hh q.1⟩⟩) (by decide) (by decide)
theorem own_d_jdk_52_m8_0 : decode jdk_52_method_8_code 0 = .ok (.aload_n 0, 1) := by decide +kernel
theorem own_d_jdk_52_m8_1 : decode jdk_52_method_8_code 1 = .ok (.iload_n 1, 1) := by decide +kernel
theorem own_d_jdk_52_m8_2 : decode jdk_52_method_8_code 2 = .ok (.iload_n 2, 1) := by decide +kernel
theorem own_d_jdk_52_m8_3 : decode jdk_52_method_8_code 3 = .ok (.iconst 0, 1) := by decide +kernel
theorem own_d_jdk_52_m8_4 : decode jdk_52_method_8_code 4 = .ok (.invokestatic 88, 3) := by decide +kernel
theorem own_pd381 : parseMethodDescriptor "([BIIZ)I" = some ⟨[(.array .byte), .int, .int, .boolean], some .int⟩ := by decide +kernel
theorem own_d_jdk_52_m8_7 : decode jdk_52_method_8_code 7 = .ok (.ireturn, 1) := by decide +kernel
set_option maxRecDepth 65536 in
set_option maxHeartbeats 40000000 in
theorem own_cp3 (l : Launch) (Z : State) (a0 : Array Value) (hw : ∀ d ∈ tables_1, d.before a0 Z = true) (ws : List Jvm.Cond) (a1 : Addr) (i n : Nat) (f : Nat → Int32) (kt : ClassId) (h0 : Heap) (O0 : Old Z Z.heap.size h0) (hi : i < n) (hn : n ≤ 3) (hf : ∀ j, j < n → 0 ≤ (f j).toInt ∧ (f j).toInt < 65536) (US : own_US Z) (Vt : Arv Z h0 a1 kt .byte (Int32.ofNat (2 * n)) (own_vals (own_wide f) (2 * n)) (.int (0 : Int32))) :
    own_Met l Z (⟨"java/lang/StringUTF16", "codePointAt", "([BII)I"⟩ : MethodName) jdk_52_method_8_code 3 (some .int) ws ({ frames := 2, cells := 0, slots := 0, locals := 30 } : Room) #[(.ref a1), (.int (Int32.ofNat i)), (.int (Int32.ofNat n))] h0 (fun v h L => ∃ r : Int32, v = some (.int r) ∧ Fr Z.heap.size L ∧ h = h0 ∧ (((own_hs (f i) ∧ i + 1 < n ∧ own_ls (f (i + 1))) ∧ 65536 ≤ r.toInt) ∨ (r = f i ∧ ¬ (own_hs (f i) ∧ i + 1 < n ∧ own_ls (f (i + 1)))))) (({ frames := 2, cells := 0, slots := 0, locals := 30 } : Room)).cells (({ frames := 2, cells := 0, slots := 0, locals := 30 } : Room)).slots := by
  refine own_body (ef := fun m => mkF m 0 #[.val (.ref a1), .val (.int (Int32.ofNat i)), .val (.int (Int32.ofNat n))] []) (plainFor_of_name own_pn0) (fun m => by first | rfl | (simp [entryFrame, mkF, argsToLocals, Value.category]; done)) ?_
  intro p e s m below meth c T0 hx hZ hby hml hown hnm hret hlk X0 e0
  have N0 := Fr.nil Z.heap.size
  have z0 : Z.heap.size ≤ h0.size := O0.2.1
  have Kr := Keep.refl h0 []
  show own_G _ _ _ _ (T0.setTop (mkF m 0 #[.val (.ref a1), .val (.int (Int32.ofNat i)), .val (.int (Int32.ofNat n))] []))
  refine own_st (fun _ k => XS.aloadN X0.here hx rfl (hb hby own_d_jdk_52_m8_0) rfl rfl k) ?_
  show own_G _ _ _ _ (T0.setTop (mkF m 1 #[.val (.ref a1), .val (.int (Int32.ofNat i)), .val (.int (Int32.ofNat n))] [(.ref a1)]))
  refine own_st (fun _ k => XS.iloadN X0.here hx rfl (hb hby own_d_jdk_52_m8_1) rfl k) ?_
  show own_G _ _ _ _ (T0.setTop (mkF m 2 #[.val (.ref a1), .val (.int (Int32.ofNat i)), .val (.int (Int32.ofNat n))] [(.int (Int32.ofNat i)), (.ref a1)]))
  refine own_st (fun _ k => XS.iloadN X0.here hx rfl (hb hby own_d_jdk_52_m8_2) rfl k) ?_
  show own_G _ _ _ _ (T0.setTop (mkF m 3 #[.val (.ref a1), .val (.int (Int32.ofNat i)), .val (.int (Int32.ofNat n))] [(.int (Int32.ofNat n)), (.int (Int32.ofNat i)), (.ref a1)]))
  refine own_st (fun _ k => XS.iconst X0.here hx rfl (hb hby own_d_jdk_52_m8_3) k) ?_
  show own_G _ _ _ _ (T0.setTop (mkF m 4 #[.val (.ref a1), .val (.int (Int32.ofNat i)), .val (.int (Int32.ofNat n))] [(.int (0 : Int32)), (.int (Int32.ofNat n)), (.int (Int32.ofNat i)), (.ref a1)]))
  obtain ⟨_, _, ⟨T1, L1, k1, n1⟩, -, X1, ⟨Lc1, hQ1, l1, y1, z1⟩, st1⟩ := Jvm.LawKit.callS X0 hx (y := (⟨"java/lang/StringUTF16", "codePointAt", "([BIIZ)I"⟩ : MethodName)) hown (mvT hZ (hw _ (List.mem_of_getElem? (i := 110) rfl))) (mvT hZ (hw _ (List.mem_of_getElem? (i := 111) rfl))) (mvT hZ (hw _ (List.mem_of_getElem? (i := 35) rfl))) (mvT hZ (hw _ (List.mem_of_getElem? (i := 112) rfl))) (by decide) (own_back (rm := ({ frames := 1, cells := 0, slots := 0, locals := 13 } : Room)) (W := 0) (own_cp4 l Z a0 hw [] a1 i n f kt h0 O0 hi hn hf US Vt) hZ (hw _ (List.mem_of_getElem? (i := 112) rfl)) (hw _ (List.mem_of_getElem? (i := 35) rfl)) (by decide) (by decide)) (g := (mkF m 4 #[.val (.ref a1), .val (.int (Int32.ofNat i)), .val (.int (Int32.ofNat n))] [(.int (0 : Int32)), (.int (Int32.ofNat n)), (.int (Int32.ofNat i)), (.ref a1)])) rfl (by rw [hml]; rfl) (argsL := [(.ref a1), (.int (Int32.ofNat i)), (.int (Int32.ofNat n)), (.int (0 : Int32))]) (rest := []) (lenOf own_pd381 rfl) rfl (by show 2 * 0 + _ ≤ _; exact Nat.le_of_eq rfl) (hb hby own_d_jdk_52_m8_4) (fun _ _ => ⟨rfl, e0, (by decide : 0 + 0 ≤ _), (by decide : 0 + 0 ≤ _)⟩)
  dsimp only [Pt.U, Pt.locs, Pt.cells, Pt.slots] at X1 l1 y1 z1 st1 hQ1
  subst l1 y1 z1
  obtain ⟨r1, rfl, N1q, eh1, c1⟩ := hQ1
  have N1 := Fr.app N0 N1q
  refine own_st st1 ?_
  show own_G _ _ _ _ (T1.setTop (mkF m 7 #[.val (.ref a1), .val (.int (Int32.ofNat i)), .val (.int (Int32.ofNat n))] [(.int r1)]))
  exact own_retI X1 hx hret hlk (hb hby own_d_jdk_52_m8_7) (by rw [eh1]; exact ⟨_, rfl, N1, rfl, c1⟩) (by decide) (by decide)
theorem own_pn383 : plainName "jdk/internal/util/Preconditions" = true := by first | (simp [plainName, overriddenIn]; done) | decide +kernel
theorem own_d_jdk_41_m11_0 : decode jdk_41_method_11_code 0 = .ok (.iload_n 0, 1) := by decide +kernel
theorem own_d_jdk_41_m11_1 : decode jdk_41_method_11_code 1 = .ok (.ifCond .lt 8, 3) := by decide +kernel
theorem own_d_jdk_41_m11_4 : decode jdk_41_method_11_code 4 = .ok (.iload_n 0, 1) := by decide +kernel
theorem own_d_jdk_41_m11_5 : decode jdk_41_method_11_code 5 = .ok (.iload_n 1, 1) := by decide +kernel
theorem own_d_jdk_41_m11_6 : decode jdk_41_method_11_code 6 = .ok (.if_icmp .lt 10, 3) := by decide +kernel
theorem own_d_jdk_41_m11_16 : decode jdk_41_method_11_code 16 = .ok (.iload_n 0, 1) := by decide +kernel
theorem own_d_jdk_41_m11_17 : decode jdk_41_method_11_code 17 = .ok (.ireturn, 1) := by decide +kernel
set_option maxRecDepth 65536 in
set_option maxHeartbeats 40000000 in
theorem own_pci (l : Launch) (Z : State) (a0 : Array Value) (hw : ∀ d ∈ tables_1, d.before a0 Z = true) (ws : List Jvm.Cond) (fm : Value) (i n : Nat) (h0 : Heap) (O0 : Old Z Z.heap.size h0) (hi : i < n) (hn : n ≤ 1000) (hfm : fm = .null ∨ ∃ a, fm = .ref a) :
    own_Met l Z (⟨"jdk/internal/util/Preconditions", "checkIndex", "(IILjava/util/function/BiFunction;)I"⟩ : MethodName) jdk_41_method_11_code 3 (some .int) ws ({ frames := 0, cells := 0, slots := 0, locals := 0 } : Room) #[(.int (Int32.ofNat i)), (.int (Int32.ofNat n)), fm] h0 (fun v h L => v = some (.int (Int32.ofNat i)) ∧ Fr Z.heap.size L ∧ h = h0) (({ frames := 0, cells := 0, slots := 0, locals := 0 } : Room)).cells (({ frames := 0, cells := 0, slots := 0, locals := 0 } : Room)).slots := by
  rcases hfm with rfl | ⟨fa, rfl⟩
  · skip
    refine own_body (ef := fun m => mkF m 0 #[.val (.int (Int32.ofNat i)), .val (.int (Int32.ofNat n)), .val .null] []) (plainFor_of_name own_pn383) (fun m => by first | rfl | (simp [entryFrame, mkF, argsToLocals, Value.category]; done)) ?_
    intro p e s m below meth c T0 hx hZ hby hml hown hnm hret hlk X0 e0
    have N0 := Fr.nil Z.heap.size
    have z0 : Z.heap.size ≤ h0.size := O0.2.1
    have Kr := Keep.refl h0 []
    show own_G _ _ _ _ (T0.setTop (mkF m 0 #[.val (.int (Int32.ofNat i)), .val (.int (Int32.ofNat n)), .val .null] []))
    refine own_st (fun _ k => XS.iloadN X0.here hx rfl (hb hby own_d_jdk_41_m11_0) rfl k) ?_
    show own_G _ _ _ _ (T0.setTop (mkF m 1 #[.val (.int (Int32.ofNat i)), .val (.int (Int32.ofNat n)), .val .null] [(.int (Int32.ofNat i))]))
    refine own_st (fun _ k => XS.ifNo X0.here hx rfl (hb hby own_d_jdk_41_m11_1) rfl ((if0 _ _).trans (flt (own_nn (by omega))).1) k) ?_
    show own_G _ _ _ _ (T0.setTop (mkF m 4 #[.val (.int (Int32.ofNat i)), .val (.int (Int32.ofNat n)), .val .null] []))
    refine own_st (fun _ k => XS.iloadN X0.here hx rfl (hb hby own_d_jdk_41_m11_4) rfl k) ?_
    show own_G _ _ _ _ (T0.setTop (mkF m 5 #[.val (.int (Int32.ofNat i)), .val (.int (Int32.ofNat n)), .val .null] [(.int (Int32.ofNat i))]))
    refine own_st (fun _ k => XS.iloadN X0.here hx rfl (hb hby own_d_jdk_41_m11_5) rfl k) ?_
    show own_G _ _ _ _ (T0.setTop (mkF m 6 #[.val (.int (Int32.ofNat i)), .val (.int (Int32.ofNat n)), .val .null] [(.int (Int32.ofNat n)), (.int (Int32.ofNat i))]))
    refine own_st (fun _ k => XS.icmpYes X0.here hx rfl (pc0 := 6) (pc' := 16) rfl (hb hby own_d_jdk_41_m11_6) rfl (tlt (own_lt hi (by omega))).1 (by decide) (by decide) k) ?_
    show own_G _ _ _ _ (T0.setTop (mkF m 16 #[.val (.int (Int32.ofNat i)), .val (.int (Int32.ofNat n)), .val .null] []))
    refine own_st (fun _ k => XS.iloadN X0.here hx rfl (hb hby own_d_jdk_41_m11_16) rfl k) ?_
    show own_G _ _ _ _ (T0.setTop (mkF m 17 #[.val (.int (Int32.ofNat i)), .val (.int (Int32.ofNat n)), .val .null] [(.int (Int32.ofNat i))]))
    exact own_retI X0 hx hret hlk (hb hby own_d_jdk_41_m11_17) (by rw [e0]; exact ⟨rfl, N0, rfl⟩) (by decide) (by decide)
  · skip
    refine own_body (ef := fun m => mkF m 0 #[.val (.int (Int32.ofNat i)), .val (.int (Int32.ofNat n)), .val (.ref fa)] []) (plainFor_of_name own_pn383) (fun m => by first | rfl | (simp [entryFrame, mkF, argsToLocals, Value.category]; done)) ?_
    intro p e s m below meth c T0 hx hZ hby hml hown hnm hret hlk X0 e0
    have N0 := Fr.nil Z.heap.size
    have z0 : Z.heap.size ≤ h0.size := O0.2.1
    have Kr := Keep.refl h0 []
    show own_G _ _ _ _ (T0.setTop (mkF m 0 #[.val (.int (Int32.ofNat i)), .val (.int (Int32.ofNat n)), .val (.ref fa)] []))
    refine own_st (fun _ k => XS.iloadN X0.here hx rfl (hb hby own_d_jdk_41_m11_0) rfl k) ?_
    show own_G _ _ _ _ (T0.setTop (mkF m 1 #[.val (.int (Int32.ofNat i)), .val (.int (Int32.ofNat n)), .val (.ref fa)] [(.int (Int32.ofNat i))]))
    refine own_st (fun _ k => XS.ifNo X0.here hx rfl (hb hby own_d_jdk_41_m11_1) rfl ((if0 _ _).trans (flt (own_nn (by omega))).1) k) ?_
    show own_G _ _ _ _ (T0.setTop (mkF m 4 #[.val (.int (Int32.ofNat i)), .val (.int (Int32.ofNat n)), .val (.ref fa)] []))
    refine own_st (fun _ k => XS.iloadN X0.here hx rfl (hb hby own_d_jdk_41_m11_4) rfl k) ?_
    show own_G _ _ _ _ (T0.setTop (mkF m 5 #[.val (.int (Int32.ofNat i)), .val (.int (Int32.ofNat n)), .val (.ref fa)] [(.int (Int32.ofNat i))]))
    refine own_st (fun _ k => XS.iloadN X0.here hx rfl (hb hby own_d_jdk_41_m11_5) rfl k) ?_
    show own_G _ _ _ _ (T0.setTop (mkF m 6 #[.val (.int (Int32.ofNat i)), .val (.int (Int32.ofNat n)), .val (.ref fa)] [(.int (Int32.ofNat n)), (.int (Int32.ofNat i))]))
    refine own_st (fun _ k => XS.icmpYes X0.here hx rfl (pc0 := 6) (pc' := 16) rfl (hb hby own_d_jdk_41_m11_6) rfl (tlt (own_lt hi (by omega))).1 (by decide) (by decide) k) ?_
    show own_G _ _ _ _ (T0.setTop (mkF m 16 #[.val (.int (Int32.ofNat i)), .val (.int (Int32.ofNat n)), .val (.ref fa)] []))
    refine own_st (fun _ k => XS.iloadN X0.here hx rfl (hb hby own_d_jdk_41_m11_16) rfl k) ?_
    show own_G _ _ _ _ (T0.setTop (mkF m 17 #[.val (.int (Int32.ofNat i)), .val (.int (Int32.ofNat n)), .val (.ref fa)] [(.int (Int32.ofNat i))]))
    exact own_retI X0 hx hret hlk (hb hby own_d_jdk_41_m11_17) (by rw [e0]; exact ⟨rfl, N0, rfl⟩) (by decide) (by decide)
theorem own_d_jdk_42_m155_0 : decode jdk_42_method_155_code 0 = .ok (.iload_n 0, 1) := by decide +kernel
theorem own_d_jdk_42_m155_1 : decode jdk_42_method_155_code 1 = .ok (.iload_n 1, 1) := by decide +kernel
theorem own_d_jdk_42_m155_2 : decode jdk_42_method_155_code 2 = .ok (.getstatic 1053, 3) := by decide +kernel
theorem own_d_jdk_42_m155_5 : decode jdk_42_method_155_code 5 = .ok (.invokestatic 1059, 3) := by decide +kernel
theorem own_pd395 : parseMethodDescriptor "(IILjava/util/function/BiFunction;)I" = some ⟨[.int, .int, (.object "java/util/function/BiFunction")], some .int⟩ := by decide +kernel
theorem own_d_jdk_42_m155_8 : decode jdk_42_method_155_code 8 = .ok (.pop, 1) := by decide +kernel
theorem own_d_jdk_42_m155_9 : decode jdk_42_method_155_code 9 = .ok (.return_, 1) := by decide +kernel
set_option maxRecDepth 65536 in
set_option maxHeartbeats 40000000 in
theorem own_sci (l : Launch) (Z : State) (a0 : Array Value) (hw : ∀ d ∈ tables_1, d.before a0 Z = true) (ws : List Jvm.Cond)  (i n : Nat) (fm : Value) (h0 : Heap) (O0 : Old Z Z.heap.size h0) (hi : i < n) (hn : n ≤ 1000) (SF : Sta Z Z.heap "jdk/internal/util/Preconditions" "SIOOBE_FORMATTER" "Ljava/util/function/BiFunction;" fm) (hfm : fm = .null ∨ ∃ a, fm = .ref a) :
    own_Met l Z (⟨"java/lang/String", "checkIndex", "(II)V"⟩ : MethodName) jdk_42_method_155_code 2 none ws ({ frames := 1, cells := 0, slots := 0, locals := 14 } : Room) #[(.int (Int32.ofNat i)), (.int (Int32.ofNat n))] h0 (fun v h L => v = none ∧ Fr Z.heap.size L ∧ h = h0) (({ frames := 1, cells := 0, slots := 0, locals := 14 } : Room)).cells (({ frames := 1, cells := 0, slots := 0, locals := 14 } : Room)).slots := by
  rcases hfm with rfl | ⟨fa, rfl⟩
  · skip
    refine own_body (ef := fun m => mkF m 0 #[.val (.int (Int32.ofNat i)), .val (.int (Int32.ofNat n))] []) (plainFor_of_name own_pn145) (fun m => by first | rfl | (simp [entryFrame, mkF, argsToLocals, Value.category]; done)) ?_
    intro p e s m below meth c T0 hx hZ hby hml hown hnm hret hlk X0 e0
    have N0 := Fr.nil Z.heap.size
    have z0 : Z.heap.size ≤ h0.size := O0.2.1
    have Kr := Keep.refl h0 []
    show own_G _ _ _ _ (T0.setTop (mkF m 0 #[.val (.int (Int32.ofNat i)), .val (.int (Int32.ofNat n))] []))
    refine own_st (fun _ k => XS.iloadN X0.here hx rfl (hb hby own_d_jdk_42_m155_0) rfl k) ?_
    show own_G _ _ _ _ (T0.setTop (mkF m 1 #[.val (.int (Int32.ofNat i)), .val (.int (Int32.ofNat n))] [(.int (Int32.ofNat i))]))
    refine own_st (fun _ k => XS.iloadN X0.here hx rfl (hb hby own_d_jdk_42_m155_1) rfl k) ?_
    show own_G _ _ _ _ (T0.setTop (mkF m 2 #[.val (.int (Int32.ofNat i)), .val (.int (Int32.ofNat n))] [(.int (Int32.ofNat n)), (.int (Int32.ofNat i))]))
    obtain ⟨T1, X1, e1, st1⟩ := getS2 X0 hx hZ hown (host := "") (Or.inl (hw _ (List.mem_of_getElem? (i := 102) rfl))) Via.refl e0 (Sta.ext O0.2 SF) (g := (mkF m 2 #[.val (.int (Int32.ofNat i)), .val (.int (Int32.ofNat n))] [(.int (Int32.ofNat n)), (.int (Int32.ofNat i))])) rfl (hb hby own_d_jdk_42_m155_2)
    refine own_st st1 ?_
    show own_G _ _ _ _ (T1.setTop (mkF m 5 #[.val (.int (Int32.ofNat i)), .val (.int (Int32.ofNat n))] [.null, (.int (Int32.ofNat n)), (.int (Int32.ofNat i))]))
    obtain ⟨_, _, ⟨T2, L2, k2, n2⟩, -, X2, ⟨Lc2, hQ2, l2, y2, z2⟩, st2⟩ := Jvm.LawKit.callS X1 hx (y := (⟨"jdk/internal/util/Preconditions", "checkIndex", "(IILjava/util/function/BiFunction;)I"⟩ : MethodName)) hown (mvT hZ (hw _ (List.mem_of_getElem? (i := 104) rfl))) (mvT hZ (hw _ (List.mem_of_getElem? (i := 105) rfl))) (mvT hZ (hw _ (List.mem_of_getElem? (i := 103) rfl))) (mvT hZ (hw _ (List.mem_of_getElem? (i := 106) rfl))) (by decide) (own_back (rm := ({ frames := 0, cells := 0, slots := 0, locals := 0 } : Room)) (W := 0) (own_pci l Z a0 hw [] .null i n h0 O0 hi hn (Or.inl rfl)) hZ (hw _ (List.mem_of_getElem? (i := 106) rfl)) (hw _ (List.mem_of_getElem? (i := 103) rfl)) (by decide) (by decide)) (g := (mkF m 5 #[.val (.int (Int32.ofNat i)), .val (.int (Int32.ofNat n))] [.null, (.int (Int32.ofNat n)), (.int (Int32.ofNat i))])) rfl (by rw [hml]; rfl) (argsL := [(.int (Int32.ofNat i)), (.int (Int32.ofNat n)), .null]) (rest := []) (lenOf own_pd395 rfl) rfl (by show 2 * 0 + _ ≤ _; exact Nat.le_of_eq rfl) (hb hby own_d_jdk_42_m155_5) (fun _ _ => ⟨rfl, e1, (by decide : 0 + 0 ≤ _), (by decide : 0 + 0 ≤ _)⟩)
    dsimp only [Pt.U, Pt.locs, Pt.cells, Pt.slots] at X2 l2 y2 z2 st2 hQ2
    subst l2 y2 z2
    obtain ⟨rfl, N2q, eh2⟩ := hQ2
    have N2 := Fr.app N0 N2q
    refine own_st st2 ?_
    show own_G _ _ _ _ (T2.setTop (mkF m 8 #[.val (.int (Int32.ofNat i)), .val (.int (Int32.ofNat n))] [(.int (Int32.ofNat i))]))
    refine own_st (fun _ k => XS.pop X2.here hx rfl (hb hby own_d_jdk_42_m155_8) rfl rfl k) ?_
    show own_G _ _ _ _ (T2.setTop (mkF m 9 #[.val (.int (Int32.ofNat i)), .val (.int (Int32.ofNat n))] []))
    exact own_ret0 X2 hx hret hlk (hb hby own_d_jdk_42_m155_9) (by rw [eh2]; exact ⟨rfl, N2, rfl⟩) (by decide) (by decide)
  · skip
    refine own_body (ef := fun m => mkF m 0 #[.val (.int (Int32.ofNat i)), .val (.int (Int32.ofNat n))] []) (plainFor_of_name own_pn145) (fun m => by first | rfl | (simp [entryFrame, mkF, argsToLocals, Value.category]; done)) ?_
    intro p e s m below meth c T0 hx hZ hby hml hown hnm hret hlk X0 e0
    have N0 := Fr.nil Z.heap.size
    have z0 : Z.heap.size ≤ h0.size := O0.2.1
    have Kr := Keep.refl h0 []
    show own_G _ _ _ _ (T0.setTop (mkF m 0 #[.val (.int (Int32.ofNat i)), .val (.int (Int32.ofNat n))] []))
    refine own_st (fun _ k => XS.iloadN X0.here hx rfl (hb hby own_d_jdk_42_m155_0) rfl k) ?_
    show own_G _ _ _ _ (T0.setTop (mkF m 1 #[.val (.int (Int32.ofNat i)), .val (.int (Int32.ofNat n))] [(.int (Int32.ofNat i))]))
    refine own_st (fun _ k => XS.iloadN X0.here hx rfl (hb hby own_d_jdk_42_m155_1) rfl k) ?_
    show own_G _ _ _ _ (T0.setTop (mkF m 2 #[.val (.int (Int32.ofNat i)), .val (.int (Int32.ofNat n))] [(.int (Int32.ofNat n)), (.int (Int32.ofNat i))]))
    obtain ⟨T1, X1, e1, st1⟩ := getS2 X0 hx hZ hown (host := "") (Or.inl (hw _ (List.mem_of_getElem? (i := 102) rfl))) Via.refl e0 (Sta.ext O0.2 SF) (g := (mkF m 2 #[.val (.int (Int32.ofNat i)), .val (.int (Int32.ofNat n))] [(.int (Int32.ofNat n)), (.int (Int32.ofNat i))])) rfl (hb hby own_d_jdk_42_m155_2)
    refine own_st st1 ?_
    show own_G _ _ _ _ (T1.setTop (mkF m 5 #[.val (.int (Int32.ofNat i)), .val (.int (Int32.ofNat n))] [(.ref fa), (.int (Int32.ofNat n)), (.int (Int32.ofNat i))]))
    obtain ⟨_, _, ⟨T2, L2, k2, n2⟩, -, X2, ⟨Lc2, hQ2, l2, y2, z2⟩, st2⟩ := Jvm.LawKit.callS X1 hx (y := (⟨"jdk/internal/util/Preconditions", "checkIndex", "(IILjava/util/function/BiFunction;)I"⟩ : MethodName)) hown (mvT hZ (hw _ (List.mem_of_getElem? (i := 104) rfl))) (mvT hZ (hw _ (List.mem_of_getElem? (i := 105) rfl))) (mvT hZ (hw _ (List.mem_of_getElem? (i := 103) rfl))) (mvT hZ (hw _ (List.mem_of_getElem? (i := 106) rfl))) (by decide) (own_back (rm := ({ frames := 0, cells := 0, slots := 0, locals := 0 } : Room)) (W := 0) (own_pci l Z a0 hw [] (.ref fa) i n h0 O0 hi hn (Or.inr ⟨_, rfl⟩)) hZ (hw _ (List.mem_of_getElem? (i := 106) rfl)) (hw _ (List.mem_of_getElem? (i := 103) rfl)) (by decide) (by decide)) (g := (mkF m 5 #[.val (.int (Int32.ofNat i)), .val (.int (Int32.ofNat n))] [(.ref fa), (.int (Int32.ofNat n)), (.int (Int32.ofNat i))])) rfl (by rw [hml]; rfl) (argsL := [(.int (Int32.ofNat i)), (.int (Int32.ofNat n)), (.ref fa)]) (rest := []) (lenOf own_pd395 rfl) rfl (by show 2 * 0 + _ ≤ _; exact Nat.le_of_eq rfl) (hb hby own_d_jdk_42_m155_5) (fun _ _ => ⟨rfl, e1, (by decide : 0 + 0 ≤ _), (by decide : 0 + 0 ≤ _)⟩)
    dsimp only [Pt.U, Pt.locs, Pt.cells, Pt.slots] at X2 l2 y2 z2 st2 hQ2
    subst l2 y2 z2
    obtain ⟨rfl, N2q, eh2⟩ := hQ2
    have N2 := Fr.app N0 N2q
    refine own_st st2 ?_
    show own_G _ _ _ _ (T2.setTop (mkF m 8 #[.val (.int (Int32.ofNat i)), .val (.int (Int32.ofNat n))] [(.int (Int32.ofNat i))]))
    refine own_st (fun _ k => XS.pop X2.here hx rfl (hb hby own_d_jdk_42_m155_8) rfl rfl k) ?_
    show own_G _ _ _ _ (T2.setTop (mkF m 9 #[.val (.int (Int32.ofNat i)), .val (.int (Int32.ofNat n))] []))
    exact own_ret0 X2 hx hret hlk (hb hby own_d_jdk_42_m155_9) (by rw [eh2]; exact ⟨rfl, N2, rfl⟩) (by decide) (by decide)
theorem own_d_jdk_42_m57_0 : decode jdk_42_method_57_code 0 = .ok (.aload_n 0, 1) := by decide +kernel
theorem own_d_jdk_42_m57_1 : decode jdk_42_method_57_code 1 = .ok (.invokevirtual 492, 3) := by decide +kernel
theorem own_pd400 : parseMethodDescriptor "()Z" = some ⟨[], some .boolean⟩ := by decide +kernel
theorem own_d_jdk_42_m57_4 : decode jdk_42_method_57_code 4 = .ok (.ifCond .eq 23, 3) := by decide +kernel
theorem own_d_jdk_42_m57_7 : decode jdk_42_method_57_code 7 = .ok (.iload_n 1, 1) := by decide +kernel
theorem own_d_jdk_42_m57_8 : decode jdk_42_method_57_code 8 = .ok (.aload_n 0, 1) := by decide +kernel
theorem own_d_jdk_42_m57_9 : decode jdk_42_method_57_code 9 = .ok (.getfield 9, 3) := by decide +kernel
theorem own_d_jdk_42_m57_12 : decode jdk_42_method_57_code 12 = .ok (.arraylength, 1) := by decide +kernel
theorem own_d_jdk_42_m57_13 : decode jdk_42_method_57_code 13 = .ok (.invokestatic 499, 3) := by decide +kernel
theorem own_pd407 : parseMethodDescriptor "(II)V" = some ⟨[.int, .int], none⟩ := by decide +kernel
theorem own_d_jdk_42_m57_16 : decode jdk_42_method_57_code 16 = .ok (.aload_n 0, 1) := by decide +kernel
theorem own_d_jdk_42_m57_17 : decode jdk_42_method_57_code 17 = .ok (.getfield 9, 3) := by decide +kernel
theorem own_d_jdk_42_m57_20 : decode jdk_42_method_57_code 20 = .ok (.iload_n 1, 1) := by decide +kernel
theorem own_d_jdk_42_m57_21 : decode jdk_42_method_57_code 21 = .ok (.baload, 1) := by decide +kernel
theorem own_d_jdk_42_m57_22 : decode jdk_42_method_57_code 22 = .ok (.sipush 255, 3) := by decide +kernel
theorem own_d_jdk_42_m57_25 : decode jdk_42_method_57_code 25 = .ok (.iand, 1) := by decide +kernel
theorem own_d_jdk_42_m57_26 : decode jdk_42_method_57_code 26 = .ok (.ireturn, 1) := by decide +kernel
theorem own_d_jdk_42_m57_27 : decode jdk_42_method_57_code 27 = .ok (.aload_n 0, 1) := by decide +kernel
theorem own_d_jdk_42_m57_28 : decode jdk_42_method_57_code 28 = .ok (.getfield 9, 3) := by decide +kernel
theorem own_d_jdk_42_m57_31 : decode jdk_42_method_57_code 31 = .ok (.arraylength, 1) := by decide +kernel
theorem own_d_jdk_42_m57_32 : decode jdk_42_method_57_code 32 = .ok (.iconst 1, 1) := by decide +kernel
theorem own_d_jdk_42_m57_33 : decode jdk_42_method_57_code 33 = .ok (.ishr, 1) := by decide +kernel
theorem own_d_jdk_42_m57_34 : decode jdk_42_method_57_code 34 = .ok (.istore_n 2, 1) := by decide +kernel
theorem own_d_jdk_42_m57_35 : decode jdk_42_method_57_code 35 = .ok (.iload_n 1, 1) := by decide +kernel
theorem own_d_jdk_42_m57_36 : decode jdk_42_method_57_code 36 = .ok (.iload_n 2, 1) := by decide +kernel
theorem own_d_jdk_42_m57_37 : decode jdk_42_method_57_code 37 = .ok (.invokestatic 499, 3) := by decide +kernel
theorem own_d_jdk_42_m57_40 : decode jdk_42_method_57_code 40 = .ok (.aload_n 0, 1) := by decide +kernel
theorem own_d_jdk_42_m57_41 : decode jdk_42_method_57_code 41 = .ok (.getfield 9, 3) := by decide +kernel
theorem own_d_jdk_42_m57_44 : decode jdk_42_method_57_code 44 = .ok (.iload_n 1, 1) := by decide +kernel
theorem own_d_jdk_42_m57_45 : decode jdk_42_method_57_code 45 = .ok (.iload_n 2, 1) := by decide +kernel
theorem own_d_jdk_42_m57_46 : decode jdk_42_method_57_code 46 = .ok (.invokestatic 502, 3) := by decide +kernel
theorem own_pd429 : parseMethodDescriptor "([BII)I" = some ⟨[(.array .byte), .int, .int], some .int⟩ := by decide +kernel
theorem own_d_jdk_42_m57_49 : decode jdk_42_method_57_code 49 = .ok (.ireturn, 1) := by decide +kernel
set_option maxRecDepth 65536 in
set_option maxHeartbeats 40000000 in
theorem own_scp (l : Launch) (Z : State) (a0 : Array Value) (hw : ∀ d ∈ tables_1, d.before a0 Z = true) (ws : List Jvm.Cond) (a1 : Addr) (t : Addr) (kt : ClassId) (i n : Nat) (f : Nat → Int32) (w1 : Int32) (fm : Value) (h0 : Heap) (O0 : Old Z Z.heap.size h0) (hi : i < n) (hn : n ≤ 3) (hf : ∀ j, j < n → 0 ≤ (f j).toInt ∧ (f j).toInt < 65536) (US : own_US Z) (S1 : Sta Z Z.heap "java/lang/String" "COMPACT_STRINGS" "Z" (.int w1)) (hw1 : ¬ (w1 = (0 : Int32))) (SF : Sta Z Z.heap "jdk/internal/util/Preconditions" "SIOOBE_FORMATTER" "Ljava/util/function/BiFunction;" fm) (hfm : fm = .null ∨ ∃ a, fm = .ref a) (Hs : own_Str Z h0 a1 t kt f n) :
    own_Met l Z (⟨"java/lang/String", "codePointAt", "(I)I"⟩ : MethodName) jdk_42_method_57_code 3 (some .int) ws ({ frames := 3, cells := 0, slots := 0, locals := 44 } : Room) #[(.ref a1), (.int (Int32.ofNat i))] h0 (fun v h L => ∃ r : Int32, v = some (.int r) ∧ Fr Z.heap.size L ∧ h = h0 ∧ (((own_hs (f i) ∧ i + 1 < n ∧ own_ls (f (i + 1))) ∧ 65536 ≤ r.toInt) ∨ (r = f i ∧ ¬ (own_hs (f i) ∧ i + 1 < n ∧ own_ls (f (i + 1)))))) (({ frames := 3, cells := 0, slots := 0, locals := 44 } : Room)).cells (({ frames := 3, cells := 0, slots := 0, locals := 44 } : Room)).slots := by
  refine own_body (ef := fun m => mkF m 0 #[.val (.ref a1), .val (.int (Int32.ofNat i)), .unset] []) (plainFor_of_name own_pn145) (fun m => by first | rfl | (simp [entryFrame, mkF, argsToLocals, Value.category]; done)) ?_
  intro p e s m below meth c T0 hx hZ hby hml hown hnm hret hlk X0 e0
  have N0 := Fr.nil Z.heap.size
  have z0 : Z.heap.size ≤ h0.size := O0.2.1
  have Kr := Keep.refl h0 []
  show own_G _ _ _ _ (T0.setTop (mkF m 0 #[.val (.ref a1), .val (.int (Int32.ofNat i)), .unset] []))
  obtain ⟨Ea, cd, Fc, Fv, c0⟩ := Hs
  rcases c0 with ⟨rfl, hall, Vt⟩ | ⟨rfl, Vt⟩
  · skip
    refine own_st (fun _ k => XS.aloadN X0.here hx rfl (hb hby own_d_jdk_42_m57_0) rfl rfl k) ?_
    show own_G _ _ _ _ (T0.setTop (mkF m 1 #[.val (.ref a1), .val (.int (Int32.ofNat i)), .unset] [(.ref a1)]))
    obtain ⟨cq1, kq1, q1a, q1b, q1c⟩ := isOf hZ e0 Ea
    obtain ⟨_, _, ⟨T1, L1, k1, n1⟩, -, X1, ⟨Lc1, hQ1, l1, y1, z1⟩, st1⟩ := X0.virtualBack hx (y := (⟨"java/lang/String", "isLatin1", "()Z"⟩ : MethodName)) (z := (⟨"java/lang/String", "isLatin1", "()Z"⟩ : MethodName)) hown (mvT hZ (hw _ (List.mem_of_getElem? (i := 94) rfl))) (mvT hZ (hw _ (List.mem_of_getElem? (i := 95) rfl))) (notFace_of_selects (args := #[]) (mvT hZ (hw _ (List.mem_of_getElem? (i := 97) rfl)))) (mvT hZ (hw _ (List.mem_of_getElem? (i := 97) rfl))) (mvT hZ (hw _ (List.mem_of_getElem? (i := 96) rfl))) (by decide) (own_back (rm := ({ frames := 0, cells := 0, slots := 0, locals := 0 } : Room)) (W := 0) (own_isLatin1 l Z a0 hw [] a1 0 w1 h0 O0 S1 hw1 Fc (Or.inl rfl)) hZ (hw _ (List.mem_of_getElem? (i := 98) rfl)) (hw _ (List.mem_of_getElem? (i := 21) rfl)) (by decide) (by decide)) q1a q1c (g := (mkF m 1 #[.val (.ref a1), .val (.int (Int32.ofNat i)), .unset] [(.ref a1)])) rfl (by rw [hml]; rfl) (Steps.refl _) (argsL := []) (rest := []) (lenOf own_pd400 rfl) rfl (by show 2 * 0 + _ ≤ _; exact Nat.le_of_eq rfl) (hb hby own_d_jdk_42_m57_1) (fun _ _ => ⟨rfl, e0, (by decide : 0 + 0 ≤ _), (by decide : 0 + 0 ≤ _)⟩)
    dsimp only [Pt.U, Pt.locs, Pt.cells, Pt.slots] at X1 l1 y1 z1 st1 hQ1
    subst l1 y1 z1
    obtain ⟨rfl, N1q, eh1⟩ := hQ1
    have N1 := Fr.app N0 N1q
    refine own_tr st1 ?_
    show own_G _ _ _ _ (T1.setTop (mkF m 4 #[.val (.ref a1), .val (.int (Int32.ofNat i)), .unset] [(.int (1 - (0 : Int32)))]))
    refine own_st (fun _ k => XS.ifNo X1.here hx rfl (hb hby own_d_jdk_42_m57_4) rfl ((if0 _ _).trans (feq (by decide)).1) k) ?_
    show own_G _ _ _ _ (T1.setTop (mkF m 7 #[.val (.ref a1), .val (.int (Int32.ofNat i)), .unset] []))
    refine own_st (fun _ k => XS.iloadN X1.here hx rfl (hb hby own_d_jdk_42_m57_7) rfl k) ?_
    show own_G _ _ _ _ (T1.setTop (mkF m 8 #[.val (.ref a1), .val (.int (Int32.ofNat i)), .unset] [(.int (Int32.ofNat i))]))
    refine own_st (fun _ k => XS.aloadN X1.here hx rfl (hb hby own_d_jdk_42_m57_8) rfl rfl k) ?_
    show own_G _ _ _ _ (T1.setTop (mkF m 9 #[.val (.ref a1), .val (.int (Int32.ofNat i)), .unset] [(.ref a1), (.int (Int32.ofNat i))]))
    obtain ⟨T2, X2, e2, st2⟩ := getF X1 hx hZ hown (host := "") (Or.inl (hw _ (List.mem_of_getElem? (i := 65) rfl))) Via.refl eh1 Fv (g := (mkF m 9 #[.val (.ref a1), .val (.int (Int32.ofNat i)), .unset] [(.ref a1), (.int (Int32.ofNat i))])) rfl rfl (hb hby own_d_jdk_42_m57_9)
    refine own_st st2 ?_
    show own_G _ _ _ _ (T2.setTop (mkF m 12 #[.val (.ref a1), .val (.int (Int32.ofNat i)), .unset] [(.ref t), (.int (Int32.ofNat i))]))
    obtain ⟨cl3, Ar3, qk3, Sz3, Mz3, Hz3, Uz3⟩ := id Vt
    refine own_st (X2.arraylength hx (by rw [e2]; exact Ar3.1) (State.isArrayOf_alike hZ.alike Ar3.2.1) (g := (mkF m 12 #[.val (.ref a1), .val (.int (Int32.ofNat i)), .unset] [(.ref t), (.int (Int32.ofNat i))])) rfl rfl (hb hby own_d_jdk_42_m57_12)) ?_
    rw [len_of Sz3 Mz3]
    show own_G _ _ _ _ (T2.setTop (mkF m 13 #[.val (.ref a1), .val (.int (Int32.ofNat i)), .unset] [(.int (Int32.ofNat n)), (.int (Int32.ofNat i))]))
    obtain ⟨_, _, ⟨T4, L4, k4, n4⟩, -, X4, ⟨Lc4, hQ4, l4, y4, z4⟩, st4⟩ := Jvm.LawKit.callS X2 hx (y := (⟨"java/lang/String", "checkIndex", "(II)V"⟩ : MethodName)) hown (mvT hZ (hw _ (List.mem_of_getElem? (i := 99) rfl))) (mvT hZ (hw _ (List.mem_of_getElem? (i := 100) rfl))) (mvT hZ (hw _ (List.mem_of_getElem? (i := 21) rfl))) (mvT hZ (hw _ (List.mem_of_getElem? (i := 101) rfl))) (by decide) (own_back (rm := ({ frames := 1, cells := 0, slots := 0, locals := 14 } : Room)) (W := 0) (own_sci l Z a0 hw [] i n fm h0 O0 hi (by omega) SF hfm) hZ (hw _ (List.mem_of_getElem? (i := 101) rfl)) (hw _ (List.mem_of_getElem? (i := 21) rfl)) (by decide) (by decide)) (g := (mkF m 13 #[.val (.ref a1), .val (.int (Int32.ofNat i)), .unset] [(.int (Int32.ofNat n)), (.int (Int32.ofNat i))])) rfl (by rw [hml]; rfl) (argsL := [(.int (Int32.ofNat i)), (.int (Int32.ofNat n))]) (rest := []) (lenOf own_pd407 rfl) rfl (by show 2 * 0 + _ ≤ _; exact Nat.le_of_eq rfl) (hb hby own_d_jdk_42_m57_13) (fun _ _ => ⟨rfl, e2, (by decide : 0 + 0 + 0 ≤ _), (by decide : 0 + 0 + 0 ≤ _)⟩)
    dsimp only [Pt.U, Pt.locs, Pt.cells, Pt.slots] at X4 l4 y4 z4 st4 hQ4
    subst l4 y4 z4
    obtain ⟨rfl, N4q, eh4⟩ := hQ4
    have N4 := Fr.app N1 N4q
    refine own_st st4 ?_
    show own_G _ _ _ _ (T4.setTop (mkF m 16 #[.val (.ref a1), .val (.int (Int32.ofNat i)), .unset] []))
    refine own_st (fun _ k => XS.aloadN X4.here hx rfl (hb hby own_d_jdk_42_m57_16) rfl rfl k) ?_
    show own_G _ _ _ _ (T4.setTop (mkF m 17 #[.val (.ref a1), .val (.int (Int32.ofNat i)), .unset] [(.ref a1)]))
    obtain ⟨T5, X5, e5, st5⟩ := getF X4 hx hZ hown (host := "") (Or.inl (hw _ (List.mem_of_getElem? (i := 65) rfl))) Via.refl eh4 Fv (g := (mkF m 17 #[.val (.ref a1), .val (.int (Int32.ofNat i)), .unset] [(.ref a1)])) rfl rfl (hb hby own_d_jdk_42_m57_17)
    refine own_st st5 ?_
    show own_G _ _ _ _ (T5.setTop (mkF m 20 #[.val (.ref a1), .val (.int (Int32.ofNat i)), .unset] [(.ref t)]))
    refine own_st (fun _ k => XS.iloadN X5.here hx rfl (hb hby own_d_jdk_42_m57_20) rfl k) ?_
    show own_G _ _ _ _ (T5.setTop (mkF m 21 #[.val (.ref a1), .val (.int (Int32.ofNat i)), .unset] [(.int (Int32.ofNat i)), (.ref t)]))
    obtain ⟨cl6, Ar6, qk6, Sz6, Mz6, Hz6, Uz6⟩ := id Vt
    refine own_st (X5.baloadBytes hx (j := (Int32.ofNat i)) (v := (.int (own_lo (f i)))) (by rw [e5]; exact Ar6.1) (State.isArrayOf_alike hZ.alike Ar6.2.1) Ar6.2.2 (own_in Sz6 hi (by omega)) (own_get (f := fun j => own_lo (f j)) Sz6 Hz6 hi (by omega)) (g := (mkF m 21 #[.val (.ref a1), .val (.int (Int32.ofNat i)), .unset] [(.int (Int32.ofNat i)), (.ref t)])) rfl rfl (hb hby own_d_jdk_42_m57_21)) ?_
    show own_G _ _ _ _ (T5.setTop (mkF m 22 #[.val (.ref a1), .val (.int (Int32.ofNat i)), .unset] [(.int (own_lo (f i)))]))
    refine own_st (fun _ k => XS.sipush X5.here hx rfl (hb hby own_d_jdk_42_m57_22) k) ?_
    show own_G _ _ _ _ (T5.setTop (mkF m 25 #[.val (.ref a1), .val (.int (Int32.ofNat i)), .unset] [(.int (255 : Int32)), (.int (own_lo (f i)))]))
    refine own_st (fun _ k => XS.iand X5.here hx rfl (hb hby own_d_jdk_42_m57_25) rfl k) ?_
    show own_G _ _ _ _ (T5.setTop (mkF m 26 #[.val (.ref a1), .val (.int (Int32.ofNat i)), .unset] [(.int ((own_lo (f i)) &&& (255 : Int32)))]))
    exact own_retI X5 hx hret hlk (hb hby own_d_jdk_42_m57_26) (by rw [e5]; exact ⟨_, rfl, N4, rfl, Or.inr ⟨own_lo_mask (hf i hi).1 (hall i hi), fun q => by have h1 := q.1.1; have h2 := hall i hi; simp only [Int32.lt_iff_toInt_lt, Int32.reduceToInt] at h2; omega⟩⟩) (by decide) (by decide)
  · skip
    refine own_st (fun _ k => XS.aloadN X0.here hx rfl (hb hby own_d_jdk_42_m57_0) rfl rfl k) ?_
    show own_G _ _ _ _ (T0.setTop (mkF m 1 #[.val (.ref a1), .val (.int (Int32.ofNat i)), .unset] [(.ref a1)]))
    obtain ⟨cq7, kq7, q7a, q7b, q7c⟩ := isOf hZ e0 Ea
    obtain ⟨_, _, ⟨T7, L7, k7, n7⟩, -, X7, ⟨Lc7, hQ7, l7, y7, z7⟩, st7⟩ := X0.virtualBack hx (y := (⟨"java/lang/String", "isLatin1", "()Z"⟩ : MethodName)) (z := (⟨"java/lang/String", "isLatin1", "()Z"⟩ : MethodName)) hown (mvT hZ (hw _ (List.mem_of_getElem? (i := 94) rfl))) (mvT hZ (hw _ (List.mem_of_getElem? (i := 95) rfl))) (notFace_of_selects (args := #[]) (mvT hZ (hw _ (List.mem_of_getElem? (i := 97) rfl)))) (mvT hZ (hw _ (List.mem_of_getElem? (i := 97) rfl))) (mvT hZ (hw _ (List.mem_of_getElem? (i := 96) rfl))) (by decide) (own_back (rm := ({ frames := 0, cells := 0, slots := 0, locals := 0 } : Room)) (W := 0) (own_isLatin1 l Z a0 hw [] a1 1 w1 h0 O0 S1 hw1 Fc (Or.inr rfl)) hZ (hw _ (List.mem_of_getElem? (i := 98) rfl)) (hw _ (List.mem_of_getElem? (i := 21) rfl)) (by decide) (by decide)) q7a q7c (g := (mkF m 1 #[.val (.ref a1), .val (.int (Int32.ofNat i)), .unset] [(.ref a1)])) rfl (by rw [hml]; rfl) (Steps.refl _) (argsL := []) (rest := []) (lenOf own_pd400 rfl) rfl (by show 2 * 0 + _ ≤ _; exact Nat.le_of_eq rfl) (hb hby own_d_jdk_42_m57_1) (fun _ _ => ⟨rfl, e0, (by decide : 0 + 0 ≤ _), (by decide : 0 + 0 ≤ _)⟩)
    dsimp only [Pt.U, Pt.locs, Pt.cells, Pt.slots] at X7 l7 y7 z7 st7 hQ7
    subst l7 y7 z7
    obtain ⟨rfl, N7q, eh7⟩ := hQ7
    have N7 := Fr.app N0 N7q
    refine own_tr st7 ?_
    show own_G _ _ _ _ (T7.setTop (mkF m 4 #[.val (.ref a1), .val (.int (Int32.ofNat i)), .unset] [(.int (1 - (1 : Int32)))]))
    refine own_st (fun _ k => XS.ifYes X7.here hx rfl (pc0 := 4) (pc' := 27) rfl (hb hby own_d_jdk_42_m57_4) rfl ((if0 _ _).trans (teq (by decide)).1) (by decide) (by decide) k) ?_
    show own_G _ _ _ _ (T7.setTop (mkF m 27 #[.val (.ref a1), .val (.int (Int32.ofNat i)), .unset] []))
    refine own_st (fun _ k => XS.aloadN X7.here hx rfl (hb hby own_d_jdk_42_m57_27) rfl rfl k) ?_
    show own_G _ _ _ _ (T7.setTop (mkF m 28 #[.val (.ref a1), .val (.int (Int32.ofNat i)), .unset] [(.ref a1)]))
    obtain ⟨T8, X8, e8, st8⟩ := getF X7 hx hZ hown (host := "") (Or.inl (hw _ (List.mem_of_getElem? (i := 65) rfl))) Via.refl eh7 Fv (g := (mkF m 28 #[.val (.ref a1), .val (.int (Int32.ofNat i)), .unset] [(.ref a1)])) rfl rfl (hb hby own_d_jdk_42_m57_28)
    refine own_st st8 ?_
    show own_G _ _ _ _ (T8.setTop (mkF m 31 #[.val (.ref a1), .val (.int (Int32.ofNat i)), .unset] [(.ref t)]))
    obtain ⟨cl9, Ar9, qk9, Sz9, Mz9, Hz9, Uz9⟩ := id Vt
    refine own_st (X8.arraylength hx (by rw [e8]; exact Ar9.1) (State.isArrayOf_alike hZ.alike Ar9.2.1) (g := (mkF m 31 #[.val (.ref a1), .val (.int (Int32.ofNat i)), .unset] [(.ref t)])) rfl rfl (hb hby own_d_jdk_42_m57_31)) ?_
    rw [len_of Sz9 Mz9]
    show own_G _ _ _ _ (T8.setTop (mkF m 32 #[.val (.ref a1), .val (.int (Int32.ofNat i)), .unset] [(.int (Int32.ofNat (2 * n)))]))
    refine own_st (fun _ k => XS.iconst X8.here hx rfl (hb hby own_d_jdk_42_m57_32) k) ?_
    show own_G _ _ _ _ (T8.setTop (mkF m 33 #[.val (.ref a1), .val (.int (Int32.ofNat i)), .unset] [(.int (1 : Int32)), (.int (Int32.ofNat (2 * n)))]))
    refine own_st (fun _ k => XS.ishr X8.here hx rfl (hb hby own_d_jdk_42_m57_33) rfl k) ?_
    show own_G _ _ _ _ (T8.setTop (mkF m 34 #[.val (.ref a1), .val (.int (Int32.ofNat i)), .unset] [(.int ((Int32.ofNat (2 * n)) >>> ((1 : Int32) &&& 31)))]))
    rw [own_shr1 (by omega)]
    show own_G _ _ _ _ (T8.setTop (mkF m 34 #[.val (.ref a1), .val (.int (Int32.ofNat i)), .unset] [(.int (Int32.ofNat n))]))
    refine own_st (fun _ k => XS.istoreN X8.here hx rfl (hb hby own_d_jdk_42_m57_34) rfl (l' := #[.val (.ref a1), .val (.int (Int32.ofNat i)), .val (.int (Int32.ofNat n))]) rfl k) ?_
    show own_G _ _ _ _ (T8.setTop (mkF m 35 #[.val (.ref a1), .val (.int (Int32.ofNat i)), .val (.int (Int32.ofNat n))] []))
    refine own_st (fun _ k => XS.iloadN X8.here hx rfl (hb hby own_d_jdk_42_m57_35) rfl k) ?_
    show own_G _ _ _ _ (T8.setTop (mkF m 36 #[.val (.ref a1), .val (.int (Int32.ofNat i)), .val (.int (Int32.ofNat n))] [(.int (Int32.ofNat i))]))
    refine own_st (fun _ k => XS.iloadN X8.here hx rfl (hb hby own_d_jdk_42_m57_36) rfl k) ?_
    show own_G _ _ _ _ (T8.setTop (mkF m 37 #[.val (.ref a1), .val (.int (Int32.ofNat i)), .val (.int (Int32.ofNat n))] [(.int (Int32.ofNat n)), (.int (Int32.ofNat i))]))
    obtain ⟨_, _, ⟨T10, L10, k10, n10⟩, -, X10, ⟨Lc10, hQ10, l10, y10, z10⟩, st10⟩ := Jvm.LawKit.callS X8 hx (y := (⟨"java/lang/String", "checkIndex", "(II)V"⟩ : MethodName)) hown (mvT hZ (hw _ (List.mem_of_getElem? (i := 99) rfl))) (mvT hZ (hw _ (List.mem_of_getElem? (i := 100) rfl))) (mvT hZ (hw _ (List.mem_of_getElem? (i := 21) rfl))) (mvT hZ (hw _ (List.mem_of_getElem? (i := 101) rfl))) (by decide) (own_back (rm := ({ frames := 1, cells := 0, slots := 0, locals := 14 } : Room)) (W := 0) (own_sci l Z a0 hw [] i n fm h0 O0 hi (by omega) SF hfm) hZ (hw _ (List.mem_of_getElem? (i := 101) rfl)) (hw _ (List.mem_of_getElem? (i := 21) rfl)) (by decide) (by decide)) (g := (mkF m 37 #[.val (.ref a1), .val (.int (Int32.ofNat i)), .val (.int (Int32.ofNat n))] [(.int (Int32.ofNat n)), (.int (Int32.ofNat i))])) rfl (by rw [hml]; rfl) (argsL := [(.int (Int32.ofNat i)), (.int (Int32.ofNat n))]) (rest := []) (lenOf own_pd407 rfl) rfl (by show 2 * 0 + _ ≤ _; exact Nat.le_of_eq rfl) (hb hby own_d_jdk_42_m57_37) (fun _ _ => ⟨rfl, e8, (by decide : 0 + 0 + 0 ≤ _), (by decide : 0 + 0 + 0 ≤ _)⟩)
    dsimp only [Pt.U, Pt.locs, Pt.cells, Pt.slots] at X10 l10 y10 z10 st10 hQ10
    subst l10 y10 z10
    obtain ⟨rfl, N10q, eh10⟩ := hQ10
    have N10 := Fr.app N7 N10q
    refine own_st st10 ?_
    show own_G _ _ _ _ (T10.setTop (mkF m 40 #[.val (.ref a1), .val (.int (Int32.ofNat i)), .val (.int (Int32.ofNat n))] []))
    refine own_st (fun _ k => XS.aloadN X10.here hx rfl (hb hby own_d_jdk_42_m57_40) rfl rfl k) ?_
    show own_G _ _ _ _ (T10.setTop (mkF m 41 #[.val (.ref a1), .val (.int (Int32.ofNat i)), .val (.int (Int32.ofNat n))] [(.ref a1)]))
    obtain ⟨T11, X11, e11, st11⟩ := getF X10 hx hZ hown (host := "") (Or.inl (hw _ (List.mem_of_getElem? (i := 65) rfl))) Via.refl eh10 Fv (g := (mkF m 41 #[.val (.ref a1), .val (.int (Int32.ofNat i)), .val (.int (Int32.ofNat n))] [(.ref a1)])) rfl rfl (hb hby own_d_jdk_42_m57_41)
    refine own_st st11 ?_
    show own_G _ _ _ _ (T11.setTop (mkF m 44 #[.val (.ref a1), .val (.int (Int32.ofNat i)), .val (.int (Int32.ofNat n))] [(.ref t)]))
    refine own_st (fun _ k => XS.iloadN X11.here hx rfl (hb hby own_d_jdk_42_m57_44) rfl k) ?_
    show own_G _ _ _ _ (T11.setTop (mkF m 45 #[.val (.ref a1), .val (.int (Int32.ofNat i)), .val (.int (Int32.ofNat n))] [(.int (Int32.ofNat i)), (.ref t)]))
    refine own_st (fun _ k => XS.iloadN X11.here hx rfl (hb hby own_d_jdk_42_m57_45) rfl k) ?_
    show own_G _ _ _ _ (T11.setTop (mkF m 46 #[.val (.ref a1), .val (.int (Int32.ofNat i)), .val (.int (Int32.ofNat n))] [(.int (Int32.ofNat n)), (.int (Int32.ofNat i)), (.ref t)]))
    obtain ⟨_, _, ⟨T12, L12, k12, n12⟩, -, X12, ⟨Lc12, hQ12, l12, y12, z12⟩, st12⟩ := Jvm.LawKit.callS X11 hx (y := (⟨"java/lang/StringUTF16", "codePointAt", "([BII)I"⟩ : MethodName)) hown (mvT hZ (hw _ (List.mem_of_getElem? (i := 107) rfl))) (mvT hZ (hw _ (List.mem_of_getElem? (i := 108) rfl))) (mvT hZ (hw _ (List.mem_of_getElem? (i := 35) rfl))) (mvT hZ (hw _ (List.mem_of_getElem? (i := 109) rfl))) (by decide) (own_back (rm := ({ frames := 2, cells := 0, slots := 0, locals := 30 } : Room)) (W := 0) (own_cp3 l Z a0 hw [] t i n f kt h0 O0 hi hn hf US Vt) hZ (hw _ (List.mem_of_getElem? (i := 109) rfl)) (hw _ (List.mem_of_getElem? (i := 35) rfl)) (by decide) (by decide)) (g := (mkF m 46 #[.val (.ref a1), .val (.int (Int32.ofNat i)), .val (.int (Int32.ofNat n))] [(.int (Int32.ofNat n)), (.int (Int32.ofNat i)), (.ref t)])) rfl (by rw [hml]; rfl) (argsL := [(.ref t), (.int (Int32.ofNat i)), (.int (Int32.ofNat n))]) (rest := []) (lenOf own_pd429 rfl) rfl (by show 2 * 0 + _ ≤ _; exact Nat.le_of_eq rfl) (hb hby own_d_jdk_42_m57_46) (fun _ _ => ⟨rfl, e11, (by decide : 0 + 0 + 0 + 0 ≤ _), (by decide : 0 + 0 + 0 + 0 ≤ _)⟩)
    dsimp only [Pt.U, Pt.locs, Pt.cells, Pt.slots] at X12 l12 y12 z12 st12 hQ12
    subst l12 y12 z12
    obtain ⟨r12, rfl, N12q, eh12, c12⟩ := hQ12
    have N12 := Fr.app N10 N12q
    refine own_st st12 ?_
    show own_G _ _ _ _ (T12.setTop (mkF m 49 #[.val (.ref a1), .val (.int (Int32.ofNat i)), .val (.int (Int32.ofNat n))] [(.int r12)]))
    exact own_retI X12 hx hret hlk (hb hby own_d_jdk_42_m57_49) (by rw [eh12]; exact ⟨_, rfl, N12, rfl, c12⟩) (by decide) (by decide)
theorem own_add1 (i : Nat) : Int32.ofNat i + (1 : Int32) = Int32.ofNat (i + 1) := (Int32.ofNat_add i 1).symm
theorem own_add2 (i : Nat) : Int32.ofNat i + (2 : Int32) = Int32.ofNat (i + 2) := (Int32.ofNat_add i 2).symm
theorem own_d_prog_10_m3_2 : decode prog_10_method_3_code 2 = .ok (.iload_n 1, 1) := by decide +kernel
theorem own_d_prog_10_m3_3 : decode prog_10_method_3_code 3 = .ok (.aload_n 0, 1) := by decide +kernel
theorem own_d_prog_10_m3_4 : decode prog_10_method_3_code 4 = .ok (.invokevirtual 26, 3) := by decide +kernel
theorem own_pd434 : parseMethodDescriptor "()I" = some ⟨[], some .int⟩ := by decide +kernel
theorem own_d_prog_10_m3_7 : decode prog_10_method_3_code 7 = .ok (.if_icmp .ge 33, 3) := by decide +kernel
theorem own_d_prog_10_m3_10 : decode prog_10_method_3_code 10 = .ok (.aload_n 0, 1) := by decide +kernel
theorem own_d_prog_10_m3_11 : decode prog_10_method_3_code 11 = .ok (.iload_n 1, 1) := by decide +kernel
theorem own_d_prog_10_m3_12 : decode prog_10_method_3_code 12 = .ok (.invokevirtual 34, 3) := by decide +kernel
theorem own_d_prog_10_m3_15 : decode prog_10_method_3_code 15 = .ok (.istore_n 2, 1) := by decide +kernel
theorem own_d_prog_10_m3_16 : decode prog_10_method_3_code 16 = .ok (.iload_n 2, 1) := by decide +kernel
theorem own_d_prog_10_m3_17 : decode prog_10_method_3_code 17 = .ok (.ldc 40, 2) := by decide +kernel
theorem own_d_prog_10_m3_19 : decode prog_10_method_3_code 19 = .ok (.if_icmp .lt 11, 3) := by decide +kernel
theorem own_d_prog_10_m3_22 : decode prog_10_method_3_code 22 = .ok (.iload_n 2, 1) := by decide +kernel
theorem own_d_prog_10_m3_23 : decode prog_10_method_3_code 23 = .ok (.ldc 41, 2) := by decide +kernel
theorem own_d_prog_10_m3_25 : decode prog_10_method_3_code 25 = .ok (.if_icmp .gt 5, 3) := by decide +kernel
theorem own_d_prog_10_m3_30 : decode prog_10_method_3_code 30 = .ok (.iload_n 1, 1) := by decide +kernel
theorem own_d_prog_10_m3_31 : decode prog_10_method_3_code 31 = .ok (.iload_n 2, 1) := by decide +kernel
theorem own_d_prog_10_m3_32 : decode prog_10_method_3_code 32 = .ok (.invokestatic 42, 3) := by decide +kernel
theorem own_d_prog_10_m3_35 : decode prog_10_method_3_code 35 = .ok (.iadd, 1) := by decide +kernel
theorem own_d_prog_10_m3_36 : decode prog_10_method_3_code 36 = .ok (.istore_n 1, 1) := by decide +kernel
theorem own_d_prog_10_m3_37 : decode prog_10_method_3_code 37 = .ok (.goto (-35), 3) := by decide +kernel
theorem own_d_prog_10_m3_40 : decode prog_10_method_3_code 40 = .ok (.iconst (-1), 1) := by decide +kernel
theorem own_d_prog_10_m3_41 : decode prog_10_method_3_code 41 = .ok (.ireturn, 1) := by decide +kernel
set_option maxRecDepth 65536 in
set_option maxHeartbeats 40000000 in
theorem own_us_turn {p : Program} {l : Launch} {e : Env} {s : State} {m : MethodId} {args : Array Value} {below : List Frame} {meth : Method} {c : Code} {Z : State} {a0 : Array Value} {locs : List Loc} {cells slots : Nat} {T0 : State} {h0 : Heap}  (a1 t : Addr) (kt : ClassId) (i n : Nat) (f : Nat → Int32) (w1 : Int32) (fm : Value) (s2 : Slot) (hx : p.tables.exec = Jvm.exec) (hZ : Z.Warmed39 s.vm) (hw : ∀ d ∈ tables_1, d.before a0 Z = true) (hby : c.code = prog_10_method_3_code) (hml : c.maxLocals = 3) (hown : s.vm.findClass "com/example/acquire/acquire/internal/LockNames" = some m.cls) (X0 : Stand p l e ({ frames := 4, cells := 0, slots := 0, locals := 59 } : Room) s m args below meth c T0 locs cells slots) (e0 : T0.heap = h0) (N0 : Fr Z.heap.size locs) (O0 : Old Z Z.heap.size h0) (hret : meth.sig.returnType = some .int) (hlk : meth.locks = false) (hcs : cells ≤ 0) (hss : slots ≤ 0) (hs2 : One s2) (hn : n ≤ 3) (hf : ∀ j, j < n → 0 ≤ (f j).toInt ∧ (f j).toInt < 65536) (US : own_US Z) (S1 : Sta Z Z.heap "java/lang/String" "COMPACT_STRINGS" "Z" (.int w1)) (hw1 : ¬ (w1 = (0 : Int32))) (SF : Sta Z Z.heap "jdk/internal/util/Preconditions" "SIOOBE_FORMATTER" "Ljava/util/function/BiFunction;" fm) (hfm : fm = .null ∨ ∃ a, fm = .ref a) (Hs : own_Str Z h0 a1 t kt f n) (hile : i ≤ n) (hok : ∀ j, j < n → own_ok f n j) (hinv : i = 0 ∨ ¬ own_hs (f (i - 1)))
    (k : ∀ (i2 : Nat) (s2 : Slot) (T' : State) (locs' : List Loc), i < i2 → i2 ≤ n → (i2 = 0 ∨ ¬ own_hs (f (i2 - 1))) → Stand p l e ({ frames := 4, cells := 0, slots := 0, locals := 59 } : Room) s m args below meth c T' locs' cells slots → T'.heap = h0 → Fr Z.heap.size locs' → One s2 → own_G p.tables e below (own_F s below (fun v h L => v = some (.int (-1 : Int32)) ∧ Fr Z.heap.size L ∧ h = h0) 0 0) (T'.setTop (mkF m 2 #[.val (.ref a1), .val (.int (Int32.ofNat i2)), s2] []))) :
    own_G p.tables e below (own_F s below (fun v h L => v = some (.int (-1 : Int32)) ∧ Fr Z.heap.size L ∧ h = h0) 0 0) (T0.setTop (mkF m 2 #[.val (.ref a1), .val (.int (Int32.ofNat i)), s2] [])) := by
  have z0 : Z.heap.size ≤ h0.size := O0.2.1
  have Kr := Keep.refl h0 []
  show own_G _ _ _ _ (T0.setTop (mkF m 2 #[.val (.ref a1), .val (.int (Int32.ofNat i)), s2] []))
  refine own_st (fun _ k => XS.iloadN X0.here hx rfl (hb hby own_d_prog_10_m3_2) rfl k) ?_
  show own_G _ _ _ _ (T0.setTop (mkF m 3 #[.val (.ref a1), .val (.int (Int32.ofNat i)), s2] [(.int (Int32.ofNat i))]))
  refine own_st (fun _ k => XS.aloadN X0.here hx rfl (hb hby own_d_prog_10_m3_3) rfl rfl k) ?_
  show own_G _ _ _ _ (T0.setTop (mkF m 4 #[.val (.ref a1), .val (.int (Int32.ofNat i)), s2] [(.ref a1), (.int (Int32.ofNat i))]))
  obtain ⟨cq1, kq1, q1a, q1b, q1c⟩ := isOf hZ e0 Hs.1
  obtain ⟨_, _, ⟨T1, L1, k1, n1⟩, -, X1, ⟨Lc1, hQ1, l1, y1, z1⟩, st1⟩ := X0.virtualBack hx (y := (⟨"java/lang/String", "length", "()I"⟩ : MethodName)) (z := (⟨"java/lang/String", "length", "()I"⟩ : MethodName)) hown (mvT hZ (hw _ (List.mem_of_getElem? (i := 79) rfl))) (mvT hZ (hw _ (List.mem_of_getElem? (i := 80) rfl))) (notFace_of_selects (args := #[]) (mvT hZ (hw _ (List.mem_of_getElem? (i := 82) rfl)))) (mvT hZ (hw _ (List.mem_of_getElem? (i := 82) rfl))) (mvT hZ (hw _ (List.mem_of_getElem? (i := 81) rfl))) (by decide) (own_back (rm := ({ frames := 1, cells := 0, slots := 0, locals := 13 } : Room)) (W := 1) (own_length l Z a0 hw [] a1 t kt n f w1 h0 O0 hn S1 hw1 Hs) hZ (hw _ (List.mem_of_getElem? (i := 83) rfl)) (hw _ (List.mem_of_getElem? (i := 21) rfl)) (by decide) (by decide)) q1a q1c (g := (mkF m 4 #[.val (.ref a1), .val (.int (Int32.ofNat i)), s2] [(.ref a1), (.int (Int32.ofNat i))])) rfl (by rw [hml]; rfl) (Steps.refl _) (argsL := []) (rest := [(.int (Int32.ofNat i))]) (lenOf own_pd434 rfl) rfl (by show 2 * 0 + _ ≤ _; exact Nat.le_of_eq rfl) (hb hby own_d_prog_10_m3_4) (fun _ _ => ⟨rfl, e0, hcs, hss⟩)
  dsimp only [Pt.U, Pt.locs, Pt.cells, Pt.slots] at X1 l1 y1 z1 st1 hQ1
  subst l1 y1 z1
  obtain ⟨rfl, N1q, eh1⟩ := hQ1
  have N1 := Fr.app N0 N1q
  refine own_tr st1 ?_
  show own_G _ _ _ _ (T1.setTop (mkF m 7 #[.val (.ref a1), .val (.int (Int32.ofNat i)), s2] [(.int (Int32.ofNat n)), (.int (Int32.ofNat i))]))
  by_cases hi : i < n
  · skip
    refine own_st (fun _ k => XS.icmpNo X1.here hx rfl (hb hby own_d_prog_10_m3_7) rfl (tlt (own_lt hi (by omega))).2.1 k) ?_
    show own_G _ _ _ _ (T1.setTop (mkF m 10 #[.val (.ref a1), .val (.int (Int32.ofNat i)), s2] []))
    refine own_st (fun _ k => XS.aloadN X1.here hx rfl (hb hby own_d_prog_10_m3_10) rfl rfl k) ?_
    show own_G _ _ _ _ (T1.setTop (mkF m 11 #[.val (.ref a1), .val (.int (Int32.ofNat i)), s2] [(.ref a1)]))
    refine own_st (fun _ k => XS.iloadN X1.here hx rfl (hb hby own_d_prog_10_m3_11) rfl k) ?_
    show own_G _ _ _ _ (T1.setTop (mkF m 12 #[.val (.ref a1), .val (.int (Int32.ofNat i)), s2] [(.int (Int32.ofNat i)), (.ref a1)]))
    obtain ⟨cq2, kq2, q2a, q2b, q2c⟩ := isOf hZ eh1 Hs.1
    obtain ⟨_, _, ⟨T2, L2, k2, n2⟩, -, X2, ⟨Lc2, hQ2, l2, y2, z2⟩, st2⟩ := X1.virtualBack hx (y := (⟨"java/lang/String", "codePointAt", "(I)I"⟩ : MethodName)) (z := (⟨"java/lang/String", "codePointAt", "(I)I"⟩ : MethodName)) hown (mvT hZ (hw _ (List.mem_of_getElem? (i := 89) rfl))) (mvT hZ (hw _ (List.mem_of_getElem? (i := 90) rfl))) (notFace_of_selects (args := #[]) (mvT hZ (hw _ (List.mem_of_getElem? (i := 92) rfl)))) (mvT hZ (hw _ (List.mem_of_getElem? (i := 92) rfl))) (mvT hZ (hw _ (List.mem_of_getElem? (i := 91) rfl))) (by decide) (own_back (rm := ({ frames := 3, cells := 0, slots := 0, locals := 44 } : Room)) (W := 0) (own_scp l Z a0 hw [] a1 t kt i n f w1 fm h0 O0 hi hn hf US S1 hw1 SF hfm Hs) hZ (hw _ (List.mem_of_getElem? (i := 93) rfl)) (hw _ (List.mem_of_getElem? (i := 21) rfl)) (by decide) (by decide)) q2a q2c (g := (mkF m 12 #[.val (.ref a1), .val (.int (Int32.ofNat i)), s2] [(.int (Int32.ofNat i)), (.ref a1)])) rfl (by rw [hml]; rfl) (Steps.refl _) (argsL := [(.int (Int32.ofNat i))]) (rest := []) (lenOf own_pd58 rfl) rfl (by show 2 * 0 + _ ≤ _; exact Nat.le_of_eq rfl) (hb hby own_d_prog_10_m3_12) (fun _ _ => ⟨rfl, eh1, hcs, hss⟩)
    dsimp only [Pt.U, Pt.locs, Pt.cells, Pt.slots] at X2 l2 y2 z2 st2 hQ2
    subst l2 y2 z2
    obtain ⟨r2, rfl, N2q, eh2, c2⟩ := hQ2
    have N2 := Fr.app N1 N2q
    refine own_tr st2 ?_
    show own_G _ _ _ _ (T2.setTop (mkF m 15 #[.val (.ref a1), .val (.int (Int32.ofNat i)), s2] [(.int r2)]))
    refine own_st (fun _ k => XS.istoreNS X2.here hx rfl (hb hby own_d_prog_10_m3_15) rfl rfl hs2 k) ?_
    show own_G _ _ _ _ (T2.setTop (mkF m 16 #[.val (.ref a1), .val (.int (Int32.ofNat i)), .val (.int r2)] []))
    refine own_st (fun _ k => XS.iloadN X2.here hx rfl (hb hby own_d_prog_10_m3_16) rfl k) ?_
    show own_G _ _ _ _ (T2.setTop (mkF m 17 #[.val (.ref a1), .val (.int (Int32.ofNat i)), .val (.int r2)] [(.int r2)]))
    refine own_st (X2.ldcInt hx hown (mvT hZ (hw _ (List.mem_of_getElem? (i := 118) rfl))) (g := (mkF m 17 #[.val (.ref a1), .val (.int (Int32.ofNat i)), .val (.int r2)] [(.int r2)])) rfl (hb hby own_d_prog_10_m3_17)) ?_
    show own_G _ _ _ _ (T2.setTop (mkF m 19 #[.val (.ref a1), .val (.int (Int32.ofNat i)), .val (.int r2)] [(.int (55296 : Int32)), (.int r2)]))
    rcases c2 with ⟨hp, hbig⟩ | ⟨hr, hnp⟩
    · skip
      refine own_st (fun _ k => XS.icmpNo X2.here hx rfl (hb hby own_d_prog_10_m3_19) rfl (flt (by simp only [Int32.lt_iff_toInt_lt, Int32.reduceToInt]; omega)).1 k) ?_
      show own_G _ _ _ _ (T2.setTop (mkF m 22 #[.val (.ref a1), .val (.int (Int32.ofNat i)), .val (.int r2)] []))
      refine own_st (fun _ k => XS.iloadN X2.here hx rfl (hb hby own_d_prog_10_m3_22) rfl k) ?_
      show own_G _ _ _ _ (T2.setTop (mkF m 23 #[.val (.ref a1), .val (.int (Int32.ofNat i)), .val (.int r2)] [(.int r2)]))
      refine own_st (X2.ldcInt hx hown (mvT hZ (hw _ (List.mem_of_getElem? (i := 124) rfl))) (g := (mkF m 23 #[.val (.ref a1), .val (.int (Int32.ofNat i)), .val (.int r2)] [(.int r2)])) rfl (hb hby own_d_prog_10_m3_23)) ?_
      show own_G _ _ _ _ (T2.setTop (mkF m 25 #[.val (.ref a1), .val (.int (Int32.ofNat i)), .val (.int r2)] [(.int (57343 : Int32)), (.int r2)]))
      refine own_st (fun _ k => XS.icmpYes X2.here hx rfl (pc0 := 25) (pc' := 30) rfl (hb hby own_d_prog_10_m3_25) rfl (tlt (by simp only [Int32.lt_iff_toInt_lt, Int32.reduceToInt]; omega)).2.2.1 (by decide) (by decide) k) ?_
      show own_G _ _ _ _ (T2.setTop (mkF m 30 #[.val (.ref a1), .val (.int (Int32.ofNat i)), .val (.int r2)] []))
      refine own_st (fun _ k => XS.iloadN X2.here hx rfl (hb hby own_d_prog_10_m3_30) rfl k) ?_
      show own_G _ _ _ _ (T2.setTop (mkF m 31 #[.val (.ref a1), .val (.int (Int32.ofNat i)), .val (.int r2)] [(.int (Int32.ofNat i))]))
      refine own_st (fun _ k => XS.iloadN X2.here hx rfl (hb hby own_d_prog_10_m3_31) rfl k) ?_
      show own_G _ _ _ _ (T2.setTop (mkF m 32 #[.val (.ref a1), .val (.int (Int32.ofNat i)), .val (.int r2)] [(.int r2), (.int (Int32.ofNat i))]))
      obtain ⟨_, _, ⟨T3, L3, k3, n3⟩, -, X3, ⟨Lc3, hQ3, l3, y3, z3⟩, st3⟩ := Jvm.LawKit.callS X2 hx (y := (⟨"java/lang/Character", "charCount", "(I)I"⟩ : MethodName)) hown (mvT hZ (hw _ (List.mem_of_getElem? (i := 119) rfl))) (mvT hZ (hw _ (List.mem_of_getElem? (i := 120) rfl))) (mvT hZ (hw _ (List.mem_of_getElem? (i := 115) rfl))) (mvT hZ (hw _ (List.mem_of_getElem? (i := 121) rfl))) (by decide) (own_back (rm := ({ frames := 0, cells := 0, slots := 0, locals := 0 } : Room)) (W := 1) (own_cc l Z a0 hw [] r2 h0 O0) hZ (hw _ (List.mem_of_getElem? (i := 121) rfl)) (hw _ (List.mem_of_getElem? (i := 115) rfl)) (by decide) (by decide)) (g := (mkF m 32 #[.val (.ref a1), .val (.int (Int32.ofNat i)), .val (.int r2)] [(.int r2), (.int (Int32.ofNat i))])) rfl (by rw [hml]; rfl) (argsL := [(.int r2)]) (rest := [(.int (Int32.ofNat i))]) (lenOf own_pd58 rfl) rfl (by show 2 * 0 + _ ≤ _; exact Nat.le_of_eq rfl) (hb hby own_d_prog_10_m3_32) (fun _ _ => ⟨rfl, eh2, hcs, hss⟩)
      dsimp only [Pt.U, Pt.locs, Pt.cells, Pt.slots] at X3 l3 y3 z3 st3 hQ3
      subst l3 y3 z3
      obtain ⟨r3, rfl, N3q, eh3, c3⟩ := hQ3
      have N3 := Fr.app N2 N3q
      refine own_st st3 ?_
      show own_G _ _ _ _ (T3.setTop (mkF m 35 #[.val (.ref a1), .val (.int (Int32.ofNat i)), .val (.int r2)] [(.int r3), (.int (Int32.ofNat i))]))
      rcases c3 with ⟨rfl, hc0⟩ | ⟨rfl, hc0⟩
      · show own_G _ _ _ _ (T3.setTop (mkF m 35 #[.val (.ref a1), .val (.int (Int32.ofNat i)), .val (.int r2)] [(.int (1 : Int32)), (.int (Int32.ofNat i))]))
        exact absurd hc0 (by simp only [Int32.lt_iff_toInt_lt, Int32.reduceToInt]; omega)
      · show own_G _ _ _ _ (T3.setTop (mkF m 35 #[.val (.ref a1), .val (.int (Int32.ofNat i)), .val (.int r2)] [(.int (2 : Int32)), (.int (Int32.ofNat i))]))
        refine own_st (fun _ k => XS.iadd X3.here hx rfl (hb hby own_d_prog_10_m3_35) rfl k) ?_
        show own_G _ _ _ _ (T3.setTop (mkF m 36 #[.val (.ref a1), .val (.int (Int32.ofNat i)), .val (.int r2)] [(.int ((Int32.ofNat i) + (2 : Int32)))]))
        rw [own_add2]
        show own_G _ _ _ _ (T3.setTop (mkF m 36 #[.val (.ref a1), .val (.int (Int32.ofNat i)), .val (.int r2)] [(.int (Int32.ofNat (i + 2)))]))
        refine own_st (fun _ k => XS.istoreN X3.here hx rfl (hb hby own_d_prog_10_m3_36) rfl (l' := #[.val (.ref a1), .val (.int (Int32.ofNat (i + 2))), .val (.int r2)]) rfl k) ?_
        show own_G _ _ _ _ (T3.setTop (mkF m 37 #[.val (.ref a1), .val (.int (Int32.ofNat (i + 2))), .val (.int r2)] []))
        refine own_st (fun _ k => XS.goto X3.here hx rfl (pc0 := 37) (pc' := 2) rfl (hb hby own_d_prog_10_m3_37) (by decide) (by decide) k) ?_
        show own_G _ _ _ _ (T3.setTop (mkF m 2 #[.val (.ref a1), .val (.int (Int32.ofNat (i + 2))), .val (.int r2)] []))
        exact k (i + 2) _ _ _ (by omega) (by omega) (Or.inr (fun q => by have h1 := hp.2.2.1; have h2 : own_hs (f (i + 1)) := q; have h3 := h2.2; omega)) X3 eh3 N3 (One.val rfl)
    · skip
      have h65 := (hf i hi).2
      have hno : ¬ own_hs (f i) := fun q => hnp ⟨q, (hok i hi).1 q⟩
      have hnl : ¬ own_ls (f i) := fun q => hinv.elim (fun z => by have := ((hok i hi).2 q).1; omega) (fun z => z ((hok i hi).2 q).2)
      have hout : (f i).toInt < 55296 ∨ 57343 < (f i).toInt := by
        by_cases q : (f i).toInt < 55296
        · exact Or.inl q
        · by_cases q2 : 57343 < (f i).toInt
          · exact Or.inr q2
          · exfalso
            by_cases q3 : (f i).toInt < 56320
            · exact hno ⟨by omega, q3⟩
            · exact hnl ⟨by omega, by omega⟩
      rw [← hr] at hout h65 hno
      by_cases h1 : r2 < (55296 : Int32)
      · show own_G _ _ _ _ (T2.setTop (mkF m 19 #[.val (.ref a1), .val (.int (Int32.ofNat i)), .val (.int r2)] [(.int (55296 : Int32)), (.int r2)]))
        refine own_st (fun _ k => XS.icmpYes X2.here hx rfl (pc0 := 19) (pc' := 30) rfl (hb hby own_d_prog_10_m3_19) rfl (tlt h1).1 (by decide) (by decide) k) ?_
        show own_G _ _ _ _ (T2.setTop (mkF m 30 #[.val (.ref a1), .val (.int (Int32.ofNat i)), .val (.int r2)] []))
        refine own_st (fun _ k => XS.iloadN X2.here hx rfl (hb hby own_d_prog_10_m3_30) rfl k) ?_
        show own_G _ _ _ _ (T2.setTop (mkF m 31 #[.val (.ref a1), .val (.int (Int32.ofNat i)), .val (.int r2)] [(.int (Int32.ofNat i))]))
        refine own_st (fun _ k => XS.iloadN X2.here hx rfl (hb hby own_d_prog_10_m3_31) rfl k) ?_
        show own_G _ _ _ _ (T2.setTop (mkF m 32 #[.val (.ref a1), .val (.int (Int32.ofNat i)), .val (.int r2)] [(.int r2), (.int (Int32.ofNat i))]))
        obtain ⟨_, _, ⟨T4, L4, k4, n4⟩, -, X4, ⟨Lc4, hQ4, l4, y4, z4⟩, st4⟩ := Jvm.LawKit.callS X2 hx (y := (⟨"java/lang/Character", "charCount", "(I)I"⟩ : MethodName)) hown (mvT hZ (hw _ (List.mem_of_getElem? (i := 119) rfl))) (mvT hZ (hw _ (List.mem_of_getElem? (i := 120) rfl))) (mvT hZ (hw _ (List.mem_of_getElem? (i := 115) rfl))) (mvT hZ (hw _ (List.mem_of_getElem? (i := 121) rfl))) (by decide) (own_back (rm := ({ frames := 0, cells := 0, slots := 0, locals := 0 } : Room)) (W := 1) (own_cc l Z a0 hw [] r2 h0 O0) hZ (hw _ (List.mem_of_getElem? (i := 121) rfl)) (hw _ (List.mem_of_getElem? (i := 115) rfl)) (by decide) (by decide)) (g := (mkF m 32 #[.val (.ref a1), .val (.int (Int32.ofNat i)), .val (.int r2)] [(.int r2), (.int (Int32.ofNat i))])) rfl (by rw [hml]; rfl) (argsL := [(.int r2)]) (rest := [(.int (Int32.ofNat i))]) (lenOf own_pd58 rfl) rfl (by show 2 * 0 + _ ≤ _; exact Nat.le_of_eq rfl) (hb hby own_d_prog_10_m3_32) (fun _ _ => ⟨rfl, eh2, hcs, hss⟩)
        dsimp only [Pt.U, Pt.locs, Pt.cells, Pt.slots] at X4 l4 y4 z4 st4 hQ4
        subst l4 y4 z4
        obtain ⟨r4, rfl, N4q, eh4, c4⟩ := hQ4
        have N4 := Fr.app N2 N4q
        refine own_st st4 ?_
        show own_G _ _ _ _ (T4.setTop (mkF m 35 #[.val (.ref a1), .val (.int (Int32.ofNat i)), .val (.int r2)] [(.int r4), (.int (Int32.ofNat i))]))
        rcases c4 with ⟨rfl, hc0⟩ | ⟨rfl, hc0⟩
        · show own_G _ _ _ _ (T4.setTop (mkF m 35 #[.val (.ref a1), .val (.int (Int32.ofNat i)), .val (.int r2)] [(.int (1 : Int32)), (.int (Int32.ofNat i))]))
          refine own_st (fun _ k => XS.iadd X4.here hx rfl (hb hby own_d_prog_10_m3_35) rfl k) ?_
          show own_G _ _ _ _ (T4.setTop (mkF m 36 #[.val (.ref a1), .val (.int (Int32.ofNat i)), .val (.int r2)] [(.int ((Int32.ofNat i) + (1 : Int32)))]))
          rw [own_add1]
          show own_G _ _ _ _ (T4.setTop (mkF m 36 #[.val (.ref a1), .val (.int (Int32.ofNat i)), .val (.int r2)] [(.int (Int32.ofNat (i + 1)))]))
          refine own_st (fun _ k => XS.istoreN X4.here hx rfl (hb hby own_d_prog_10_m3_36) rfl (l' := #[.val (.ref a1), .val (.int (Int32.ofNat (i + 1))), .val (.int r2)]) rfl k) ?_
          show own_G _ _ _ _ (T4.setTop (mkF m 37 #[.val (.ref a1), .val (.int (Int32.ofNat (i + 1))), .val (.int r2)] []))
          refine own_st (fun _ k => XS.goto X4.here hx rfl (pc0 := 37) (pc' := 2) rfl (hb hby own_d_prog_10_m3_37) (by decide) (by decide) k) ?_
          show own_G _ _ _ _ (T4.setTop (mkF m 2 #[.val (.ref a1), .val (.int (Int32.ofNat (i + 1))), .val (.int r2)] []))
          exact k (i + 1) _ _ _ (by omega) (by omega) (Or.inr (by rw [hr] at hno; exact hno)) X4 eh4 N4 (One.val rfl)
        · show own_G _ _ _ _ (T4.setTop (mkF m 35 #[.val (.ref a1), .val (.int (Int32.ofNat i)), .val (.int r2)] [(.int (2 : Int32)), (.int (Int32.ofNat i))]))
          exact absurd hc0 (by simp only [Int32.lt_iff_toInt_lt, Int32.reduceToInt]; omega)
      · show own_G _ _ _ _ (T2.setTop (mkF m 19 #[.val (.ref a1), .val (.int (Int32.ofNat i)), .val (.int r2)] [(.int (55296 : Int32)), (.int r2)]))
        refine own_st (fun _ k => XS.icmpNo X2.here hx rfl (hb hby own_d_prog_10_m3_19) rfl (flt h1).1 k) ?_
        show own_G _ _ _ _ (T2.setTop (mkF m 22 #[.val (.ref a1), .val (.int (Int32.ofNat i)), .val (.int r2)] []))
        refine own_st (fun _ k => XS.iloadN X2.here hx rfl (hb hby own_d_prog_10_m3_22) rfl k) ?_
        show own_G _ _ _ _ (T2.setTop (mkF m 23 #[.val (.ref a1), .val (.int (Int32.ofNat i)), .val (.int r2)] [(.int r2)]))
        refine own_st (X2.ldcInt hx hown (mvT hZ (hw _ (List.mem_of_getElem? (i := 124) rfl))) (g := (mkF m 23 #[.val (.ref a1), .val (.int (Int32.ofNat i)), .val (.int r2)] [(.int r2)])) rfl (hb hby own_d_prog_10_m3_23)) ?_
        show own_G _ _ _ _ (T2.setTop (mkF m 25 #[.val (.ref a1), .val (.int (Int32.ofNat i)), .val (.int r2)] [(.int (57343 : Int32)), (.int r2)]))
        refine own_st (fun _ k => XS.icmpYes X2.here hx rfl (pc0 := 25) (pc' := 30) rfl (hb hby own_d_prog_10_m3_25) rfl (tlt (by simp only [Int32.lt_iff_toInt_lt, Int32.reduceToInt] at h1 ⊢; omega)).2.2.1 (by decide) (by decide) k) ?_
        show own_G _ _ _ _ (T2.setTop (mkF m 30 #[.val (.ref a1), .val (.int (Int32.ofNat i)), .val (.int r2)] []))
        refine own_st (fun _ k => XS.iloadN X2.here hx rfl (hb hby own_d_prog_10_m3_30) rfl k) ?_
        show own_G _ _ _ _ (T2.setTop (mkF m 31 #[.val (.ref a1), .val (.int (Int32.ofNat i)), .val (.int r2)] [(.int (Int32.ofNat i))]))
        refine own_st (fun _ k => XS.iloadN X2.here hx rfl (hb hby own_d_prog_10_m3_31) rfl k) ?_
        show own_G _ _ _ _ (T2.setTop (mkF m 32 #[.val (.ref a1), .val (.int (Int32.ofNat i)), .val (.int r2)] [(.int r2), (.int (Int32.ofNat i))]))
        obtain ⟨_, _, ⟨T5, L5, k5, n5⟩, -, X5, ⟨Lc5, hQ5, l5, y5, z5⟩, st5⟩ := Jvm.LawKit.callS X2 hx (y := (⟨"java/lang/Character", "charCount", "(I)I"⟩ : MethodName)) hown (mvT hZ (hw _ (List.mem_of_getElem? (i := 119) rfl))) (mvT hZ (hw _ (List.mem_of_getElem? (i := 120) rfl))) (mvT hZ (hw _ (List.mem_of_getElem? (i := 115) rfl))) (mvT hZ (hw _ (List.mem_of_getElem? (i := 121) rfl))) (by decide) (own_back (rm := ({ frames := 0, cells := 0, slots := 0, locals := 0 } : Room)) (W := 1) (own_cc l Z a0 hw [] r2 h0 O0) hZ (hw _ (List.mem_of_getElem? (i := 121) rfl)) (hw _ (List.mem_of_getElem? (i := 115) rfl)) (by decide) (by decide)) (g := (mkF m 32 #[.val (.ref a1), .val (.int (Int32.ofNat i)), .val (.int r2)] [(.int r2), (.int (Int32.ofNat i))])) rfl (by rw [hml]; rfl) (argsL := [(.int r2)]) (rest := [(.int (Int32.ofNat i))]) (lenOf own_pd58 rfl) rfl (by show 2 * 0 + _ ≤ _; exact Nat.le_of_eq rfl) (hb hby own_d_prog_10_m3_32) (fun _ _ => ⟨rfl, eh2, hcs, hss⟩)
        dsimp only [Pt.U, Pt.locs, Pt.cells, Pt.slots] at X5 l5 y5 z5 st5 hQ5
        subst l5 y5 z5
        obtain ⟨r5, rfl, N5q, eh5, c5⟩ := hQ5
        have N5 := Fr.app N2 N5q
        refine own_st st5 ?_
        show own_G _ _ _ _ (T5.setTop (mkF m 35 #[.val (.ref a1), .val (.int (Int32.ofNat i)), .val (.int r2)] [(.int r5), (.int (Int32.ofNat i))]))
        rcases c5 with ⟨rfl, hc0⟩ | ⟨rfl, hc0⟩
        · show own_G _ _ _ _ (T5.setTop (mkF m 35 #[.val (.ref a1), .val (.int (Int32.ofNat i)), .val (.int r2)] [(.int (1 : Int32)), (.int (Int32.ofNat i))]))
          refine own_st (fun _ k => XS.iadd X5.here hx rfl (hb hby own_d_prog_10_m3_35) rfl k) ?_
          show own_G _ _ _ _ (T5.setTop (mkF m 36 #[.val (.ref a1), .val (.int (Int32.ofNat i)), .val (.int r2)] [(.int ((Int32.ofNat i) + (1 : Int32)))]))
          rw [own_add1]
          show own_G _ _ _ _ (T5.setTop (mkF m 36 #[.val (.ref a1), .val (.int (Int32.ofNat i)), .val (.int r2)] [(.int (Int32.ofNat (i + 1)))]))
          refine own_st (fun _ k => XS.istoreN X5.here hx rfl (hb hby own_d_prog_10_m3_36) rfl (l' := #[.val (.ref a1), .val (.int (Int32.ofNat (i + 1))), .val (.int r2)]) rfl k) ?_
          show own_G _ _ _ _ (T5.setTop (mkF m 37 #[.val (.ref a1), .val (.int (Int32.ofNat (i + 1))), .val (.int r2)] []))
          refine own_st (fun _ k => XS.goto X5.here hx rfl (pc0 := 37) (pc' := 2) rfl (hb hby own_d_prog_10_m3_37) (by decide) (by decide) k) ?_
          show own_G _ _ _ _ (T5.setTop (mkF m 2 #[.val (.ref a1), .val (.int (Int32.ofNat (i + 1))), .val (.int r2)] []))
          exact k (i + 1) _ _ _ (by omega) (by omega) (Or.inr (by rw [hr] at hno; exact hno)) X5 eh5 N5 (One.val rfl)
        · show own_G _ _ _ _ (T5.setTop (mkF m 35 #[.val (.ref a1), .val (.int (Int32.ofNat i)), .val (.int r2)] [(.int (2 : Int32)), (.int (Int32.ofNat i))]))
          exact absurd hc0 (by simp only [Int32.lt_iff_toInt_lt, Int32.reduceToInt]; omega)
  · skip
    refine own_st (fun _ k => XS.icmpYes X1.here hx rfl (pc0 := 7) (pc' := 40) rfl (hb hby own_d_prog_10_m3_7) rfl (flt (by rw [Int32.lt_iff_toInt_lt, own_nat (by omega), own_nat (by omega)]; omega)).2.1 (by decide) (by decide) k) ?_
    show own_G _ _ _ _ (T1.setTop (mkF m 40 #[.val (.ref a1), .val (.int (Int32.ofNat i)), s2] []))
    refine own_st (fun _ k => XS.iconst X1.here hx rfl (hb hby own_d_prog_10_m3_40) k) ?_
    show own_G _ _ _ _ (T1.setTop (mkF m 41 #[.val (.ref a1), .val (.int (Int32.ofNat i)), s2] [(.int (-1 : Int32))]))
    exact own_retI X1 hx hret hlk (hb hby own_d_prog_10_m3_41) (by rw [eh1]; exact ⟨rfl, N1, rfl⟩) hcs hss
theorem own_us_loop {p : Program} {l : Launch} {e : Env} {s : State} {m : MethodId} {args : Array Value} {below : List Frame} {meth : Method} {c : Code} {Z : State} {a0 : Array Value} {h0 : Heap} {cells slots : Nat} (a1 t : Addr) (kt : ClassId) (n : Nat) (f : Nat → Int32) (w1 : Int32) (fm : Value) (hx : p.tables.exec = Jvm.exec) (hZ : Z.Warmed39 s.vm) (hw : ∀ d ∈ tables_1, d.before a0 Z = true) (hby : c.code = prog_10_method_3_code) (hml : c.maxLocals = 3) (hown : s.vm.findClass "com/example/acquire/acquire/internal/LockNames" = some m.cls) (O0 : Old Z Z.heap.size h0) (hret : meth.sig.returnType = some .int) (hlk : meth.locks = false) (hcs : cells ≤ 0) (hss : slots ≤ 0) (hn : n ≤ 3) (hf : ∀ j, j < n → 0 ≤ (f j).toInt ∧ (f j).toInt < 65536) (US : own_US Z) (S1 : Sta Z Z.heap "java/lang/String" "COMPACT_STRINGS" "Z" (.int w1)) (hw1 : ¬ (w1 = (0 : Int32))) (SF : Sta Z Z.heap "jdk/internal/util/Preconditions" "SIOOBE_FORMATTER" "Ljava/util/function/BiFunction;" fm) (hfm : fm = .null ∨ ∃ a, fm = .ref a) (Hs : own_Str Z h0 a1 t kt f n) (hok : ∀ j, j < n → own_ok f n j) :
    ∀ (r i : Nat) (s2 : Slot) (T' : State) (locs' : List Loc), n - i ≤ r → i ≤ n → (i = 0 ∨ ¬ own_hs (f (i - 1))) → Stand p l e ({ frames := 4, cells := 0, slots := 0, locals := 59 } : Room) s m args below meth c T' locs' cells slots → T'.heap = h0 → Fr Z.heap.size locs' → One s2 → own_G p.tables e below (own_F s below (fun v h L => v = some (.int (-1 : Int32)) ∧ Fr Z.heap.size L ∧ h = h0) 0 0) (T'.setTop (mkF m 2 #[.val (.ref a1), .val (.int (Int32.ofNat i)), s2] [])) := by
  intro r
  induction r with
  | zero =>
    intro i s2 T' locs' hr hi hinv X e1 N h2
    exact own_us_turn a1 t kt i n f w1 fm s2 hx hZ hw hby hml hown X e1 N O0 hret hlk hcs hss h2 hn hf US S1 hw1 SF hfm Hs hi hok hinv (fun i2 _ _ _ h1 h2 => by omega)
  | succ r ih =>
    intro i s2 T' locs' hr hi hinv X e1 N h2
    exact own_us_turn a1 t kt i n f w1 fm s2 hx hZ hw hby hml hown X e1 N O0 hret hlk hcs hss h2 hn hf US S1 hw1 SF hfm Hs hi hok hinv (fun i2 s3 T2 L2 h1 h2 hv X2 e2 N2 o2 => ih i2 s3 T2 L2 (by omega) h2 hv X2 e2 N2 o2)
theorem own_pn454 : plainName "com/example/acquire/acquire/internal/LockNames" = true := by first | (simp [plainName, overriddenIn]; done) | decide +kernel
theorem own_d_prog_10_m3_0 : decode prog_10_method_3_code 0 = .ok (.iconst 0, 1) := by decide +kernel
theorem own_d_prog_10_m3_1 : decode prog_10_method_3_code 1 = .ok (.istore_n 1, 1) := by decide +kernel
set_option maxRecDepth 65536 in
set_option maxHeartbeats 40000000 in
theorem own_us (l : Launch) (Z : State) (a0 : Array Value) (hw : ∀ d ∈ tables_1, d.before a0 Z = true) (ws : List Jvm.Cond) (a1 : Addr) (t : Addr) (kt : ClassId) (n : Nat) (f : Nat → Int32) (w1 : Int32) (fm : Value) (h0 : Heap) (O0 : Old Z Z.heap.size h0) (hn1 : 1 ≤ n) (hn : n ≤ 3) (hf : ∀ j, j < n → 0 ≤ (f j).toInt ∧ (f j).toInt < 65536) (US : own_US Z) (S1 : Sta Z Z.heap "java/lang/String" "COMPACT_STRINGS" "Z" (.int w1)) (hw1 : ¬ (w1 = (0 : Int32))) (SF : Sta Z Z.heap "jdk/internal/util/Preconditions" "SIOOBE_FORMATTER" "Ljava/util/function/BiFunction;" fm) (hfm : fm = .null ∨ ∃ a, fm = .ref a) (Hs : own_Str Z h0 a1 t kt f n) (hok : ∀ j, j < n → own_ok f n j) :
    own_Met l Z (⟨"com/example/acquire/acquire/internal/LockNames", "unpairedSurrogate", "(Ljava/lang/String;)I"⟩ : MethodName) prog_10_method_3_code 3 (some .int) ws ({ frames := 4, cells := 0, slots := 0, locals := 59 } : Room) #[(.ref a1)] h0 (fun v h L => v = some (.int (-1 : Int32)) ∧ Fr Z.heap.size L ∧ h = h0) (({ frames := 4, cells := 0, slots := 0, locals := 59 } : Room)).cells (({ frames := 4, cells := 0, slots := 0, locals := 59 } : Room)).slots := by
  refine own_body (ef := fun m => mkF m 0 #[.val (.ref a1), .unset, .unset] []) (plainFor_of_name own_pn454) (fun m => by first | rfl | (simp [entryFrame, mkF, argsToLocals, Value.category]; done)) ?_
  intro p e s m below meth c T0 hx hZ hby hml hown hnm hret hlk X0 e0
  have N0 := Fr.nil Z.heap.size
  have z0 : Z.heap.size ≤ h0.size := O0.2.1
  have Kr := Keep.refl h0 []
  show own_G _ _ _ _ (T0.setTop (mkF m 0 #[.val (.ref a1), .unset, .unset] []))
  refine own_st (fun _ k => XS.iconst X0.here hx rfl (hb hby own_d_prog_10_m3_0) k) ?_
  show own_G _ _ _ _ (T0.setTop (mkF m 1 #[.val (.ref a1), .unset, .unset] [(.int (0 : Int32))]))
  refine own_st (fun _ k => XS.istoreN X0.here hx rfl (hb hby own_d_prog_10_m3_1) rfl (l' := #[.val (.ref a1), .val (.int (0 : Int32)), .unset]) rfl k) ?_
  show own_G _ _ _ _ (T0.setTop (mkF m 2 #[.val (.ref a1), .val (.int (0 : Int32)), .unset] []))
  exact own_us_loop a1 t kt n f w1 fm hx hZ hw hby hml hown O0 hret hlk (Nat.le_refl _) (Nat.le_refl _) hn hf US S1 hw1 SF hfm Hs hok n 0 .unset _ _ (by omega) (by omega) (Or.inl rfl) X0 e0 N0 One.u
theorem own_d_prog_10_m2_0 : decode prog_10_method_2_code 0 = .ok (.aload_n 0, 1) := by decide +kernel
theorem own_d_prog_10_m2_1 : decode prog_10_method_2_code 1 = .ok (.invokevirtual 7, 3) := by decide +kernel
theorem own_d_prog_10_m2_4 : decode prog_10_method_2_code 4 = .ok (.ifCond .eq 13, 3) := by decide +kernel
theorem own_d_prog_10_m2_17 : decode prog_10_method_2_code 17 = .ok (.aload_n 0, 1) := by decide +kernel
theorem own_d_prog_10_m2_18 : decode prog_10_method_2_code 18 = .ok (.invokestatic 20, 3) := by decide +kernel
theorem own_pd462 : parseMethodDescriptor "(Ljava/lang/String;)I" = some ⟨[(.object "java/lang/String")], some .int⟩ := by decide +kernel
theorem own_d_prog_10_m2_21 : decode prog_10_method_2_code 21 = .ok (.istore_n 1, 1) := by decide +kernel
theorem own_d_prog_10_m2_22 : decode prog_10_method_2_code 22 = .ok (.iload_n 1, 1) := by decide +kernel
theorem own_d_prog_10_m2_23 : decode prog_10_method_2_code 23 = .ok (.ifCond .lt 21, 3) := by decide +kernel
theorem own_d_prog_10_m2_44 : decode prog_10_method_2_code 44 = .ok (.aload_n 0, 1) := by decide +kernel
theorem own_d_prog_10_m2_45 : decode prog_10_method_2_code 45 = .ok (.areturn, 1) := by decide +kernel
set_option maxRecDepth 65536 in
set_option maxHeartbeats 40000000 in
theorem own_rv (l : Launch) (Z : State) (a0 : Array Value) (hw : ∀ d ∈ tables_1, d.before a0 Z = true) (ws : List Jvm.Cond) (a1 : Addr) (t : Addr) (kt : ClassId) (n : Nat) (f : Nat → Int32) (w1 : Int32) (fm : Value) (h0 : Heap) (O0 : Old Z Z.heap.size h0) (hn1 : 1 ≤ n) (hn : n ≤ 3) (hf : ∀ j, j < n → 0 ≤ (f j).toInt ∧ (f j).toInt < 65536) (US : own_US Z) (S1 : Sta Z Z.heap "java/lang/String" "COMPACT_STRINGS" "Z" (.int w1)) (hw1 : ¬ (w1 = (0 : Int32))) (SF : Sta Z Z.heap "jdk/internal/util/Preconditions" "SIOOBE_FORMATTER" "Ljava/util/function/BiFunction;" fm) (hfm : fm = .null ∨ ∃ a, fm = .ref a) (Hs : own_Str Z h0 a1 t kt f n) (hok : ∀ j, j < n → own_ok f n j) :
    own_Met l Z (⟨"com/example/acquire/acquire/internal/LockNames", "requireValid", "(Ljava/lang/String;)Ljava/lang/String;"⟩ : MethodName) prog_10_method_2_code 2 (some (.object "java/lang/String")) ws ({ frames := 5, cells := 0, slots := 0, locals := 73 } : Room) #[(.ref a1)] h0 (fun v h L => v = some (.ref a1) ∧ Fr Z.heap.size L ∧ h = h0) (({ frames := 5, cells := 0, slots := 0, locals := 73 } : Room)).cells (({ frames := 5, cells := 0, slots := 0, locals := 73 } : Room)).slots := by
  refine own_body (ef := fun m => mkF m 0 #[.val (.ref a1), .unset] []) (plainFor_of_name own_pn454) (fun m => by first | rfl | (simp [entryFrame, mkF, argsToLocals, Value.category]; done)) ?_
  intro p e s m below meth c T0 hx hZ hby hml hown hnm hret hlk X0 e0
  have N0 := Fr.nil Z.heap.size
  have z0 : Z.heap.size ≤ h0.size := O0.2.1
  have Kr := Keep.refl h0 []
  show own_G _ _ _ _ (T0.setTop (mkF m 0 #[.val (.ref a1), .unset] []))
  refine own_st (fun _ k => XS.aloadN X0.here hx rfl (hb hby own_d_prog_10_m2_0) rfl rfl k) ?_
  show own_G _ _ _ _ (T0.setTop (mkF m 1 #[.val (.ref a1), .unset] [(.ref a1)]))
  obtain ⟨cq1, kq1, q1a, q1b, q1c⟩ := isOf hZ e0 Hs.1
  obtain ⟨_, _, ⟨T1, L1, k1, n1⟩, -, X1, ⟨Lc1, hQ1, l1, y1, z1⟩, st1⟩ := X0.virtualBack hx (y := (⟨"java/lang/String", "isEmpty", "()Z"⟩ : MethodName)) (z := (⟨"java/lang/String", "isEmpty", "()Z"⟩ : MethodName)) hown (mvT hZ (hw _ (List.mem_of_getElem? (i := 71) rfl))) (mvT hZ (hw _ (List.mem_of_getElem? (i := 72) rfl))) (notFace_of_selects (args := #[]) (mvT hZ (hw _ (List.mem_of_getElem? (i := 74) rfl)))) (mvT hZ (hw _ (List.mem_of_getElem? (i := 74) rfl))) (mvT hZ (hw _ (List.mem_of_getElem? (i := 73) rfl))) (by decide) (own_back (rm := ({ frames := 0, cells := 0, slots := 0, locals := 0 } : Room)) (W := 0) (own_isEmpty l Z a0 hw [] a1 t kt n f h0 O0 hn1 hn Hs) hZ (hw _ (List.mem_of_getElem? (i := 75) rfl)) (hw _ (List.mem_of_getElem? (i := 21) rfl)) (by decide) (by decide)) q1a q1c (g := (mkF m 1 #[.val (.ref a1), .unset] [(.ref a1)])) rfl (by rw [hml]; rfl) (Steps.refl _) (argsL := []) (rest := []) (lenOf own_pd400 rfl) rfl (by show 2 * 0 + _ ≤ _; exact Nat.le_of_eq rfl) (hb hby own_d_prog_10_m2_1) (fun _ _ => ⟨rfl, e0, (by decide : 0 + 0 ≤ _), (by decide : 0 + 0 ≤ _)⟩)
  dsimp only [Pt.U, Pt.locs, Pt.cells, Pt.slots] at X1 l1 y1 z1 st1 hQ1
  subst l1 y1 z1
  obtain ⟨rfl, N1q, eh1⟩ := hQ1
  have N1 := Fr.app N0 N1q
  refine own_tr st1 ?_
  show own_G _ _ _ _ (T1.setTop (mkF m 4 #[.val (.ref a1), .unset] [(.int (0 : Int32))]))
  refine own_st (fun _ k => XS.ifYes X1.here hx rfl (pc0 := 4) (pc' := 17) rfl (hb hby own_d_prog_10_m2_4) rfl ((if0 _ _).trans (teq rfl).1) (by decide) (by decide) k) ?_
  show own_G _ _ _ _ (T1.setTop (mkF m 17 #[.val (.ref a1), .unset] []))
  refine own_st (fun _ k => XS.aloadN X1.here hx rfl (hb hby own_d_prog_10_m2_17) rfl rfl k) ?_
  show own_G _ _ _ _ (T1.setTop (mkF m 18 #[.val (.ref a1), .unset] [(.ref a1)]))
  obtain ⟨_, _, ⟨T2, L2, k2, n2⟩, -, X2, ⟨Lc2, hQ2, l2, y2, z2⟩, st2⟩ := Jvm.LawKit.callS X1 hx (y := (⟨"com/example/acquire/acquire/internal/LockNames", "unpairedSurrogate", "(Ljava/lang/String;)I"⟩ : MethodName)) hown (mvT hZ (hw _ (List.mem_of_getElem? (i := 76) rfl))) (mvT hZ (hw _ (List.mem_of_getElem? (i := 77) rfl))) (mvT hZ (hw _ (List.mem_of_getElem? (i := 69) rfl))) (mvT hZ (hw _ (List.mem_of_getElem? (i := 78) rfl))) (by decide) (own_back (rm := ({ frames := 4, cells := 0, slots := 0, locals := 59 } : Room)) (W := 0) (own_us l Z a0 hw [] a1 t kt n f w1 fm h0 O0 hn1 hn hf US S1 hw1 SF hfm Hs hok) hZ (hw _ (List.mem_of_getElem? (i := 78) rfl)) (hw _ (List.mem_of_getElem? (i := 69) rfl)) (by decide) (by decide)) (g := (mkF m 18 #[.val (.ref a1), .unset] [(.ref a1)])) rfl (by rw [hml]; rfl) (argsL := [(.ref a1)]) (rest := []) (lenOf own_pd462 rfl) rfl (by show 2 * 0 + _ ≤ _; exact Nat.le_of_eq rfl) (hb hby own_d_prog_10_m2_18) (fun _ _ => ⟨rfl, eh1, (by decide : 0 + 0 + 0 ≤ _), (by decide : 0 + 0 + 0 ≤ _)⟩)
  dsimp only [Pt.U, Pt.locs, Pt.cells, Pt.slots] at X2 l2 y2 z2 st2 hQ2
  subst l2 y2 z2
  obtain ⟨rfl, N2q, eh2⟩ := hQ2
  have N2 := Fr.app N1 N2q
  refine own_st st2 ?_
  show own_G _ _ _ _ (T2.setTop (mkF m 21 #[.val (.ref a1), .unset] [(.int (-1 : Int32))]))
  refine own_st (fun _ k => XS.istoreN X2.here hx rfl (hb hby own_d_prog_10_m2_21) rfl (l' := #[.val (.ref a1), .val (.int (-1 : Int32))]) rfl k) ?_
  show own_G _ _ _ _ (T2.setTop (mkF m 22 #[.val (.ref a1), .val (.int (-1 : Int32))] []))
  refine own_st (fun _ k => XS.iloadN X2.here hx rfl (hb hby own_d_prog_10_m2_22) rfl k) ?_
  show own_G _ _ _ _ (T2.setTop (mkF m 23 #[.val (.ref a1), .val (.int (-1 : Int32))] [(.int (-1 : Int32))]))
  refine own_st (fun _ k => XS.ifYes X2.here hx rfl (pc0 := 23) (pc' := 44) rfl (hb hby own_d_prog_10_m2_23) rfl ((if0 _ _).trans (tlt (by decide)).1) (by decide) (by decide) k) ?_
  show own_G _ _ _ _ (T2.setTop (mkF m 44 #[.val (.ref a1), .val (.int (-1 : Int32))] []))
  refine own_st (fun _ k => XS.aloadN X2.here hx rfl (hb hby own_d_prog_10_m2_44) rfl rfl k) ?_
  show own_G _ _ _ _ (T2.setTop (mkF m 45 #[.val (.ref a1), .val (.int (-1 : Int32))] [(.ref a1)]))
  exact own_retA X2 hx hret rfl rfl hlk (hb hby own_d_prog_10_m2_45) (by rw [eh2]; exact ⟨rfl, N2, rfl⟩) (by decide) (by decide)
def own_f (x y z : Int32) (j : Nat) : Int32 := if j = 0 then nar .char x else if j = 1 then nar .char y else nar .char z
theorem own_f_rng (x y z : Int32) (j : Nat) : 0 ≤ (own_f x y z j).toInt ∧ (own_f x y z j).toInt < 65536 := by
  unfold own_f
  split
  · exact (c_i2c _).2
  · split <;> exact (c_i2c _).2
theorem own_len3 (x : Int32) : x &&& (3 : Int32) = 0 ∨ x &&& (3 : Int32) = 1 ∨ x &&& (3 : Int32) = 2 ∨ x &&& (3 : Int32) = 3 := by
  have h := c_mask x 3 2 (by decide) rfl
  have : (x &&& (3 : Int32)).toInt = 0 ∨ (x &&& (3 : Int32)).toInt = 1 ∨ (x &&& (3 : Int32)).toInt = 2 ∨ (x &&& (3 : Int32)).toInt = 3 := by omega
  rcases this with q | q | q | q
  · exact Or.inl (Int32.toInt_inj.mp q)
  · exact Or.inr (Or.inl (Int32.toInt_inj.mp q))
  · exact Or.inr (Or.inr (Or.inl (Int32.toInt_inj.mp q)))
  · exact Or.inr (Or.inr (Or.inr (Int32.toInt_inj.mp q)))
theorem own_pd478 : parseMethodDescriptor "(I)C" = some ⟨[.int], some .char⟩ := by decide +kernel
theorem own_pd500 : parseMethodDescriptor "([CI)Z" = some ⟨[(.array .char), .int], some .boolean⟩ := by decide +kernel
theorem own_pd514 : parseMethodDescriptor "([C)V" = some ⟨[(.array .char)], none⟩ := by decide +kernel
theorem own_pd518 : parseMethodDescriptor "(Ljava/lang/String;)Ljava/lang/String;" = some ⟨[(.object "java/lang/String")], some (.object "java/lang/String")⟩ := by decide +kernel
set_option maxRecDepth 65536 in
set_option maxHeartbeats 40000000 in
theorem own_law (l : Launch) (Z : State) (a0 : Array Value) (hw : ∀ d ∈ tables_1, d.before a0 Z = true) (ws : List Jvm.Cond) (p0 : Int32) (p1 : Int32) (p2 : Int32) (p3 : Int32) (w1 : Int32) (fm : Value) (h0 : Heap) (O0 : Old Z Z.heap.size h0) (US : own_US Z) (S1 : Sta Z Z.heap "java/lang/String" "COMPACT_STRINGS" "Z" (.int w1)) (hw1 : ¬ (w1 = (0 : Int32))) (SF : Sta Z Z.heap "jdk/internal/util/Preconditions" "SIOOBE_FORMATTER" "Ljava/util/function/BiFunction;" fm) (hfm : fm = .null ∨ ∃ a, fm = .ref a) :
    own_Met l Z x code maxLocals ret ws room_1 #[(.int p0), (.int p1), (.int p2), (.int p3)] h0 (fun v h L => v = some (.int 1) ∧ Fr Z.heap.size L) 16 128 := by
  refine own_body (ef := fun m => mkF m 0 #[.val (.int p0), .val (.int p1), .val (.int p2), .val (.int p3), .unset, .unset, .unset, .unset, .unset, .unset] []) (plainFor_of_name own_pn226) (fun m => by first | rfl | (simp [entryFrame, mkF, argsToLocals, Value.category, maxLocals]; done)) ?_
  intro p e s m below meth c T0 hx hZ hby hml hown hnm hret hlk X0 e0
  have N0 := Fr.nil Z.heap.size
  have z0 : Z.heap.size ≤ h0.size := O0.2.1
  have Kr := Keep.refl h0 []
  show own_G _ _ _ _ (T0.setTop (mkF m 0 #[.val (.int p0), .val (.int p1), .val (.int p2), .val (.int p3), .unset, .unset, .unset, .unset, .unset, .unset] []))
  refine own_st (fun _ k => XS.iloadN X0.here hx rfl (hb hby at_0) rfl k) ?_
  show own_G _ _ _ _ (T0.setTop (mkF m 1 #[.val (.int p0), .val (.int p1), .val (.int p2), .val (.int p3), .unset, .unset, .unset, .unset, .unset, .unset] [(.int p0)]))
  refine own_st (fun _ k => XS.iconst X0.here hx rfl (hb hby at_1) k) ?_
  show own_G _ _ _ _ (T0.setTop (mkF m 2 #[.val (.int p0), .val (.int p1), .val (.int p2), .val (.int p3), .unset, .unset, .unset, .unset, .unset, .unset] [(.int (3 : Int32)), (.int p0)]))
  refine own_st (fun _ k => XS.iand X0.here hx rfl (hb hby at_2) rfl k) ?_
  show own_G _ _ _ _ (T0.setTop (mkF m 3 #[.val (.int p0), .val (.int p1), .val (.int p2), .val (.int p3), .unset, .unset, .unset, .unset, .unset, .unset] [(.int (p0 &&& (3 : Int32)))]))
  rcases own_len3 p0 with hl | hl | hl | hl
  · skip
    rw [hl]
    show own_G _ _ _ _ (T0.setTop (mkF m 3 #[.val (.int p0), .val (.int p1), .val (.int p2), .val (.int p3), .unset, .unset, .unset, .unset, .unset, .unset] [(.int (0 : Int32))]))
    refine own_st (fun _ k => XS.istore X0.here hx rfl (hb hby at_3) rfl (l' := #[.val (.int p0), .val (.int p1), .val (.int p2), .val (.int p3), .val (.int (0 : Int32)), .unset, .unset, .unset, .unset, .unset]) rfl k) ?_
    show own_G _ _ _ _ (T0.setTop (mkF m 5 #[.val (.int p0), .val (.int p1), .val (.int p2), .val (.int p3), .val (.int (0 : Int32)), .unset, .unset, .unset, .unset, .unset] []))
    refine own_st (fun _ k => XS.iload X0.here hx rfl (hb hby at_5) rfl k) ?_
    show own_G _ _ _ _ (T0.setTop (mkF m 7 #[.val (.int p0), .val (.int p1), .val (.int p2), .val (.int p3), .val (.int (0 : Int32)), .unset, .unset, .unset, .unset, .unset] [(.int (0 : Int32))]))
    refine own_st (fun _ k => XS.ifNo X0.here hx rfl (hb hby at_7) rfl ((if0 _ _).trans (teq rfl).2) k) ?_
    show own_G _ _ _ _ (T0.setTop (mkF m 10 #[.val (.int p0), .val (.int p1), .val (.int p2), .val (.int p3), .val (.int (0 : Int32)), .unset, .unset, .unset, .unset, .unset] []))
    refine own_st (fun _ k => XS.iconst X0.here hx rfl (hb hby at_10) k) ?_
    show own_G _ _ _ _ (T0.setTop (mkF m 11 #[.val (.int p0), .val (.int p1), .val (.int p2), .val (.int p3), .val (.int (0 : Int32)), .unset, .unset, .unset, .unset, .unset] [(.int (1 : Int32))]))
    exact own_retN X0 hx hret hlk (by simp) (hb hby at_11) ⟨rfl, N0⟩ (by decide) (by decide)
  · skip
    rw [hl]
    show own_G _ _ _ _ (T0.setTop (mkF m 3 #[.val (.int p0), .val (.int p1), .val (.int p2), .val (.int p3), .unset, .unset, .unset, .unset, .unset, .unset] [(.int (1 : Int32))]))
    refine own_st (fun _ k => XS.istore X0.here hx rfl (hb hby at_3) rfl (l' := #[.val (.int p0), .val (.int p1), .val (.int p2), .val (.int p3), .val (.int (1 : Int32)), .unset, .unset, .unset, .unset, .unset]) rfl k) ?_
    show own_G _ _ _ _ (T0.setTop (mkF m 5 #[.val (.int p0), .val (.int p1), .val (.int p2), .val (.int p3), .val (.int (1 : Int32)), .unset, .unset, .unset, .unset, .unset] []))
    refine own_st (fun _ k => XS.iload X0.here hx rfl (hb hby at_5) rfl k) ?_
    show own_G _ _ _ _ (T0.setTop (mkF m 7 #[.val (.int p0), .val (.int p1), .val (.int p2), .val (.int p3), .val (.int (1 : Int32)), .unset, .unset, .unset, .unset, .unset] [(.int (1 : Int32))]))
    refine own_st (fun _ k => XS.ifYes X0.here hx rfl (pc0 := 7) (pc' := 12) rfl (hb hby at_7) rfl ((if0 _ _).trans (feq (by decide)).2) (by decide) (by decide) k) ?_
    show own_G _ _ _ _ (T0.setTop (mkF m 12 #[.val (.int p0), .val (.int p1), .val (.int p2), .val (.int p3), .val (.int (1 : Int32)), .unset, .unset, .unset, .unset, .unset] []))
    refine own_st (fun _ k => XS.iloadN X0.here hx rfl (hb hby at_12) rfl k) ?_
    show own_G _ _ _ _ (T0.setTop (mkF m 13 #[.val (.int p0), .val (.int p1), .val (.int p2), .val (.int p3), .val (.int (1 : Int32)), .unset, .unset, .unset, .unset, .unset] [(.int p1)]))
    obtain ⟨_, _, ⟨T1, L1, k1, n1⟩, -, X1, ⟨Lc1, hQ1, l1, y1, z1⟩, st1⟩ := Jvm.LawKit.callS X0 hx (y := (⟨"com/example/acquire/acquire/internal/LockNamesRequireValidPinLaw", "draw", "(I)C"⟩ : MethodName)) hown (mvT hZ (hw _ (List.mem_of_getElem? (i := 0) rfl))) (mvT hZ (hw _ (List.mem_of_getElem? (i := 1) rfl))) (mvT hZ (hw _ (List.mem_of_getElem? (i := 2) rfl))) (mvT hZ (hw _ (List.mem_of_getElem? (i := 3) rfl))) (by decide) (own_back (rm := ({ frames := 0, cells := 0, slots := 0, locals := 0 } : Room)) (W := 0) (own_draw l Z a0 hw [] p1 h0 O0) hZ (hw _ (List.mem_of_getElem? (i := 3) rfl)) (hw _ (List.mem_of_getElem? (i := 2) rfl)) (by decide) (by decide)) (g := (mkF m 13 #[.val (.int p0), .val (.int p1), .val (.int p2), .val (.int p3), .val (.int (1 : Int32)), .unset, .unset, .unset, .unset, .unset] [(.int p1)])) rfl (by rw [hml]; rfl) (argsL := [(.int p1)]) (rest := []) (lenOf own_pd478 rfl) rfl (by show 2 * 0 + _ ≤ _; exact Nat.le_of_eq rfl) (hb hby at_13) (fun _ _ => ⟨rfl, e0, (by decide : 0 + 0 ≤ _), (by decide : 0 + 0 ≤ _)⟩)
    dsimp only [Pt.U, Pt.locs, Pt.cells, Pt.slots] at X1 l1 y1 z1 st1 hQ1
    subst l1 y1 z1
    obtain ⟨r1, rfl, N1q, eh1, c1⟩ := hQ1
    have N1 := Fr.app N0 N1q
    refine own_st st1 ?_
    show own_G _ _ _ _ (T1.setTop (mkF m 16 #[.val (.int p0), .val (.int p1), .val (.int p2), .val (.int p3), .val (.int (1 : Int32)), .unset, .unset, .unset, .unset, .unset] [(.int r1)]))
    refine own_st (fun _ k => XS.istore X1.here hx rfl (hb hby at_16) rfl (l' := #[.val (.int p0), .val (.int p1), .val (.int p2), .val (.int p3), .val (.int (1 : Int32)), .val (.int r1), .unset, .unset, .unset, .unset]) rfl k) ?_
    show own_G _ _ _ _ (T1.setTop (mkF m 18 #[.val (.int p0), .val (.int p1), .val (.int p2), .val (.int p3), .val (.int (1 : Int32)), .val (.int r1), .unset, .unset, .unset, .unset] []))
    refine own_st (fun _ k => XS.iloadN X1.here hx rfl (hb hby at_18) rfl k) ?_
    show own_G _ _ _ _ (T1.setTop (mkF m 19 #[.val (.int p0), .val (.int p1), .val (.int p2), .val (.int p3), .val (.int (1 : Int32)), .val (.int r1), .unset, .unset, .unset, .unset] [(.int p2)]))
    obtain ⟨_, _, ⟨T2, L2, k2, n2⟩, -, X2, ⟨Lc2, hQ2, l2, y2, z2⟩, st2⟩ := Jvm.LawKit.callS X1 hx (y := (⟨"com/example/acquire/acquire/internal/LockNamesRequireValidPinLaw", "draw", "(I)C"⟩ : MethodName)) hown (mvT hZ (hw _ (List.mem_of_getElem? (i := 0) rfl))) (mvT hZ (hw _ (List.mem_of_getElem? (i := 1) rfl))) (mvT hZ (hw _ (List.mem_of_getElem? (i := 2) rfl))) (mvT hZ (hw _ (List.mem_of_getElem? (i := 3) rfl))) (by decide) (own_back (rm := ({ frames := 0, cells := 0, slots := 0, locals := 0 } : Room)) (W := 0) (own_draw l Z a0 hw [] p2 h0 O0) hZ (hw _ (List.mem_of_getElem? (i := 3) rfl)) (hw _ (List.mem_of_getElem? (i := 2) rfl)) (by decide) (by decide)) (g := (mkF m 19 #[.val (.int p0), .val (.int p1), .val (.int p2), .val (.int p3), .val (.int (1 : Int32)), .val (.int r1), .unset, .unset, .unset, .unset] [(.int p2)])) rfl (by rw [hml]; rfl) (argsL := [(.int p2)]) (rest := []) (lenOf own_pd478 rfl) rfl (by show 2 * 0 + _ ≤ _; exact Nat.le_of_eq rfl) (hb hby at_19) (fun _ _ => ⟨rfl, eh1, (by decide : 0 + 0 + 0 ≤ _), (by decide : 0 + 0 + 0 ≤ _)⟩)
    dsimp only [Pt.U, Pt.locs, Pt.cells, Pt.slots] at X2 l2 y2 z2 st2 hQ2
    subst l2 y2 z2
    obtain ⟨r2, rfl, N2q, eh2, c2⟩ := hQ2
    have N2 := Fr.app N1 N2q
    refine own_st st2 ?_
    show own_G _ _ _ _ (T2.setTop (mkF m 22 #[.val (.int p0), .val (.int p1), .val (.int p2), .val (.int p3), .val (.int (1 : Int32)), .val (.int r1), .unset, .unset, .unset, .unset] [(.int r2)]))
    refine own_st (fun _ k => XS.istore X2.here hx rfl (hb hby at_22) rfl (l' := #[.val (.int p0), .val (.int p1), .val (.int p2), .val (.int p3), .val (.int (1 : Int32)), .val (.int r1), .val (.int r2), .unset, .unset, .unset]) rfl k) ?_
    show own_G _ _ _ _ (T2.setTop (mkF m 24 #[.val (.int p0), .val (.int p1), .val (.int p2), .val (.int p3), .val (.int (1 : Int32)), .val (.int r1), .val (.int r2), .unset, .unset, .unset] []))
    refine own_st (fun _ k => XS.iloadN X2.here hx rfl (hb hby at_24) rfl k) ?_
    show own_G _ _ _ _ (T2.setTop (mkF m 25 #[.val (.int p0), .val (.int p1), .val (.int p2), .val (.int p3), .val (.int (1 : Int32)), .val (.int r1), .val (.int r2), .unset, .unset, .unset] [(.int p3)]))
    obtain ⟨_, _, ⟨T3, L3, k3, n3⟩, -, X3, ⟨Lc3, hQ3, l3, y3, z3⟩, st3⟩ := Jvm.LawKit.callS X2 hx (y := (⟨"com/example/acquire/acquire/internal/LockNamesRequireValidPinLaw", "draw", "(I)C"⟩ : MethodName)) hown (mvT hZ (hw _ (List.mem_of_getElem? (i := 0) rfl))) (mvT hZ (hw _ (List.mem_of_getElem? (i := 1) rfl))) (mvT hZ (hw _ (List.mem_of_getElem? (i := 2) rfl))) (mvT hZ (hw _ (List.mem_of_getElem? (i := 3) rfl))) (by decide) (own_back (rm := ({ frames := 0, cells := 0, slots := 0, locals := 0 } : Room)) (W := 0) (own_draw l Z a0 hw [] p3 h0 O0) hZ (hw _ (List.mem_of_getElem? (i := 3) rfl)) (hw _ (List.mem_of_getElem? (i := 2) rfl)) (by decide) (by decide)) (g := (mkF m 25 #[.val (.int p0), .val (.int p1), .val (.int p2), .val (.int p3), .val (.int (1 : Int32)), .val (.int r1), .val (.int r2), .unset, .unset, .unset] [(.int p3)])) rfl (by rw [hml]; rfl) (argsL := [(.int p3)]) (rest := []) (lenOf own_pd478 rfl) rfl (by show 2 * 0 + _ ≤ _; exact Nat.le_of_eq rfl) (hb hby at_25) (fun _ _ => ⟨rfl, eh2, (by decide : 0 + 0 + 0 + 0 ≤ _), (by decide : 0 + 0 + 0 + 0 ≤ _)⟩)
    dsimp only [Pt.U, Pt.locs, Pt.cells, Pt.slots] at X3 l3 y3 z3 st3 hQ3
    subst l3 y3 z3
    obtain ⟨r3, rfl, N3q, eh3, c3⟩ := hQ3
    have N3 := Fr.app N2 N3q
    refine own_st st3 ?_
    show own_G _ _ _ _ (T3.setTop (mkF m 28 #[.val (.int p0), .val (.int p1), .val (.int p2), .val (.int p3), .val (.int (1 : Int32)), .val (.int r1), .val (.int r2), .unset, .unset, .unset] [(.int r3)]))
    refine own_st (fun _ k => XS.istore X3.here hx rfl (hb hby at_28) rfl (l' := #[.val (.int p0), .val (.int p1), .val (.int p2), .val (.int p3), .val (.int (1 : Int32)), .val (.int r1), .val (.int r2), .val (.int r3), .unset, .unset]) rfl k) ?_
    show own_G _ _ _ _ (T3.setTop (mkF m 30 #[.val (.int p0), .val (.int p1), .val (.int p2), .val (.int p3), .val (.int (1 : Int32)), .val (.int r1), .val (.int r2), .val (.int r3), .unset, .unset] []))
    refine own_st (fun _ k => XS.iload X3.here hx rfl (hb hby at_30) rfl k) ?_
    show own_G _ _ _ _ (T3.setTop (mkF m 32 #[.val (.int p0), .val (.int p1), .val (.int p2), .val (.int p3), .val (.int (1 : Int32)), .val (.int r1), .val (.int r2), .val (.int r3), .unset, .unset] [(.int (1 : Int32))]))
    refine own_st (fun _ k => XS.iconst X3.here hx rfl (hb hby at_32) k) ?_
    show own_G _ _ _ _ (T3.setTop (mkF m 33 #[.val (.int p0), .val (.int p1), .val (.int p2), .val (.int p3), .val (.int (1 : Int32)), .val (.int r1), .val (.int r2), .val (.int r3), .unset, .unset] [(.int (1 : Int32)), (.int (1 : Int32))]))
    refine own_st (fun _ k => XS.icmpNo X3.here hx rfl (hb hby at_33) rfl (teq rfl).2 k) ?_
    show own_G _ _ _ _ (T3.setTop (mkF m 36 #[.val (.int p0), .val (.int p1), .val (.int p2), .val (.int p3), .val (.int (1 : Int32)), .val (.int r1), .val (.int r2), .val (.int r3), .unset, .unset] []))
    refine own_st (fun _ k => XS.iconst X3.here hx rfl (hb hby at_36) k) ?_
    show own_G _ _ _ _ (T3.setTop (mkF m 37 #[.val (.int p0), .val (.int p1), .val (.int p2), .val (.int p3), .val (.int (1 : Int32)), .val (.int r1), .val (.int r2), .val (.int r3), .unset, .unset] [(.int (1 : Int32))]))
    obtain ⟨T4, h4, k4, X4, e4, E4, A4, st4⟩ := newP X3 hx hZ (hw _ (List.mem_of_getElem? (i := 5) rfl)) eh3 (g := (mkF m 37 #[.val (.int p0), .val (.int p1), .val (.int p2), .val (.int p3), .val (.int (1 : Int32)), .val (.int r1), .val (.int r2), .val (.int r3), .unset, .unset] [(.int (1 : Int32))])) rfl (hb hby at_37) rfl (by decide) (cap := 1) (by decide) (by decide) (by decide) (by decide)
    obtain ⟨b4, g4⟩ : ∃ z, z = h0.size := ⟨_, rfl⟩
    rw [← g4] at A4 st4
    refine own_st st4 ?_
    have z5 : h0.size ≤ h4.size := E4.1
    have O6 := Old.ext O0 E4
    have K7 : Keep h0 h4 [] := Kr.ext E4
    have V4 : Arv Z h4 b4 k4 .char (1 : Int32) [(.int (0 : Int32))] (.int (0 : Int32)) := (Arv.new A4 (by decide)).pad (pad_rep [] (.int (0 : Int32)) 1)
    have lt4 := own_ltN A4.lt
    show own_G _ _ _ _ (T4.setTop (mkF m 39 #[.val (.int p0), .val (.int p1), .val (.int p2), .val (.int p3), .val (.int (1 : Int32)), .val (.int r1), .val (.int r2), .val (.int r3), .unset, .unset] [(.ref b4)]))
    refine own_st (fun _ k => XS.dup X4.here hx rfl (hb hby at_39) rfl rfl k) ?_
    show own_G _ _ _ _ (T4.setTop (mkF m 40 #[.val (.int p0), .val (.int p1), .val (.int p2), .val (.int p3), .val (.int (1 : Int32)), .val (.int r1), .val (.int r2), .val (.int r3), .unset, .unset] [(.ref b4), (.ref b4)]))
    refine own_st (fun _ k => XS.iconst X4.here hx rfl (hb hby at_40) k) ?_
    show own_G _ _ _ _ (T4.setTop (mkF m 41 #[.val (.int p0), .val (.int p1), .val (.int p2), .val (.int p3), .val (.int (1 : Int32)), .val (.int r1), .val (.int r2), .val (.int r3), .unset, .unset] [(.int (0 : Int32)), (.ref b4), (.ref b4)]))
    refine own_st (fun _ k => XS.iload X4.here hx rfl (hb hby at_41) rfl k) ?_
    show own_G _ _ _ _ (T4.setTop (mkF m 43 #[.val (.int p0), .val (.int p1), .val (.int p2), .val (.int p3), .val (.int (1 : Int32)), .val (.int r1), .val (.int r2), .val (.int r3), .unset, .unset] [(.int r1), (.int (0 : Int32)), (.ref b4), (.ref b4)]))
    obtain ⟨cl8, Ar8, qk8, Sz8, Mz8, Hz8, Uz8⟩ := id V4
    obtain ⟨T9, h9, X9, e9, W9, st9⟩ := stC X4 hx hZ e4 Ar8 (j := (0 : Int32)) (inb_of Sz8 ⟨by decide, by decide⟩) (g := (mkF m 43 #[.val (.int p0), .val (.int p1), .val (.int p2), .val (.int p3), .val (.int (1 : Int32)), .val (.int r1), .val (.int r2), .val (.int r3), .unset, .unset] [(.int r1), (.int (0 : Int32)), (.ref b4), (.ref b4)])) rfl rfl (hb hby at_43)
    refine own_st st9 ?_
    have V9 := Arv.set Ar8 qk8 Sz8 Mz8 Hz8 Uz8 (fits_nar_char _) W9 0 rfl (Nat.le_of_ble_eq_true rfl)
    have z10 : h9.size = h4.size := W9.size
    have O11 := Old.wr O6 W9 (by omega)
    have K12 : Keep h0 h9 [] := K7.wr W9 (Or.inr (by omega))
    have N9 := Fr.snoc X9 N3 (by omega : Z.heap.size ≤ b4)
    have V9' : Arv Z h9 b4 k4 .char (1 : Int32) [(.int (nar .char r1))] (.int (0 : Int32)) := V9
    show own_G _ _ _ _ (T9.setTop (mkF m 44 #[.val (.int p0), .val (.int p1), .val (.int p2), .val (.int p3), .val (.int (1 : Int32)), .val (.int r1), .val (.int r2), .val (.int r3), .unset, .unset] [(.ref b4)]))
    refine own_st (fun _ k => XS.goto X9.here hx rfl (pc0 := 44) (pc' := 87) rfl (hb hby at_44) (by decide) (by decide) k) ?_
    show own_G _ _ _ _ (T9.setTop (mkF m 87 #[.val (.int p0), .val (.int p1), .val (.int p2), .val (.int p3), .val (.int (1 : Int32)), .val (.int r1), .val (.int r2), .val (.int r3), .unset, .unset] [(.ref b4)]))
    refine own_st (fun _ k => XS.astore X9.here hx rfl (hb hby at_87) rfl rfl (l' := #[.val (.int p0), .val (.int p1), .val (.int p2), .val (.int p3), .val (.int (1 : Int32)), .val (.int r1), .val (.int r2), .val (.int r3), .val (.ref b4), .unset]) rfl k) ?_
    show own_G _ _ _ _ (T9.setTop (mkF m 89 #[.val (.int p0), .val (.int p1), .val (.int p2), .val (.int p3), .val (.int (1 : Int32)), .val (.int r1), .val (.int r2), .val (.int r3), .val (.ref b4), .unset] []))
    have Vc : Arv Z h9 b4 k4 .char (Int32.ofNat 1) (own_vals (own_f r1 r2 r3) 1) (.int (0 : Int32)) := V9'
    refine own_st (fun _ k => XS.aload X9.here hx rfl (hb hby at_89) rfl rfl k) ?_
    show own_G _ _ _ _ (T9.setTop (mkF m 91 #[.val (.int p0), .val (.int p1), .val (.int p2), .val (.int p3), .val (.int (1 : Int32)), .val (.int r1), .val (.int r2), .val (.int r3), .val (.ref b4), .unset] [(.ref b4)]))
    refine own_st (fun _ k => XS.iconst X9.here hx rfl (hb hby at_91) k) ?_
    show own_G _ _ _ _ (T9.setTop (mkF m 92 #[.val (.int p0), .val (.int p1), .val (.int p2), .val (.int p3), .val (.int (1 : Int32)), .val (.int r1), .val (.int r2), .val (.int r3), .val (.ref b4), .unset] [(.int (0 : Int32)), (.ref b4)]))
    obtain ⟨_, _, ⟨T13, L13, k13, n13⟩, -, X13, ⟨Lc13, hQ13, l13, y13, z13⟩, st13⟩ := Jvm.LawKit.callS X9 hx (y := (⟨"com/example/acquire/acquire/internal/LockNamesRequireValidPinLaw", "unpairedAt", "([CI)Z"⟩ : MethodName)) hown (mvT hZ (hw _ (List.mem_of_getElem? (i := 6) rfl))) (mvT hZ (hw _ (List.mem_of_getElem? (i := 7) rfl))) (mvT hZ (hw _ (List.mem_of_getElem? (i := 2) rfl))) (mvT hZ (hw _ (List.mem_of_getElem? (i := 8) rfl))) (by decide) (own_back (rm := ({ frames := 1, cells := 0, slots := 0, locals := 12 } : Room)) (W := 0) (own_unp l Z a0 hw [] b4 0 1 (own_f r1 r2 r3) k4 h9 O11 (by decide) (by decide) Vc) hZ (hw _ (List.mem_of_getElem? (i := 8) rfl)) (hw _ (List.mem_of_getElem? (i := 2) rfl)) (by decide) (by decide)) (g := (mkF m 92 #[.val (.int p0), .val (.int p1), .val (.int p2), .val (.int p3), .val (.int (1 : Int32)), .val (.int r1), .val (.int r2), .val (.int r3), .val (.ref b4), .unset] [(.int (0 : Int32)), (.ref b4)])) rfl (by rw [hml]; rfl) (argsL := [(.ref b4), (.int (0 : Int32))]) (rest := []) (lenOf own_pd500 rfl) rfl (by show 2 * 0 + _ ≤ _; exact Nat.le_of_eq rfl) (hb hby at_92) (fun _ _ => ⟨rfl, e9, (by decide : 0 + 0 + 0 + 0 + 1 + 0 ≤ _), (by decide : 0 + 0 + 0 + 0 + 1 + 0 ≤ _)⟩)
    dsimp only [Pt.U, Pt.locs, Pt.cells, Pt.slots] at X13 l13 y13 z13 st13 hQ13
    subst l13 y13 z13
    obtain ⟨r13, rfl, N13q, eh13, c13⟩ := hQ13
    have N13 := Fr.app N9 N13q
    refine own_st st13 ?_
    show own_G _ _ _ _ (T13.setTop (mkF m 95 #[.val (.int p0), .val (.int p1), .val (.int p2), .val (.int p3), .val (.int (1 : Int32)), .val (.int r1), .val (.int r2), .val (.int r3), .val (.ref b4), .unset] [(.int r13)]))
    rcases c13 with rfl | ⟨rfl, ok0⟩
    · show own_G _ _ _ _ (T13.setTop (mkF m 95 #[.val (.int p0), .val (.int p1), .val (.int p2), .val (.int p3), .val (.int (1 : Int32)), .val (.int r1), .val (.int r2), .val (.int r3), .val (.ref b4), .unset] [(.int (1 : Int32))]))
      refine own_st (fun _ k => XS.ifYes X13.here hx rfl (pc0 := 95) (pc' := 128) rfl (hb hby at_95) rfl ((if0 _ _).trans (feq (by decide)).2) (by decide) (by decide) k) ?_
      show own_G _ _ _ _ (T13.setTop (mkF m 128 #[.val (.int p0), .val (.int p1), .val (.int p2), .val (.int p3), .val (.int (1 : Int32)), .val (.int r1), .val (.int r2), .val (.int r3), .val (.ref b4), .unset] []))
      refine own_st (fun _ k => XS.iconst X13.here hx rfl (hb hby at_128) k) ?_
      show own_G _ _ _ _ (T13.setTop (mkF m 129 #[.val (.int p0), .val (.int p1), .val (.int p2), .val (.int p3), .val (.int (1 : Int32)), .val (.int r1), .val (.int r2), .val (.int r3), .val (.ref b4), .unset] [(.int (1 : Int32))]))
      exact own_retN X13 hx hret hlk (by simp) (hb hby at_129) ⟨rfl, N13⟩ (by decide) (by decide)
    · show own_G _ _ _ _ (T13.setTop (mkF m 95 #[.val (.int p0), .val (.int p1), .val (.int p2), .val (.int p3), .val (.int (1 : Int32)), .val (.int r1), .val (.int r2), .val (.int r3), .val (.ref b4), .unset] [(.int (0 : Int32))]))
      refine own_st (fun _ k => XS.ifNo X13.here hx rfl (hb hby at_95) rfl ((if0 _ _).trans (teq rfl).2) k) ?_
      show own_G _ _ _ _ (T13.setTop (mkF m 98 #[.val (.int p0), .val (.int p1), .val (.int p2), .val (.int p3), .val (.int (1 : Int32)), .val (.int r1), .val (.int r2), .val (.int r3), .val (.ref b4), .unset] []))
      refine own_st (fun _ k => XS.iload X13.here hx rfl (hb hby at_98) rfl k) ?_
      show own_G _ _ _ _ (T13.setTop (mkF m 100 #[.val (.int p0), .val (.int p1), .val (.int p2), .val (.int p3), .val (.int (1 : Int32)), .val (.int r1), .val (.int r2), .val (.int r3), .val (.ref b4), .unset] [(.int (1 : Int32))]))
      refine own_st (fun _ k => XS.iconst X13.here hx rfl (hb hby at_100) k) ?_
      show own_G _ _ _ _ (T13.setTop (mkF m 101 #[.val (.int p0), .val (.int p1), .val (.int p2), .val (.int p3), .val (.int (1 : Int32)), .val (.int r1), .val (.int r2), .val (.int r3), .val (.ref b4), .unset] [(.int (1 : Int32)), (.int (1 : Int32))]))
      refine own_st (fun _ k => XS.icmpYes X13.here hx rfl (pc0 := 101) (pc' := 113) rfl (hb hby at_101) rfl (flt (by decide)).2.2.2 (by decide) (by decide) k) ?_
      show own_G _ _ _ _ (T13.setTop (mkF m 113 #[.val (.int p0), .val (.int p1), .val (.int p2), .val (.int p3), .val (.int (1 : Int32)), .val (.int r1), .val (.int r2), .val (.int r3), .val (.ref b4), .unset] []))
      refine own_st (fun _ k => XS.iload X13.here hx rfl (hb hby at_113) rfl k) ?_
      show own_G _ _ _ _ (T13.setTop (mkF m 115 #[.val (.int p0), .val (.int p1), .val (.int p2), .val (.int p3), .val (.int (1 : Int32)), .val (.int r1), .val (.int r2), .val (.int r3), .val (.ref b4), .unset] [(.int (1 : Int32))]))
      refine own_st (fun _ k => XS.iconst X13.here hx rfl (hb hby at_115) k) ?_
      show own_G _ _ _ _ (T13.setTop (mkF m 116 #[.val (.int p0), .val (.int p1), .val (.int p2), .val (.int p3), .val (.int (1 : Int32)), .val (.int r1), .val (.int r2), .val (.int r3), .val (.ref b4), .unset] [(.int (2 : Int32)), (.int (1 : Int32))]))
      refine own_st (fun _ k => XS.icmpYes X13.here hx rfl (pc0 := 116) (pc' := 130) rfl (hb hby at_116) rfl (flt (by decide)).2.2.2 (by decide) (by decide) k) ?_
      show own_G _ _ _ _ (T13.setTop (mkF m 130 #[.val (.int p0), .val (.int p1), .val (.int p2), .val (.int p3), .val (.int (1 : Int32)), .val (.int r1), .val (.int r2), .val (.int r3), .val (.ref b4), .unset] []))
      obtain ⟨T14, h14, X14, e14, E14, A14, D14, -, st14⟩ := newO X13 hx hZ hown (hw _ (List.mem_of_getElem? (i := 19) rfl)) (hw _ (List.mem_of_getElem? (i := 20) rfl)) (hw _ (List.mem_of_getElem? (i := 21) rfl)) eh13 (g := (mkF m 130 #[.val (.int p0), .val (.int p1), .val (.int p2), .val (.int p3), .val (.int (1 : Int32)), .val (.int r1), .val (.int r2), .val (.int r3), .val (.ref b4), .unset] [])) rfl (hb hby at_130) (by decide) (by decide)
      obtain ⟨b14, g14⟩ : ∃ z, z = h9.size := ⟨_, rfl⟩
      rw [← g14] at A14 D14 st14
      refine own_st st14 ?_
      have z15 : h9.size ≤ h14.size := E14.1
      have O16 := Old.ext O11 E14
      have K17 : Keep h0 h14 [] := K12.ext E14
      have F14_coder : Fld Z h14 b14 "java/lang/String" "coder" "B" (.int (0 : Int32)) := D14 (Or.inr (hw _ (List.mem_of_getElem? (i := 64) rfl))) (ty := .byte) (by decide)
      have F14_value : Fld Z h14 b14 "java/lang/String" "value" "[B" .null := D14 (Or.inr (hw _ (List.mem_of_getElem? (i := 66) rfl))) (ty := (.array .byte)) (by decide)
      have lt14 := own_ltN A14.lt
      show own_G _ _ _ _ (T14.setTop (mkF m 133 #[.val (.int p0), .val (.int p1), .val (.int p2), .val (.int p3), .val (.int (1 : Int32)), .val (.int r1), .val (.int r2), .val (.int r3), .val (.ref b4), .unset] [(.ref b14)]))
      refine own_st (fun _ k => XS.dup X14.here hx rfl (hb hby at_133) rfl rfl k) ?_
      show own_G _ _ _ _ (T14.setTop (mkF m 134 #[.val (.int p0), .val (.int p1), .val (.int p2), .val (.int p3), .val (.int (1 : Int32)), .val (.int r1), .val (.int r2), .val (.int r3), .val (.ref b4), .unset] [(.ref b14), (.ref b14)]))
      refine own_st (fun _ k => XS.aload X14.here hx rfl (hb hby at_134) rfl rfl k) ?_
      show own_G _ _ _ _ (T14.setTop (mkF m 136 #[.val (.int p0), .val (.int p1), .val (.int p2), .val (.int p3), .val (.int (1 : Int32)), .val (.int r1), .val (.int r2), .val (.int r3), .val (.ref b4), .unset] [(.ref b4), (.ref b14), (.ref b14)]))
      have hok : ∀ j, j < 1 → own_ok (own_f r1 r2 r3) 1 j := fun j hj => by
        have : j = 0 := by omega
        rcases this with rfl
        · exact ok0
      have q18 : Arv Z h14 b4 k4 .char (1 : Int32) [(.int (nar .char r1))] (.int (0 : Int32)) := (V9'.ext E14)
      have Vc2 : Arv Z h14 b4 k4 .char (Int32.ofNat 1) (own_vals (own_f r1 r2 r3) 1) (.int (0 : Int32)) := q18
      obtain ⟨_, _, ⟨T19, L19, k19, n19⟩, -, X19, ⟨Lc19, hQ19, l19, y19, z19⟩, st19⟩ := X14.specialBack hx (y := (⟨"java/lang/String", "<init>", "([C)V"⟩ : MethodName)) rfl hown (mvT hZ (hw _ (List.mem_of_getElem? (i := 22) rfl))) (mvT hZ (hw _ (List.mem_of_getElem? (i := 23) rfl))) (mvT hZ (hw _ (List.mem_of_getElem? (i := 24) rfl))) (by decide) (own_back (rm := ({ frames := 5, cells := 2, slots := 9, locals := 74 } : Room)) (W := 1) (own_newS l Z a0 hw [] b14 b4 1 (own_f r1 r2 r3) k4 w1 .null (.int (0 : Int32)) h14 O16 (by decide) (by decide) (fun j _ => own_f_rng r1 r2 r3 j) US S1 hw1 (by omega) (show @Ne Nat b14 b4 by omega) A14 F14_value F14_coder Vc2) hZ (hw _ (List.mem_of_getElem? (i := 24) rfl)) (hw _ (List.mem_of_getElem? (i := 21) rfl)) (by decide) (by decide)) (g := (mkF m 136 #[.val (.int p0), .val (.int p1), .val (.int p2), .val (.int p3), .val (.int (1 : Int32)), .val (.int r1), .val (.int r2), .val (.int r3), .val (.ref b4), .unset] [(.ref b4), (.ref b14), (.ref b14)])) rfl (by rw [hml]; rfl) (Steps.refl _) (a := b14) (argsL := [(.ref b4)]) (rest := [(.ref b14)]) (lenOf own_pd514 rfl) rfl (by show 2 * 0 + _ ≤ _; exact Nat.le_of_eq rfl) (hb hby at_136) (fun _ _ => ⟨rfl, e14, (by decide : 0 + 0 + 0 + 0 + 1 + 0 + 1 + 2 ≤ _), (by decide : 0 + 0 + 0 + 0 + 1 + 0 + 4 + 9 ≤ _)⟩)
      dsimp only [Pt.U, Pt.locs, Pt.cells, Pt.slots] at X19 l19 y19 z19 st19 hQ19
      subst l19 y19 z19
      obtain ⟨rfl, N19q, K19_, t, kt, gt, Hs⟩ := hQ19
      have N19 := Fr.app N13 N19q
      refine own_tr st19 ?_
      have z20 : h14.size ≤ T19.heap.size := K19_.1
      have O21 := Old.keep O16 K19_ (allS (by omega) all0)
      have K22 : Keep h0 T19.heap [] := K17.trans K19_ (allS (Or.inr (by omega)) all0)
      show own_G _ _ _ _ (T19.setTop (mkF m 139 #[.val (.int p0), .val (.int p1), .val (.int p2), .val (.int p3), .val (.int (1 : Int32)), .val (.int r1), .val (.int r2), .val (.int r3), .val (.ref b4), .unset] [(.ref b14)]))
      refine own_st (fun _ k => XS.astore X19.here hx rfl (hb hby at_139) rfl rfl (l' := #[.val (.int p0), .val (.int p1), .val (.int p2), .val (.int p3), .val (.int (1 : Int32)), .val (.int r1), .val (.int r2), .val (.int r3), .val (.ref b4), .val (.ref b14)]) rfl k) ?_
      show own_G _ _ _ _ (T19.setTop (mkF m 141 #[.val (.int p0), .val (.int p1), .val (.int p2), .val (.int p3), .val (.int (1 : Int32)), .val (.int r1), .val (.int r2), .val (.int r3), .val (.ref b4), .val (.ref b14)] []))
      refine own_st (fun _ k => XS.aload X19.here hx rfl (hb hby at_141) rfl rfl k) ?_
      show own_G _ _ _ _ (T19.setTop (mkF m 143 #[.val (.int p0), .val (.int p1), .val (.int p2), .val (.int p3), .val (.int (1 : Int32)), .val (.int r1), .val (.int r2), .val (.int r3), .val (.ref b4), .val (.ref b14)] [(.ref b14)]))
      obtain ⟨_, _, ⟨T23, L23, k23, n23⟩, -, X23, ⟨Lc23, hQ23, l23, y23, z23⟩, st23⟩ := Jvm.LawKit.callS X19 hx (y := (⟨"com/example/acquire/acquire/internal/LockNames", "requireValid", "(Ljava/lang/String;)Ljava/lang/String;"⟩ : MethodName)) hown (mvT hZ (hw _ (List.mem_of_getElem? (i := 67) rfl))) (mvT hZ (hw _ (List.mem_of_getElem? (i := 68) rfl))) (mvT hZ (hw _ (List.mem_of_getElem? (i := 69) rfl))) (mvT hZ (hw _ (List.mem_of_getElem? (i := 70) rfl))) (by decide) (own_back (rm := ({ frames := 5, cells := 0, slots := 0, locals := 73 } : Room)) (W := 0) (own_rv l Z a0 hw [] b14 t kt 1 (own_f r1 r2 r3) w1 fm T19.heap O21 (by decide) (by decide) (fun j _ => own_f_rng r1 r2 r3 j) US S1 hw1 SF hfm Hs hok) hZ (hw _ (List.mem_of_getElem? (i := 70) rfl)) (hw _ (List.mem_of_getElem? (i := 69) rfl)) (by decide) (by decide)) (g := (mkF m 143 #[.val (.int p0), .val (.int p1), .val (.int p2), .val (.int p3), .val (.int (1 : Int32)), .val (.int r1), .val (.int r2), .val (.int r3), .val (.ref b4), .val (.ref b14)] [(.ref b14)])) rfl (by rw [hml]; rfl) (argsL := [(.ref b14)]) (rest := []) (lenOf own_pd518 rfl) rfl (by show 2 * 0 + _ ≤ _; exact Nat.le_of_eq rfl) (hb hby at_143) (fun _ _ => ⟨rfl, rfl, (by decide : 0 + 0 + 0 + 0 + 1 + 0 + 1 + 2 + 0 ≤ _), (by decide : 0 + 0 + 0 + 0 + 1 + 0 + 4 + 9 + 0 ≤ _)⟩)
      dsimp only [Pt.U, Pt.locs, Pt.cells, Pt.slots] at X23 l23 y23 z23 st23 hQ23
      subst l23 y23 z23
      obtain ⟨rfl, N23q, eh23⟩ := hQ23
      have N23 := Fr.app N19 N23q
      refine own_st st23 ?_
      show own_G _ _ _ _ (T23.setTop (mkF m 146 #[.val (.int p0), .val (.int p1), .val (.int p2), .val (.int p3), .val (.int (1 : Int32)), .val (.int r1), .val (.int r2), .val (.int r3), .val (.ref b4), .val (.ref b14)] [(.ref b14)]))
      refine own_st (fun _ k => XS.aload X23.here hx rfl (hb hby at_146) rfl rfl k) ?_
      show own_G _ _ _ _ (T23.setTop (mkF m 148 #[.val (.int p0), .val (.int p1), .val (.int p2), .val (.int p3), .val (.int (1 : Int32)), .val (.int r1), .val (.int r2), .val (.int r3), .val (.ref b4), .val (.ref b14)] [(.ref b14), (.ref b14)]))
      refine own_st (fun _ k => Jvm.RoadKit.acmp (g := (mkF m 148 #[.val (.int p0), .val (.int p1), .val (.int p2), .val (.int p3), .val (.int (1 : Int32)), .val (.int r1), .val (.int r2), .val (.int r3), .val (.ref b4), .val (.ref b14)] [(.ref b14), (.ref b14)])) X23 hx rfl rfl rfl (pc0 := 148) (pc' := 151) (same := true) rfl (hb hby at_148) rfl (decide_eq_true rfl) (by decide) (by decide) k) ?_
      show own_G _ _ _ _ (T23.setTop (mkF m 151 #[.val (.int p0), .val (.int p1), .val (.int p2), .val (.int p3), .val (.int (1 : Int32)), .val (.int r1), .val (.int r2), .val (.int r3), .val (.ref b4), .val (.ref b14)] []))
      refine own_st (fun _ k => XS.iconst X23.here hx rfl (hb hby at_151) k) ?_
      show own_G _ _ _ _ (T23.setTop (mkF m 152 #[.val (.int p0), .val (.int p1), .val (.int p2), .val (.int p3), .val (.int (1 : Int32)), .val (.int r1), .val (.int r2), .val (.int r3), .val (.ref b4), .val (.ref b14)] [(.int (1 : Int32))]))
      refine own_st (fun _ k => XS.goto X23.here hx rfl (pc0 := 152) (pc' := 156) rfl (hb hby at_152) (by decide) (by decide) k) ?_
      show own_G _ _ _ _ (T23.setTop (mkF m 156 #[.val (.int p0), .val (.int p1), .val (.int p2), .val (.int p3), .val (.int (1 : Int32)), .val (.int r1), .val (.int r2), .val (.int r3), .val (.ref b4), .val (.ref b14)] [(.int (1 : Int32))]))
      exact own_retN X23 hx hret hlk (by simp) (hb hby at_156) ⟨rfl, N23⟩ (by decide) (by decide)
  · skip
    rw [hl]
    show own_G _ _ _ _ (T0.setTop (mkF m 3 #[.val (.int p0), .val (.int p1), .val (.int p2), .val (.int p3), .unset, .unset, .unset, .unset, .unset, .unset] [(.int (2 : Int32))]))
    refine own_st (fun _ k => XS.istore X0.here hx rfl (hb hby at_3) rfl (l' := #[.val (.int p0), .val (.int p1), .val (.int p2), .val (.int p3), .val (.int (2 : Int32)), .unset, .unset, .unset, .unset, .unset]) rfl k) ?_
    show own_G _ _ _ _ (T0.setTop (mkF m 5 #[.val (.int p0), .val (.int p1), .val (.int p2), .val (.int p3), .val (.int (2 : Int32)), .unset, .unset, .unset, .unset, .unset] []))
    refine own_st (fun _ k => XS.iload X0.here hx rfl (hb hby at_5) rfl k) ?_
    show own_G _ _ _ _ (T0.setTop (mkF m 7 #[.val (.int p0), .val (.int p1), .val (.int p2), .val (.int p3), .val (.int (2 : Int32)), .unset, .unset, .unset, .unset, .unset] [(.int (2 : Int32))]))
    refine own_st (fun _ k => XS.ifYes X0.here hx rfl (pc0 := 7) (pc' := 12) rfl (hb hby at_7) rfl ((if0 _ _).trans (feq (by decide)).2) (by decide) (by decide) k) ?_
    show own_G _ _ _ _ (T0.setTop (mkF m 12 #[.val (.int p0), .val (.int p1), .val (.int p2), .val (.int p3), .val (.int (2 : Int32)), .unset, .unset, .unset, .unset, .unset] []))
    refine own_st (fun _ k => XS.iloadN X0.here hx rfl (hb hby at_12) rfl k) ?_
    show own_G _ _ _ _ (T0.setTop (mkF m 13 #[.val (.int p0), .val (.int p1), .val (.int p2), .val (.int p3), .val (.int (2 : Int32)), .unset, .unset, .unset, .unset, .unset] [(.int p1)]))
    obtain ⟨_, _, ⟨T24, L24, k24, n24⟩, -, X24, ⟨Lc24, hQ24, l24, y24, z24⟩, st24⟩ := Jvm.LawKit.callS X0 hx (y := (⟨"com/example/acquire/acquire/internal/LockNamesRequireValidPinLaw", "draw", "(I)C"⟩ : MethodName)) hown (mvT hZ (hw _ (List.mem_of_getElem? (i := 0) rfl))) (mvT hZ (hw _ (List.mem_of_getElem? (i := 1) rfl))) (mvT hZ (hw _ (List.mem_of_getElem? (i := 2) rfl))) (mvT hZ (hw _ (List.mem_of_getElem? (i := 3) rfl))) (by decide) (own_back (rm := ({ frames := 0, cells := 0, slots := 0, locals := 0 } : Room)) (W := 0) (own_draw l Z a0 hw [] p1 h0 O0) hZ (hw _ (List.mem_of_getElem? (i := 3) rfl)) (hw _ (List.mem_of_getElem? (i := 2) rfl)) (by decide) (by decide)) (g := (mkF m 13 #[.val (.int p0), .val (.int p1), .val (.int p2), .val (.int p3), .val (.int (2 : Int32)), .unset, .unset, .unset, .unset, .unset] [(.int p1)])) rfl (by rw [hml]; rfl) (argsL := [(.int p1)]) (rest := []) (lenOf own_pd478 rfl) rfl (by show 2 * 0 + _ ≤ _; exact Nat.le_of_eq rfl) (hb hby at_13) (fun _ _ => ⟨rfl, e0, (by decide : 0 + 0 ≤ _), (by decide : 0 + 0 ≤ _)⟩)
    dsimp only [Pt.U, Pt.locs, Pt.cells, Pt.slots] at X24 l24 y24 z24 st24 hQ24
    subst l24 y24 z24
    obtain ⟨r24, rfl, N24q, eh24, c24⟩ := hQ24
    have N24 := Fr.app N0 N24q
    refine own_st st24 ?_
    show own_G _ _ _ _ (T24.setTop (mkF m 16 #[.val (.int p0), .val (.int p1), .val (.int p2), .val (.int p3), .val (.int (2 : Int32)), .unset, .unset, .unset, .unset, .unset] [(.int r24)]))
    refine own_st (fun _ k => XS.istore X24.here hx rfl (hb hby at_16) rfl (l' := #[.val (.int p0), .val (.int p1), .val (.int p2), .val (.int p3), .val (.int (2 : Int32)), .val (.int r24), .unset, .unset, .unset, .unset]) rfl k) ?_
    show own_G _ _ _ _ (T24.setTop (mkF m 18 #[.val (.int p0), .val (.int p1), .val (.int p2), .val (.int p3), .val (.int (2 : Int32)), .val (.int r24), .unset, .unset, .unset, .unset] []))
    refine own_st (fun _ k => XS.iloadN X24.here hx rfl (hb hby at_18) rfl k) ?_
    show own_G _ _ _ _ (T24.setTop (mkF m 19 #[.val (.int p0), .val (.int p1), .val (.int p2), .val (.int p3), .val (.int (2 : Int32)), .val (.int r24), .unset, .unset, .unset, .unset] [(.int p2)]))
    obtain ⟨_, _, ⟨T25, L25, k25, n25⟩, -, X25, ⟨Lc25, hQ25, l25, y25, z25⟩, st25⟩ := Jvm.LawKit.callS X24 hx (y := (⟨"com/example/acquire/acquire/internal/LockNamesRequireValidPinLaw", "draw", "(I)C"⟩ : MethodName)) hown (mvT hZ (hw _ (List.mem_of_getElem? (i := 0) rfl))) (mvT hZ (hw _ (List.mem_of_getElem? (i := 1) rfl))) (mvT hZ (hw _ (List.mem_of_getElem? (i := 2) rfl))) (mvT hZ (hw _ (List.mem_of_getElem? (i := 3) rfl))) (by decide) (own_back (rm := ({ frames := 0, cells := 0, slots := 0, locals := 0 } : Room)) (W := 0) (own_draw l Z a0 hw [] p2 h0 O0) hZ (hw _ (List.mem_of_getElem? (i := 3) rfl)) (hw _ (List.mem_of_getElem? (i := 2) rfl)) (by decide) (by decide)) (g := (mkF m 19 #[.val (.int p0), .val (.int p1), .val (.int p2), .val (.int p3), .val (.int (2 : Int32)), .val (.int r24), .unset, .unset, .unset, .unset] [(.int p2)])) rfl (by rw [hml]; rfl) (argsL := [(.int p2)]) (rest := []) (lenOf own_pd478 rfl) rfl (by show 2 * 0 + _ ≤ _; exact Nat.le_of_eq rfl) (hb hby at_19) (fun _ _ => ⟨rfl, eh24, (by decide : 0 + 0 + 0 ≤ _), (by decide : 0 + 0 + 0 ≤ _)⟩)
    dsimp only [Pt.U, Pt.locs, Pt.cells, Pt.slots] at X25 l25 y25 z25 st25 hQ25
    subst l25 y25 z25
    obtain ⟨r25, rfl, N25q, eh25, c25⟩ := hQ25
    have N25 := Fr.app N24 N25q
    refine own_st st25 ?_
    show own_G _ _ _ _ (T25.setTop (mkF m 22 #[.val (.int p0), .val (.int p1), .val (.int p2), .val (.int p3), .val (.int (2 : Int32)), .val (.int r24), .unset, .unset, .unset, .unset] [(.int r25)]))
    refine own_st (fun _ k => XS.istore X25.here hx rfl (hb hby at_22) rfl (l' := #[.val (.int p0), .val (.int p1), .val (.int p2), .val (.int p3), .val (.int (2 : Int32)), .val (.int r24), .val (.int r25), .unset, .unset, .unset]) rfl k) ?_
    show own_G _ _ _ _ (T25.setTop (mkF m 24 #[.val (.int p0), .val (.int p1), .val (.int p2), .val (.int p3), .val (.int (2 : Int32)), .val (.int r24), .val (.int r25), .unset, .unset, .unset] []))
    refine own_st (fun _ k => XS.iloadN X25.here hx rfl (hb hby at_24) rfl k) ?_
    show own_G _ _ _ _ (T25.setTop (mkF m 25 #[.val (.int p0), .val (.int p1), .val (.int p2), .val (.int p3), .val (.int (2 : Int32)), .val (.int r24), .val (.int r25), .unset, .unset, .unset] [(.int p3)]))
    obtain ⟨_, _, ⟨T26, L26, k26, n26⟩, -, X26, ⟨Lc26, hQ26, l26, y26, z26⟩, st26⟩ := Jvm.LawKit.callS X25 hx (y := (⟨"com/example/acquire/acquire/internal/LockNamesRequireValidPinLaw", "draw", "(I)C"⟩ : MethodName)) hown (mvT hZ (hw _ (List.mem_of_getElem? (i := 0) rfl))) (mvT hZ (hw _ (List.mem_of_getElem? (i := 1) rfl))) (mvT hZ (hw _ (List.mem_of_getElem? (i := 2) rfl))) (mvT hZ (hw _ (List.mem_of_getElem? (i := 3) rfl))) (by decide) (own_back (rm := ({ frames := 0, cells := 0, slots := 0, locals := 0 } : Room)) (W := 0) (own_draw l Z a0 hw [] p3 h0 O0) hZ (hw _ (List.mem_of_getElem? (i := 3) rfl)) (hw _ (List.mem_of_getElem? (i := 2) rfl)) (by decide) (by decide)) (g := (mkF m 25 #[.val (.int p0), .val (.int p1), .val (.int p2), .val (.int p3), .val (.int (2 : Int32)), .val (.int r24), .val (.int r25), .unset, .unset, .unset] [(.int p3)])) rfl (by rw [hml]; rfl) (argsL := [(.int p3)]) (rest := []) (lenOf own_pd478 rfl) rfl (by show 2 * 0 + _ ≤ _; exact Nat.le_of_eq rfl) (hb hby at_25) (fun _ _ => ⟨rfl, eh25, (by decide : 0 + 0 + 0 + 0 ≤ _), (by decide : 0 + 0 + 0 + 0 ≤ _)⟩)
    dsimp only [Pt.U, Pt.locs, Pt.cells, Pt.slots] at X26 l26 y26 z26 st26 hQ26
    subst l26 y26 z26
    obtain ⟨r26, rfl, N26q, eh26, c26⟩ := hQ26
    have N26 := Fr.app N25 N26q
    refine own_st st26 ?_
    show own_G _ _ _ _ (T26.setTop (mkF m 28 #[.val (.int p0), .val (.int p1), .val (.int p2), .val (.int p3), .val (.int (2 : Int32)), .val (.int r24), .val (.int r25), .unset, .unset, .unset] [(.int r26)]))
    refine own_st (fun _ k => XS.istore X26.here hx rfl (hb hby at_28) rfl (l' := #[.val (.int p0), .val (.int p1), .val (.int p2), .val (.int p3), .val (.int (2 : Int32)), .val (.int r24), .val (.int r25), .val (.int r26), .unset, .unset]) rfl k) ?_
    show own_G _ _ _ _ (T26.setTop (mkF m 30 #[.val (.int p0), .val (.int p1), .val (.int p2), .val (.int p3), .val (.int (2 : Int32)), .val (.int r24), .val (.int r25), .val (.int r26), .unset, .unset] []))
    refine own_st (fun _ k => XS.iload X26.here hx rfl (hb hby at_30) rfl k) ?_
    show own_G _ _ _ _ (T26.setTop (mkF m 32 #[.val (.int p0), .val (.int p1), .val (.int p2), .val (.int p3), .val (.int (2 : Int32)), .val (.int r24), .val (.int r25), .val (.int r26), .unset, .unset] [(.int (2 : Int32))]))
    refine own_st (fun _ k => XS.iconst X26.here hx rfl (hb hby at_32) k) ?_
    show own_G _ _ _ _ (T26.setTop (mkF m 33 #[.val (.int p0), .val (.int p1), .val (.int p2), .val (.int p3), .val (.int (2 : Int32)), .val (.int r24), .val (.int r25), .val (.int r26), .unset, .unset] [(.int (1 : Int32)), (.int (2 : Int32))]))
    refine own_st (fun _ k => XS.icmpYes X26.here hx rfl (pc0 := 33) (pc' := 47) rfl (hb hby at_33) rfl (feq (by decide)).2 (by decide) (by decide) k) ?_
    show own_G _ _ _ _ (T26.setTop (mkF m 47 #[.val (.int p0), .val (.int p1), .val (.int p2), .val (.int p3), .val (.int (2 : Int32)), .val (.int r24), .val (.int r25), .val (.int r26), .unset, .unset] []))
    refine own_st (fun _ k => XS.iload X26.here hx rfl (hb hby at_47) rfl k) ?_
    show own_G _ _ _ _ (T26.setTop (mkF m 49 #[.val (.int p0), .val (.int p1), .val (.int p2), .val (.int p3), .val (.int (2 : Int32)), .val (.int r24), .val (.int r25), .val (.int r26), .unset, .unset] [(.int (2 : Int32))]))
    refine own_st (fun _ k => XS.iconst X26.here hx rfl (hb hby at_49) k) ?_
    show own_G _ _ _ _ (T26.setTop (mkF m 50 #[.val (.int p0), .val (.int p1), .val (.int p2), .val (.int p3), .val (.int (2 : Int32)), .val (.int r24), .val (.int r25), .val (.int r26), .unset, .unset] [(.int (2 : Int32)), (.int (2 : Int32))]))
    refine own_st (fun _ k => XS.icmpNo X26.here hx rfl (hb hby at_50) rfl (teq rfl).2 k) ?_
    show own_G _ _ _ _ (T26.setTop (mkF m 53 #[.val (.int p0), .val (.int p1), .val (.int p2), .val (.int p3), .val (.int (2 : Int32)), .val (.int r24), .val (.int r25), .val (.int r26), .unset, .unset] []))
    refine own_st (fun _ k => XS.iconst X26.here hx rfl (hb hby at_53) k) ?_
    show own_G _ _ _ _ (T26.setTop (mkF m 54 #[.val (.int p0), .val (.int p1), .val (.int p2), .val (.int p3), .val (.int (2 : Int32)), .val (.int r24), .val (.int r25), .val (.int r26), .unset, .unset] [(.int (2 : Int32))]))
    obtain ⟨T27, h27, k27, X27, e27, E27, A27, st27⟩ := newP X26 hx hZ (hw _ (List.mem_of_getElem? (i := 5) rfl)) eh26 (g := (mkF m 54 #[.val (.int p0), .val (.int p1), .val (.int p2), .val (.int p3), .val (.int (2 : Int32)), .val (.int r24), .val (.int r25), .val (.int r26), .unset, .unset] [(.int (2 : Int32))])) rfl (hb hby at_54) rfl (by decide) (cap := 2) (by decide) (by decide) (by decide) (by decide)
    obtain ⟨b27, g27⟩ : ∃ z, z = h0.size := ⟨_, rfl⟩
    rw [← g27] at A27 st27
    refine own_st st27 ?_
    have z28 : h0.size ≤ h27.size := E27.1
    have O29 := Old.ext O0 E27
    have K30 : Keep h0 h27 [] := Kr.ext E27
    have V27 : Arv Z h27 b27 k27 .char (2 : Int32) [(.int (0 : Int32)), (.int (0 : Int32))] (.int (0 : Int32)) := (Arv.new A27 (by decide)).pad (pad_rep [] (.int (0 : Int32)) 2)
    have lt27 := own_ltN A27.lt
    show own_G _ _ _ _ (T27.setTop (mkF m 56 #[.val (.int p0), .val (.int p1), .val (.int p2), .val (.int p3), .val (.int (2 : Int32)), .val (.int r24), .val (.int r25), .val (.int r26), .unset, .unset] [(.ref b27)]))
    refine own_st (fun _ k => XS.dup X27.here hx rfl (hb hby at_56) rfl rfl k) ?_
    show own_G _ _ _ _ (T27.setTop (mkF m 57 #[.val (.int p0), .val (.int p1), .val (.int p2), .val (.int p3), .val (.int (2 : Int32)), .val (.int r24), .val (.int r25), .val (.int r26), .unset, .unset] [(.ref b27), (.ref b27)]))
    refine own_st (fun _ k => XS.iconst X27.here hx rfl (hb hby at_57) k) ?_
    show own_G _ _ _ _ (T27.setTop (mkF m 58 #[.val (.int p0), .val (.int p1), .val (.int p2), .val (.int p3), .val (.int (2 : Int32)), .val (.int r24), .val (.int r25), .val (.int r26), .unset, .unset] [(.int (0 : Int32)), (.ref b27), (.ref b27)]))
    refine own_st (fun _ k => XS.iload X27.here hx rfl (hb hby at_58) rfl k) ?_
    show own_G _ _ _ _ (T27.setTop (mkF m 60 #[.val (.int p0), .val (.int p1), .val (.int p2), .val (.int p3), .val (.int (2 : Int32)), .val (.int r24), .val (.int r25), .val (.int r26), .unset, .unset] [(.int r24), (.int (0 : Int32)), (.ref b27), (.ref b27)]))
    obtain ⟨cl31, Ar31, qk31, Sz31, Mz31, Hz31, Uz31⟩ := id V27
    obtain ⟨T32, h32, X32, e32, W32, st32⟩ := stC X27 hx hZ e27 Ar31 (j := (0 : Int32)) (inb_of Sz31 ⟨by decide, by decide⟩) (g := (mkF m 60 #[.val (.int p0), .val (.int p1), .val (.int p2), .val (.int p3), .val (.int (2 : Int32)), .val (.int r24), .val (.int r25), .val (.int r26), .unset, .unset] [(.int r24), (.int (0 : Int32)), (.ref b27), (.ref b27)])) rfl rfl (hb hby at_60)
    refine own_st st32 ?_
    have V32 := Arv.set Ar31 qk31 Sz31 Mz31 Hz31 Uz31 (fits_nar_char _) W32 0 rfl (Nat.le_of_ble_eq_true rfl)
    have z33 : h32.size = h27.size := W32.size
    have O34 := Old.wr O29 W32 (by omega)
    have K35 : Keep h0 h32 [] := K30.wr W32 (Or.inr (by omega))
    have N32 := Fr.snoc X32 N26 (by omega : Z.heap.size ≤ b27)
    have V32' : Arv Z h32 b27 k27 .char (2 : Int32) [(.int (nar .char r24)), (.int (0 : Int32))] (.int (0 : Int32)) := V32
    show own_G _ _ _ _ (T32.setTop (mkF m 61 #[.val (.int p0), .val (.int p1), .val (.int p2), .val (.int p3), .val (.int (2 : Int32)), .val (.int r24), .val (.int r25), .val (.int r26), .unset, .unset] [(.ref b27)]))
    refine own_st (fun _ k => XS.dup X32.here hx rfl (hb hby at_61) rfl rfl k) ?_
    show own_G _ _ _ _ (T32.setTop (mkF m 62 #[.val (.int p0), .val (.int p1), .val (.int p2), .val (.int p3), .val (.int (2 : Int32)), .val (.int r24), .val (.int r25), .val (.int r26), .unset, .unset] [(.ref b27), (.ref b27)]))
    refine own_st (fun _ k => XS.iconst X32.here hx rfl (hb hby at_62) k) ?_
    show own_G _ _ _ _ (T32.setTop (mkF m 63 #[.val (.int p0), .val (.int p1), .val (.int p2), .val (.int p3), .val (.int (2 : Int32)), .val (.int r24), .val (.int r25), .val (.int r26), .unset, .unset] [(.int (1 : Int32)), (.ref b27), (.ref b27)]))
    refine own_st (fun _ k => XS.iload X32.here hx rfl (hb hby at_63) rfl k) ?_
    show own_G _ _ _ _ (T32.setTop (mkF m 65 #[.val (.int p0), .val (.int p1), .val (.int p2), .val (.int p3), .val (.int (2 : Int32)), .val (.int r24), .val (.int r25), .val (.int r26), .unset, .unset] [(.int r25), (.int (1 : Int32)), (.ref b27), (.ref b27)]))
    obtain ⟨cl36, Ar36, qk36, Sz36, Mz36, Hz36, Uz36⟩ := id V32'
    obtain ⟨T37, h37, X37, e37, W37, st37⟩ := stC X32 hx hZ e32 Ar36 (j := (1 : Int32)) (inb_of Sz36 ⟨by decide, by decide⟩) (g := (mkF m 65 #[.val (.int p0), .val (.int p1), .val (.int p2), .val (.int p3), .val (.int (2 : Int32)), .val (.int r24), .val (.int r25), .val (.int r26), .unset, .unset] [(.int r25), (.int (1 : Int32)), (.ref b27), (.ref b27)])) rfl rfl (hb hby at_65)
    refine own_st st37 ?_
    have V37 := Arv.set Ar36 qk36 Sz36 Mz36 Hz36 Uz36 (fits_nar_char _) W37 1 rfl (Nat.le_of_ble_eq_true rfl)
    have z38 : h37.size = h32.size := W37.size
    have O39 := Old.wr O34 W37 (by omega)
    have K40 : Keep h0 h37 [] := K35.wr W37 (Or.inr (by omega))
    have N37 := Fr.snoc X37 N32 (by omega : Z.heap.size ≤ b27)
    have V37' : Arv Z h37 b27 k27 .char (2 : Int32) [(.int (nar .char r24)), (.int (nar .char r25))] (.int (0 : Int32)) := V37
    show own_G _ _ _ _ (T37.setTop (mkF m 66 #[.val (.int p0), .val (.int p1), .val (.int p2), .val (.int p3), .val (.int (2 : Int32)), .val (.int r24), .val (.int r25), .val (.int r26), .unset, .unset] [(.ref b27)]))
    refine own_st (fun _ k => XS.goto X37.here hx rfl (pc0 := 66) (pc' := 87) rfl (hb hby at_66) (by decide) (by decide) k) ?_
    show own_G _ _ _ _ (T37.setTop (mkF m 87 #[.val (.int p0), .val (.int p1), .val (.int p2), .val (.int p3), .val (.int (2 : Int32)), .val (.int r24), .val (.int r25), .val (.int r26), .unset, .unset] [(.ref b27)]))
    refine own_st (fun _ k => XS.astore X37.here hx rfl (hb hby at_87) rfl rfl (l' := #[.val (.int p0), .val (.int p1), .val (.int p2), .val (.int p3), .val (.int (2 : Int32)), .val (.int r24), .val (.int r25), .val (.int r26), .val (.ref b27), .unset]) rfl k) ?_
    show own_G _ _ _ _ (T37.setTop (mkF m 89 #[.val (.int p0), .val (.int p1), .val (.int p2), .val (.int p3), .val (.int (2 : Int32)), .val (.int r24), .val (.int r25), .val (.int r26), .val (.ref b27), .unset] []))
    have Vc : Arv Z h37 b27 k27 .char (Int32.ofNat 2) (own_vals (own_f r24 r25 r26) 2) (.int (0 : Int32)) := V37'
    refine own_st (fun _ k => XS.aload X37.here hx rfl (hb hby at_89) rfl rfl k) ?_
    show own_G _ _ _ _ (T37.setTop (mkF m 91 #[.val (.int p0), .val (.int p1), .val (.int p2), .val (.int p3), .val (.int (2 : Int32)), .val (.int r24), .val (.int r25), .val (.int r26), .val (.ref b27), .unset] [(.ref b27)]))
    refine own_st (fun _ k => XS.iconst X37.here hx rfl (hb hby at_91) k) ?_
    show own_G _ _ _ _ (T37.setTop (mkF m 92 #[.val (.int p0), .val (.int p1), .val (.int p2), .val (.int p3), .val (.int (2 : Int32)), .val (.int r24), .val (.int r25), .val (.int r26), .val (.ref b27), .unset] [(.int (0 : Int32)), (.ref b27)]))
    obtain ⟨_, _, ⟨T41, L41, k41, n41⟩, -, X41, ⟨Lc41, hQ41, l41, y41, z41⟩, st41⟩ := Jvm.LawKit.callS X37 hx (y := (⟨"com/example/acquire/acquire/internal/LockNamesRequireValidPinLaw", "unpairedAt", "([CI)Z"⟩ : MethodName)) hown (mvT hZ (hw _ (List.mem_of_getElem? (i := 6) rfl))) (mvT hZ (hw _ (List.mem_of_getElem? (i := 7) rfl))) (mvT hZ (hw _ (List.mem_of_getElem? (i := 2) rfl))) (mvT hZ (hw _ (List.mem_of_getElem? (i := 8) rfl))) (by decide) (own_back (rm := ({ frames := 1, cells := 0, slots := 0, locals := 12 } : Room)) (W := 0) (own_unp l Z a0 hw [] b27 0 2 (own_f r24 r25 r26) k27 h37 O39 (by decide) (by decide) Vc) hZ (hw _ (List.mem_of_getElem? (i := 8) rfl)) (hw _ (List.mem_of_getElem? (i := 2) rfl)) (by decide) (by decide)) (g := (mkF m 92 #[.val (.int p0), .val (.int p1), .val (.int p2), .val (.int p3), .val (.int (2 : Int32)), .val (.int r24), .val (.int r25), .val (.int r26), .val (.ref b27), .unset] [(.int (0 : Int32)), (.ref b27)])) rfl (by rw [hml]; rfl) (argsL := [(.ref b27), (.int (0 : Int32))]) (rest := []) (lenOf own_pd500 rfl) rfl (by show 2 * 0 + _ ≤ _; exact Nat.le_of_eq rfl) (hb hby at_92) (fun _ _ => ⟨rfl, e37, (by decide : 0 + 0 + 0 + 0 + 1 + 0 ≤ _), (by decide : 0 + 0 + 0 + 0 + 2 + 0 ≤ _)⟩)
    dsimp only [Pt.U, Pt.locs, Pt.cells, Pt.slots] at X41 l41 y41 z41 st41 hQ41
    subst l41 y41 z41
    obtain ⟨r41, rfl, N41q, eh41, c41⟩ := hQ41
    have N41 := Fr.app N37 N41q
    refine own_st st41 ?_
    show own_G _ _ _ _ (T41.setTop (mkF m 95 #[.val (.int p0), .val (.int p1), .val (.int p2), .val (.int p3), .val (.int (2 : Int32)), .val (.int r24), .val (.int r25), .val (.int r26), .val (.ref b27), .unset] [(.int r41)]))
    rcases c41 with rfl | ⟨rfl, ok0⟩
    · show own_G _ _ _ _ (T41.setTop (mkF m 95 #[.val (.int p0), .val (.int p1), .val (.int p2), .val (.int p3), .val (.int (2 : Int32)), .val (.int r24), .val (.int r25), .val (.int r26), .val (.ref b27), .unset] [(.int (1 : Int32))]))
      refine own_st (fun _ k => XS.ifYes X41.here hx rfl (pc0 := 95) (pc' := 128) rfl (hb hby at_95) rfl ((if0 _ _).trans (feq (by decide)).2) (by decide) (by decide) k) ?_
      show own_G _ _ _ _ (T41.setTop (mkF m 128 #[.val (.int p0), .val (.int p1), .val (.int p2), .val (.int p3), .val (.int (2 : Int32)), .val (.int r24), .val (.int r25), .val (.int r26), .val (.ref b27), .unset] []))
      refine own_st (fun _ k => XS.iconst X41.here hx rfl (hb hby at_128) k) ?_
      show own_G _ _ _ _ (T41.setTop (mkF m 129 #[.val (.int p0), .val (.int p1), .val (.int p2), .val (.int p3), .val (.int (2 : Int32)), .val (.int r24), .val (.int r25), .val (.int r26), .val (.ref b27), .unset] [(.int (1 : Int32))]))
      exact own_retN X41 hx hret hlk (by simp) (hb hby at_129) ⟨rfl, N41⟩ (by decide) (by decide)
    · show own_G _ _ _ _ (T41.setTop (mkF m 95 #[.val (.int p0), .val (.int p1), .val (.int p2), .val (.int p3), .val (.int (2 : Int32)), .val (.int r24), .val (.int r25), .val (.int r26), .val (.ref b27), .unset] [(.int (0 : Int32))]))
      refine own_st (fun _ k => XS.ifNo X41.here hx rfl (hb hby at_95) rfl ((if0 _ _).trans (teq rfl).2) k) ?_
      show own_G _ _ _ _ (T41.setTop (mkF m 98 #[.val (.int p0), .val (.int p1), .val (.int p2), .val (.int p3), .val (.int (2 : Int32)), .val (.int r24), .val (.int r25), .val (.int r26), .val (.ref b27), .unset] []))
      refine own_st (fun _ k => XS.iload X41.here hx rfl (hb hby at_98) rfl k) ?_
      show own_G _ _ _ _ (T41.setTop (mkF m 100 #[.val (.int p0), .val (.int p1), .val (.int p2), .val (.int p3), .val (.int (2 : Int32)), .val (.int r24), .val (.int r25), .val (.int r26), .val (.ref b27), .unset] [(.int (2 : Int32))]))
      refine own_st (fun _ k => XS.iconst X41.here hx rfl (hb hby at_100) k) ?_
      show own_G _ _ _ _ (T41.setTop (mkF m 101 #[.val (.int p0), .val (.int p1), .val (.int p2), .val (.int p3), .val (.int (2 : Int32)), .val (.int r24), .val (.int r25), .val (.int r26), .val (.ref b27), .unset] [(.int (1 : Int32)), (.int (2 : Int32))]))
      refine own_st (fun _ k => XS.icmpNo X41.here hx rfl (hb hby at_101) rfl (tlt (by decide)).2.2.2 k) ?_
      show own_G _ _ _ _ (T41.setTop (mkF m 104 #[.val (.int p0), .val (.int p1), .val (.int p2), .val (.int p3), .val (.int (2 : Int32)), .val (.int r24), .val (.int r25), .val (.int r26), .val (.ref b27), .unset] []))
      refine own_st (fun _ k => XS.aload X41.here hx rfl (hb hby at_104) rfl rfl k) ?_
      show own_G _ _ _ _ (T41.setTop (mkF m 106 #[.val (.int p0), .val (.int p1), .val (.int p2), .val (.int p3), .val (.int (2 : Int32)), .val (.int r24), .val (.int r25), .val (.int r26), .val (.ref b27), .unset] [(.ref b27)]))
      refine own_st (fun _ k => XS.iconst X41.here hx rfl (hb hby at_106) k) ?_
      show own_G _ _ _ _ (T41.setTop (mkF m 107 #[.val (.int p0), .val (.int p1), .val (.int p2), .val (.int p3), .val (.int (2 : Int32)), .val (.int r24), .val (.int r25), .val (.int r26), .val (.ref b27), .unset] [(.int (1 : Int32)), (.ref b27)]))
      obtain ⟨_, _, ⟨T42, L42, k42, n42⟩, -, X42, ⟨Lc42, hQ42, l42, y42, z42⟩, st42⟩ := Jvm.LawKit.callS X41 hx (y := (⟨"com/example/acquire/acquire/internal/LockNamesRequireValidPinLaw", "unpairedAt", "([CI)Z"⟩ : MethodName)) hown (mvT hZ (hw _ (List.mem_of_getElem? (i := 6) rfl))) (mvT hZ (hw _ (List.mem_of_getElem? (i := 7) rfl))) (mvT hZ (hw _ (List.mem_of_getElem? (i := 2) rfl))) (mvT hZ (hw _ (List.mem_of_getElem? (i := 8) rfl))) (by decide) (own_back (rm := ({ frames := 1, cells := 0, slots := 0, locals := 12 } : Room)) (W := 0) (own_unp l Z a0 hw [] b27 1 2 (own_f r24 r25 r26) k27 h37 O39 (by decide) (by decide) Vc) hZ (hw _ (List.mem_of_getElem? (i := 8) rfl)) (hw _ (List.mem_of_getElem? (i := 2) rfl)) (by decide) (by decide)) (g := (mkF m 107 #[.val (.int p0), .val (.int p1), .val (.int p2), .val (.int p3), .val (.int (2 : Int32)), .val (.int r24), .val (.int r25), .val (.int r26), .val (.ref b27), .unset] [(.int (1 : Int32)), (.ref b27)])) rfl (by rw [hml]; rfl) (argsL := [(.ref b27), (.int (1 : Int32))]) (rest := []) (lenOf own_pd500 rfl) rfl (by show 2 * 0 + _ ≤ _; exact Nat.le_of_eq rfl) (hb hby at_107) (fun _ _ => ⟨rfl, eh41, (by decide : 0 + 0 + 0 + 0 + 1 + 0 + 0 ≤ _), (by decide : 0 + 0 + 0 + 0 + 2 + 0 + 0 ≤ _)⟩)
      dsimp only [Pt.U, Pt.locs, Pt.cells, Pt.slots] at X42 l42 y42 z42 st42 hQ42
      subst l42 y42 z42
      obtain ⟨r42, rfl, N42q, eh42, c42⟩ := hQ42
      have N42 := Fr.app N41 N42q
      refine own_st st42 ?_
      show own_G _ _ _ _ (T42.setTop (mkF m 110 #[.val (.int p0), .val (.int p1), .val (.int p2), .val (.int p3), .val (.int (2 : Int32)), .val (.int r24), .val (.int r25), .val (.int r26), .val (.ref b27), .unset] [(.int r42)]))
      rcases c42 with rfl | ⟨rfl, ok1⟩
      · show own_G _ _ _ _ (T42.setTop (mkF m 110 #[.val (.int p0), .val (.int p1), .val (.int p2), .val (.int p3), .val (.int (2 : Int32)), .val (.int r24), .val (.int r25), .val (.int r26), .val (.ref b27), .unset] [(.int (1 : Int32))]))
        refine own_st (fun _ k => XS.ifYes X42.here hx rfl (pc0 := 110) (pc' := 128) rfl (hb hby at_110) rfl ((if0 _ _).trans (feq (by decide)).2) (by decide) (by decide) k) ?_
        show own_G _ _ _ _ (T42.setTop (mkF m 128 #[.val (.int p0), .val (.int p1), .val (.int p2), .val (.int p3), .val (.int (2 : Int32)), .val (.int r24), .val (.int r25), .val (.int r26), .val (.ref b27), .unset] []))
        refine own_st (fun _ k => XS.iconst X42.here hx rfl (hb hby at_128) k) ?_
        show own_G _ _ _ _ (T42.setTop (mkF m 129 #[.val (.int p0), .val (.int p1), .val (.int p2), .val (.int p3), .val (.int (2 : Int32)), .val (.int r24), .val (.int r25), .val (.int r26), .val (.ref b27), .unset] [(.int (1 : Int32))]))
        exact own_retN X42 hx hret hlk (by simp) (hb hby at_129) ⟨rfl, N42⟩ (by decide) (by decide)
      · show own_G _ _ _ _ (T42.setTop (mkF m 110 #[.val (.int p0), .val (.int p1), .val (.int p2), .val (.int p3), .val (.int (2 : Int32)), .val (.int r24), .val (.int r25), .val (.int r26), .val (.ref b27), .unset] [(.int (0 : Int32))]))
        refine own_st (fun _ k => XS.ifNo X42.here hx rfl (hb hby at_110) rfl ((if0 _ _).trans (teq rfl).2) k) ?_
        show own_G _ _ _ _ (T42.setTop (mkF m 113 #[.val (.int p0), .val (.int p1), .val (.int p2), .val (.int p3), .val (.int (2 : Int32)), .val (.int r24), .val (.int r25), .val (.int r26), .val (.ref b27), .unset] []))
        refine own_st (fun _ k => XS.iload X42.here hx rfl (hb hby at_113) rfl k) ?_
        show own_G _ _ _ _ (T42.setTop (mkF m 115 #[.val (.int p0), .val (.int p1), .val (.int p2), .val (.int p3), .val (.int (2 : Int32)), .val (.int r24), .val (.int r25), .val (.int r26), .val (.ref b27), .unset] [(.int (2 : Int32))]))
        refine own_st (fun _ k => XS.iconst X42.here hx rfl (hb hby at_115) k) ?_
        show own_G _ _ _ _ (T42.setTop (mkF m 116 #[.val (.int p0), .val (.int p1), .val (.int p2), .val (.int p3), .val (.int (2 : Int32)), .val (.int r24), .val (.int r25), .val (.int r26), .val (.ref b27), .unset] [(.int (2 : Int32)), (.int (2 : Int32))]))
        refine own_st (fun _ k => XS.icmpYes X42.here hx rfl (pc0 := 116) (pc' := 130) rfl (hb hby at_116) rfl (flt (by decide)).2.2.2 (by decide) (by decide) k) ?_
        show own_G _ _ _ _ (T42.setTop (mkF m 130 #[.val (.int p0), .val (.int p1), .val (.int p2), .val (.int p3), .val (.int (2 : Int32)), .val (.int r24), .val (.int r25), .val (.int r26), .val (.ref b27), .unset] []))
        obtain ⟨T43, h43, X43, e43, E43, A43, D43, -, st43⟩ := newO X42 hx hZ hown (hw _ (List.mem_of_getElem? (i := 19) rfl)) (hw _ (List.mem_of_getElem? (i := 20) rfl)) (hw _ (List.mem_of_getElem? (i := 21) rfl)) eh42 (g := (mkF m 130 #[.val (.int p0), .val (.int p1), .val (.int p2), .val (.int p3), .val (.int (2 : Int32)), .val (.int r24), .val (.int r25), .val (.int r26), .val (.ref b27), .unset] [])) rfl (hb hby at_130) (by decide) (by decide)
        obtain ⟨b43, g43⟩ : ∃ z, z = h37.size := ⟨_, rfl⟩
        rw [← g43] at A43 D43 st43
        refine own_st st43 ?_
        have z44 : h37.size ≤ h43.size := E43.1
        have O45 := Old.ext O39 E43
        have K46 : Keep h0 h43 [] := K40.ext E43
        have F43_coder : Fld Z h43 b43 "java/lang/String" "coder" "B" (.int (0 : Int32)) := D43 (Or.inr (hw _ (List.mem_of_getElem? (i := 64) rfl))) (ty := .byte) (by decide)
        have F43_value : Fld Z h43 b43 "java/lang/String" "value" "[B" .null := D43 (Or.inr (hw _ (List.mem_of_getElem? (i := 66) rfl))) (ty := (.array .byte)) (by decide)
        have lt43 := own_ltN A43.lt
        show own_G _ _ _ _ (T43.setTop (mkF m 133 #[.val (.int p0), .val (.int p1), .val (.int p2), .val (.int p3), .val (.int (2 : Int32)), .val (.int r24), .val (.int r25), .val (.int r26), .val (.ref b27), .unset] [(.ref b43)]))
        refine own_st (fun _ k => XS.dup X43.here hx rfl (hb hby at_133) rfl rfl k) ?_
        show own_G _ _ _ _ (T43.setTop (mkF m 134 #[.val (.int p0), .val (.int p1), .val (.int p2), .val (.int p3), .val (.int (2 : Int32)), .val (.int r24), .val (.int r25), .val (.int r26), .val (.ref b27), .unset] [(.ref b43), (.ref b43)]))
        refine own_st (fun _ k => XS.aload X43.here hx rfl (hb hby at_134) rfl rfl k) ?_
        show own_G _ _ _ _ (T43.setTop (mkF m 136 #[.val (.int p0), .val (.int p1), .val (.int p2), .val (.int p3), .val (.int (2 : Int32)), .val (.int r24), .val (.int r25), .val (.int r26), .val (.ref b27), .unset] [(.ref b27), (.ref b43), (.ref b43)]))
        have hok : ∀ j, j < 2 → own_ok (own_f r24 r25 r26) 2 j := fun j hj => by
          have : j = 0 ∨ j = 1 := by omega
          rcases this with rfl | rfl
          · exact ok0
          · exact ok1
        have q47 : Arv Z h43 b27 k27 .char (2 : Int32) [(.int (nar .char r24)), (.int (nar .char r25))] (.int (0 : Int32)) := (V37'.ext E43)
        have Vc2 : Arv Z h43 b27 k27 .char (Int32.ofNat 2) (own_vals (own_f r24 r25 r26) 2) (.int (0 : Int32)) := q47
        obtain ⟨_, _, ⟨T48, L48, k48, n48⟩, -, X48, ⟨Lc48, hQ48, l48, y48, z48⟩, st48⟩ := X43.specialBack hx (y := (⟨"java/lang/String", "<init>", "([C)V"⟩ : MethodName)) rfl hown (mvT hZ (hw _ (List.mem_of_getElem? (i := 22) rfl))) (mvT hZ (hw _ (List.mem_of_getElem? (i := 23) rfl))) (mvT hZ (hw _ (List.mem_of_getElem? (i := 24) rfl))) (by decide) (own_back (rm := ({ frames := 5, cells := 2, slots := 9, locals := 74 } : Room)) (W := 1) (own_newS l Z a0 hw [] b43 b27 2 (own_f r24 r25 r26) k27 w1 .null (.int (0 : Int32)) h43 O45 (by decide) (by decide) (fun j _ => own_f_rng r24 r25 r26 j) US S1 hw1 (by omega) (show @Ne Nat b43 b27 by omega) A43 F43_value F43_coder Vc2) hZ (hw _ (List.mem_of_getElem? (i := 24) rfl)) (hw _ (List.mem_of_getElem? (i := 21) rfl)) (by decide) (by decide)) (g := (mkF m 136 #[.val (.int p0), .val (.int p1), .val (.int p2), .val (.int p3), .val (.int (2 : Int32)), .val (.int r24), .val (.int r25), .val (.int r26), .val (.ref b27), .unset] [(.ref b27), (.ref b43), (.ref b43)])) rfl (by rw [hml]; rfl) (Steps.refl _) (a := b43) (argsL := [(.ref b27)]) (rest := [(.ref b43)]) (lenOf own_pd514 rfl) rfl (by show 2 * 0 + _ ≤ _; exact Nat.le_of_eq rfl) (hb hby at_136) (fun _ _ => ⟨rfl, e43, (by decide : 0 + 0 + 0 + 0 + 1 + 0 + 0 + 1 + 2 ≤ _), (by decide : 0 + 0 + 0 + 0 + 2 + 0 + 0 + 4 + 9 ≤ _)⟩)
        dsimp only [Pt.U, Pt.locs, Pt.cells, Pt.slots] at X48 l48 y48 z48 st48 hQ48
        subst l48 y48 z48
        obtain ⟨rfl, N48q, K48_, t, kt, gt, Hs⟩ := hQ48
        have N48 := Fr.app N42 N48q
        refine own_tr st48 ?_
        have z49 : h43.size ≤ T48.heap.size := K48_.1
        have O50 := Old.keep O45 K48_ (allS (by omega) all0)
        have K51 : Keep h0 T48.heap [] := K46.trans K48_ (allS (Or.inr (by omega)) all0)
        show own_G _ _ _ _ (T48.setTop (mkF m 139 #[.val (.int p0), .val (.int p1), .val (.int p2), .val (.int p3), .val (.int (2 : Int32)), .val (.int r24), .val (.int r25), .val (.int r26), .val (.ref b27), .unset] [(.ref b43)]))
        refine own_st (fun _ k => XS.astore X48.here hx rfl (hb hby at_139) rfl rfl (l' := #[.val (.int p0), .val (.int p1), .val (.int p2), .val (.int p3), .val (.int (2 : Int32)), .val (.int r24), .val (.int r25), .val (.int r26), .val (.ref b27), .val (.ref b43)]) rfl k) ?_
        show own_G _ _ _ _ (T48.setTop (mkF m 141 #[.val (.int p0), .val (.int p1), .val (.int p2), .val (.int p3), .val (.int (2 : Int32)), .val (.int r24), .val (.int r25), .val (.int r26), .val (.ref b27), .val (.ref b43)] []))
        refine own_st (fun _ k => XS.aload X48.here hx rfl (hb hby at_141) rfl rfl k) ?_
        show own_G _ _ _ _ (T48.setTop (mkF m 143 #[.val (.int p0), .val (.int p1), .val (.int p2), .val (.int p3), .val (.int (2 : Int32)), .val (.int r24), .val (.int r25), .val (.int r26), .val (.ref b27), .val (.ref b43)] [(.ref b43)]))
        obtain ⟨_, _, ⟨T52, L52, k52, n52⟩, -, X52, ⟨Lc52, hQ52, l52, y52, z52⟩, st52⟩ := Jvm.LawKit.callS X48 hx (y := (⟨"com/example/acquire/acquire/internal/LockNames", "requireValid", "(Ljava/lang/String;)Ljava/lang/String;"⟩ : MethodName)) hown (mvT hZ (hw _ (List.mem_of_getElem? (i := 67) rfl))) (mvT hZ (hw _ (List.mem_of_getElem? (i := 68) rfl))) (mvT hZ (hw _ (List.mem_of_getElem? (i := 69) rfl))) (mvT hZ (hw _ (List.mem_of_getElem? (i := 70) rfl))) (by decide) (own_back (rm := ({ frames := 5, cells := 0, slots := 0, locals := 73 } : Room)) (W := 0) (own_rv l Z a0 hw [] b43 t kt 2 (own_f r24 r25 r26) w1 fm T48.heap O50 (by decide) (by decide) (fun j _ => own_f_rng r24 r25 r26 j) US S1 hw1 SF hfm Hs hok) hZ (hw _ (List.mem_of_getElem? (i := 70) rfl)) (hw _ (List.mem_of_getElem? (i := 69) rfl)) (by decide) (by decide)) (g := (mkF m 143 #[.val (.int p0), .val (.int p1), .val (.int p2), .val (.int p3), .val (.int (2 : Int32)), .val (.int r24), .val (.int r25), .val (.int r26), .val (.ref b27), .val (.ref b43)] [(.ref b43)])) rfl (by rw [hml]; rfl) (argsL := [(.ref b43)]) (rest := []) (lenOf own_pd518 rfl) rfl (by show 2 * 0 + _ ≤ _; exact Nat.le_of_eq rfl) (hb hby at_143) (fun _ _ => ⟨rfl, rfl, (by decide : 0 + 0 + 0 + 0 + 1 + 0 + 0 + 1 + 2 + 0 ≤ _), (by decide : 0 + 0 + 0 + 0 + 2 + 0 + 0 + 4 + 9 + 0 ≤ _)⟩)
        dsimp only [Pt.U, Pt.locs, Pt.cells, Pt.slots] at X52 l52 y52 z52 st52 hQ52
        subst l52 y52 z52
        obtain ⟨rfl, N52q, eh52⟩ := hQ52
        have N52 := Fr.app N48 N52q
        refine own_st st52 ?_
        show own_G _ _ _ _ (T52.setTop (mkF m 146 #[.val (.int p0), .val (.int p1), .val (.int p2), .val (.int p3), .val (.int (2 : Int32)), .val (.int r24), .val (.int r25), .val (.int r26), .val (.ref b27), .val (.ref b43)] [(.ref b43)]))
        refine own_st (fun _ k => XS.aload X52.here hx rfl (hb hby at_146) rfl rfl k) ?_
        show own_G _ _ _ _ (T52.setTop (mkF m 148 #[.val (.int p0), .val (.int p1), .val (.int p2), .val (.int p3), .val (.int (2 : Int32)), .val (.int r24), .val (.int r25), .val (.int r26), .val (.ref b27), .val (.ref b43)] [(.ref b43), (.ref b43)]))
        refine own_st (fun _ k => Jvm.RoadKit.acmp (g := (mkF m 148 #[.val (.int p0), .val (.int p1), .val (.int p2), .val (.int p3), .val (.int (2 : Int32)), .val (.int r24), .val (.int r25), .val (.int r26), .val (.ref b27), .val (.ref b43)] [(.ref b43), (.ref b43)])) X52 hx rfl rfl rfl (pc0 := 148) (pc' := 151) (same := true) rfl (hb hby at_148) rfl (decide_eq_true rfl) (by decide) (by decide) k) ?_
        show own_G _ _ _ _ (T52.setTop (mkF m 151 #[.val (.int p0), .val (.int p1), .val (.int p2), .val (.int p3), .val (.int (2 : Int32)), .val (.int r24), .val (.int r25), .val (.int r26), .val (.ref b27), .val (.ref b43)] []))
        refine own_st (fun _ k => XS.iconst X52.here hx rfl (hb hby at_151) k) ?_
        show own_G _ _ _ _ (T52.setTop (mkF m 152 #[.val (.int p0), .val (.int p1), .val (.int p2), .val (.int p3), .val (.int (2 : Int32)), .val (.int r24), .val (.int r25), .val (.int r26), .val (.ref b27), .val (.ref b43)] [(.int (1 : Int32))]))
        refine own_st (fun _ k => XS.goto X52.here hx rfl (pc0 := 152) (pc' := 156) rfl (hb hby at_152) (by decide) (by decide) k) ?_
        show own_G _ _ _ _ (T52.setTop (mkF m 156 #[.val (.int p0), .val (.int p1), .val (.int p2), .val (.int p3), .val (.int (2 : Int32)), .val (.int r24), .val (.int r25), .val (.int r26), .val (.ref b27), .val (.ref b43)] [(.int (1 : Int32))]))
        exact own_retN X52 hx hret hlk (by simp) (hb hby at_156) ⟨rfl, N52⟩ (by decide) (by decide)
  · skip
    rw [hl]
    show own_G _ _ _ _ (T0.setTop (mkF m 3 #[.val (.int p0), .val (.int p1), .val (.int p2), .val (.int p3), .unset, .unset, .unset, .unset, .unset, .unset] [(.int (3 : Int32))]))
    refine own_st (fun _ k => XS.istore X0.here hx rfl (hb hby at_3) rfl (l' := #[.val (.int p0), .val (.int p1), .val (.int p2), .val (.int p3), .val (.int (3 : Int32)), .unset, .unset, .unset, .unset, .unset]) rfl k) ?_
    show own_G _ _ _ _ (T0.setTop (mkF m 5 #[.val (.int p0), .val (.int p1), .val (.int p2), .val (.int p3), .val (.int (3 : Int32)), .unset, .unset, .unset, .unset, .unset] []))
    refine own_st (fun _ k => XS.iload X0.here hx rfl (hb hby at_5) rfl k) ?_
    show own_G _ _ _ _ (T0.setTop (mkF m 7 #[.val (.int p0), .val (.int p1), .val (.int p2), .val (.int p3), .val (.int (3 : Int32)), .unset, .unset, .unset, .unset, .unset] [(.int (3 : Int32))]))
    refine own_st (fun _ k => XS.ifYes X0.here hx rfl (pc0 := 7) (pc' := 12) rfl (hb hby at_7) rfl ((if0 _ _).trans (feq (by decide)).2) (by decide) (by decide) k) ?_
    show own_G _ _ _ _ (T0.setTop (mkF m 12 #[.val (.int p0), .val (.int p1), .val (.int p2), .val (.int p3), .val (.int (3 : Int32)), .unset, .unset, .unset, .unset, .unset] []))
    refine own_st (fun _ k => XS.iloadN X0.here hx rfl (hb hby at_12) rfl k) ?_
    show own_G _ _ _ _ (T0.setTop (mkF m 13 #[.val (.int p0), .val (.int p1), .val (.int p2), .val (.int p3), .val (.int (3 : Int32)), .unset, .unset, .unset, .unset, .unset] [(.int p1)]))
    obtain ⟨_, _, ⟨T53, L53, k53, n53⟩, -, X53, ⟨Lc53, hQ53, l53, y53, z53⟩, st53⟩ := Jvm.LawKit.callS X0 hx (y := (⟨"com/example/acquire/acquire/internal/LockNamesRequireValidPinLaw", "draw", "(I)C"⟩ : MethodName)) hown (mvT hZ (hw _ (List.mem_of_getElem? (i := 0) rfl))) (mvT hZ (hw _ (List.mem_of_getElem? (i := 1) rfl))) (mvT hZ (hw _ (List.mem_of_getElem? (i := 2) rfl))) (mvT hZ (hw _ (List.mem_of_getElem? (i := 3) rfl))) (by decide) (own_back (rm := ({ frames := 0, cells := 0, slots := 0, locals := 0 } : Room)) (W := 0) (own_draw l Z a0 hw [] p1 h0 O0) hZ (hw _ (List.mem_of_getElem? (i := 3) rfl)) (hw _ (List.mem_of_getElem? (i := 2) rfl)) (by decide) (by decide)) (g := (mkF m 13 #[.val (.int p0), .val (.int p1), .val (.int p2), .val (.int p3), .val (.int (3 : Int32)), .unset, .unset, .unset, .unset, .unset] [(.int p1)])) rfl (by rw [hml]; rfl) (argsL := [(.int p1)]) (rest := []) (lenOf own_pd478 rfl) rfl (by show 2 * 0 + _ ≤ _; exact Nat.le_of_eq rfl) (hb hby at_13) (fun _ _ => ⟨rfl, e0, (by decide : 0 + 0 ≤ _), (by decide : 0 + 0 ≤ _)⟩)
    dsimp only [Pt.U, Pt.locs, Pt.cells, Pt.slots] at X53 l53 y53 z53 st53 hQ53
    subst l53 y53 z53
    obtain ⟨r53, rfl, N53q, eh53, c53⟩ := hQ53
    have N53 := Fr.app N0 N53q
    refine own_st st53 ?_
    show own_G _ _ _ _ (T53.setTop (mkF m 16 #[.val (.int p0), .val (.int p1), .val (.int p2), .val (.int p3), .val (.int (3 : Int32)), .unset, .unset, .unset, .unset, .unset] [(.int r53)]))
    refine own_st (fun _ k => XS.istore X53.here hx rfl (hb hby at_16) rfl (l' := #[.val (.int p0), .val (.int p1), .val (.int p2), .val (.int p3), .val (.int (3 : Int32)), .val (.int r53), .unset, .unset, .unset, .unset]) rfl k) ?_
    show own_G _ _ _ _ (T53.setTop (mkF m 18 #[.val (.int p0), .val (.int p1), .val (.int p2), .val (.int p3), .val (.int (3 : Int32)), .val (.int r53), .unset, .unset, .unset, .unset] []))
    refine own_st (fun _ k => XS.iloadN X53.here hx rfl (hb hby at_18) rfl k) ?_
    show own_G _ _ _ _ (T53.setTop (mkF m 19 #[.val (.int p0), .val (.int p1), .val (.int p2), .val (.int p3), .val (.int (3 : Int32)), .val (.int r53), .unset, .unset, .unset, .unset] [(.int p2)]))
    obtain ⟨_, _, ⟨T54, L54, k54, n54⟩, -, X54, ⟨Lc54, hQ54, l54, y54, z54⟩, st54⟩ := Jvm.LawKit.callS X53 hx (y := (⟨"com/example/acquire/acquire/internal/LockNamesRequireValidPinLaw", "draw", "(I)C"⟩ : MethodName)) hown (mvT hZ (hw _ (List.mem_of_getElem? (i := 0) rfl))) (mvT hZ (hw _ (List.mem_of_getElem? (i := 1) rfl))) (mvT hZ (hw _ (List.mem_of_getElem? (i := 2) rfl))) (mvT hZ (hw _ (List.mem_of_getElem? (i := 3) rfl))) (by decide) (own_back (rm := ({ frames := 0, cells := 0, slots := 0, locals := 0 } : Room)) (W := 0) (own_draw l Z a0 hw [] p2 h0 O0) hZ (hw _ (List.mem_of_getElem? (i := 3) rfl)) (hw _ (List.mem_of_getElem? (i := 2) rfl)) (by decide) (by decide)) (g := (mkF m 19 #[.val (.int p0), .val (.int p1), .val (.int p2), .val (.int p3), .val (.int (3 : Int32)), .val (.int r53), .unset, .unset, .unset, .unset] [(.int p2)])) rfl (by rw [hml]; rfl) (argsL := [(.int p2)]) (rest := []) (lenOf own_pd478 rfl) rfl (by show 2 * 0 + _ ≤ _; exact Nat.le_of_eq rfl) (hb hby at_19) (fun _ _ => ⟨rfl, eh53, (by decide : 0 + 0 + 0 ≤ _), (by decide : 0 + 0 + 0 ≤ _)⟩)
    dsimp only [Pt.U, Pt.locs, Pt.cells, Pt.slots] at X54 l54 y54 z54 st54 hQ54
    subst l54 y54 z54
    obtain ⟨r54, rfl, N54q, eh54, c54⟩ := hQ54
    have N54 := Fr.app N53 N54q
    refine own_st st54 ?_
    show own_G _ _ _ _ (T54.setTop (mkF m 22 #[.val (.int p0), .val (.int p1), .val (.int p2), .val (.int p3), .val (.int (3 : Int32)), .val (.int r53), .unset, .unset, .unset, .unset] [(.int r54)]))
    refine own_st (fun _ k => XS.istore X54.here hx rfl (hb hby at_22) rfl (l' := #[.val (.int p0), .val (.int p1), .val (.int p2), .val (.int p3), .val (.int (3 : Int32)), .val (.int r53), .val (.int r54), .unset, .unset, .unset]) rfl k) ?_
    show own_G _ _ _ _ (T54.setTop (mkF m 24 #[.val (.int p0), .val (.int p1), .val (.int p2), .val (.int p3), .val (.int (3 : Int32)), .val (.int r53), .val (.int r54), .unset, .unset, .unset] []))
    refine own_st (fun _ k => XS.iloadN X54.here hx rfl (hb hby at_24) rfl k) ?_
    show own_G _ _ _ _ (T54.setTop (mkF m 25 #[.val (.int p0), .val (.int p1), .val (.int p2), .val (.int p3), .val (.int (3 : Int32)), .val (.int r53), .val (.int r54), .unset, .unset, .unset] [(.int p3)]))
    obtain ⟨_, _, ⟨T55, L55, k55, n55⟩, -, X55, ⟨Lc55, hQ55, l55, y55, z55⟩, st55⟩ := Jvm.LawKit.callS X54 hx (y := (⟨"com/example/acquire/acquire/internal/LockNamesRequireValidPinLaw", "draw", "(I)C"⟩ : MethodName)) hown (mvT hZ (hw _ (List.mem_of_getElem? (i := 0) rfl))) (mvT hZ (hw _ (List.mem_of_getElem? (i := 1) rfl))) (mvT hZ (hw _ (List.mem_of_getElem? (i := 2) rfl))) (mvT hZ (hw _ (List.mem_of_getElem? (i := 3) rfl))) (by decide) (own_back (rm := ({ frames := 0, cells := 0, slots := 0, locals := 0 } : Room)) (W := 0) (own_draw l Z a0 hw [] p3 h0 O0) hZ (hw _ (List.mem_of_getElem? (i := 3) rfl)) (hw _ (List.mem_of_getElem? (i := 2) rfl)) (by decide) (by decide)) (g := (mkF m 25 #[.val (.int p0), .val (.int p1), .val (.int p2), .val (.int p3), .val (.int (3 : Int32)), .val (.int r53), .val (.int r54), .unset, .unset, .unset] [(.int p3)])) rfl (by rw [hml]; rfl) (argsL := [(.int p3)]) (rest := []) (lenOf own_pd478 rfl) rfl (by show 2 * 0 + _ ≤ _; exact Nat.le_of_eq rfl) (hb hby at_25) (fun _ _ => ⟨rfl, eh54, (by decide : 0 + 0 + 0 + 0 ≤ _), (by decide : 0 + 0 + 0 + 0 ≤ _)⟩)
    dsimp only [Pt.U, Pt.locs, Pt.cells, Pt.slots] at X55 l55 y55 z55 st55 hQ55
    subst l55 y55 z55
    obtain ⟨r55, rfl, N55q, eh55, c55⟩ := hQ55
    have N55 := Fr.app N54 N55q
    refine own_st st55 ?_
    show own_G _ _ _ _ (T55.setTop (mkF m 28 #[.val (.int p0), .val (.int p1), .val (.int p2), .val (.int p3), .val (.int (3 : Int32)), .val (.int r53), .val (.int r54), .unset, .unset, .unset] [(.int r55)]))
    refine own_st (fun _ k => XS.istore X55.here hx rfl (hb hby at_28) rfl (l' := #[.val (.int p0), .val (.int p1), .val (.int p2), .val (.int p3), .val (.int (3 : Int32)), .val (.int r53), .val (.int r54), .val (.int r55), .unset, .unset]) rfl k) ?_
    show own_G _ _ _ _ (T55.setTop (mkF m 30 #[.val (.int p0), .val (.int p1), .val (.int p2), .val (.int p3), .val (.int (3 : Int32)), .val (.int r53), .val (.int r54), .val (.int r55), .unset, .unset] []))
    refine own_st (fun _ k => XS.iload X55.here hx rfl (hb hby at_30) rfl k) ?_
    show own_G _ _ _ _ (T55.setTop (mkF m 32 #[.val (.int p0), .val (.int p1), .val (.int p2), .val (.int p3), .val (.int (3 : Int32)), .val (.int r53), .val (.int r54), .val (.int r55), .unset, .unset] [(.int (3 : Int32))]))
    refine own_st (fun _ k => XS.iconst X55.here hx rfl (hb hby at_32) k) ?_
    show own_G _ _ _ _ (T55.setTop (mkF m 33 #[.val (.int p0), .val (.int p1), .val (.int p2), .val (.int p3), .val (.int (3 : Int32)), .val (.int r53), .val (.int r54), .val (.int r55), .unset, .unset] [(.int (1 : Int32)), (.int (3 : Int32))]))
    refine own_st (fun _ k => XS.icmpYes X55.here hx rfl (pc0 := 33) (pc' := 47) rfl (hb hby at_33) rfl (feq (by decide)).2 (by decide) (by decide) k) ?_
    show own_G _ _ _ _ (T55.setTop (mkF m 47 #[.val (.int p0), .val (.int p1), .val (.int p2), .val (.int p3), .val (.int (3 : Int32)), .val (.int r53), .val (.int r54), .val (.int r55), .unset, .unset] []))
    refine own_st (fun _ k => XS.iload X55.here hx rfl (hb hby at_47) rfl k) ?_
    show own_G _ _ _ _ (T55.setTop (mkF m 49 #[.val (.int p0), .val (.int p1), .val (.int p2), .val (.int p3), .val (.int (3 : Int32)), .val (.int r53), .val (.int r54), .val (.int r55), .unset, .unset] [(.int (3 : Int32))]))
    refine own_st (fun _ k => XS.iconst X55.here hx rfl (hb hby at_49) k) ?_
    show own_G _ _ _ _ (T55.setTop (mkF m 50 #[.val (.int p0), .val (.int p1), .val (.int p2), .val (.int p3), .val (.int (3 : Int32)), .val (.int r53), .val (.int r54), .val (.int r55), .unset, .unset] [(.int (2 : Int32)), (.int (3 : Int32))]))
    refine own_st (fun _ k => XS.icmpYes X55.here hx rfl (pc0 := 50) (pc' := 69) rfl (hb hby at_50) rfl (feq (by decide)).2 (by decide) (by decide) k) ?_
    show own_G _ _ _ _ (T55.setTop (mkF m 69 #[.val (.int p0), .val (.int p1), .val (.int p2), .val (.int p3), .val (.int (3 : Int32)), .val (.int r53), .val (.int r54), .val (.int r55), .unset, .unset] []))
    refine own_st (fun _ k => XS.iconst X55.here hx rfl (hb hby at_69) k) ?_
    show own_G _ _ _ _ (T55.setTop (mkF m 70 #[.val (.int p0), .val (.int p1), .val (.int p2), .val (.int p3), .val (.int (3 : Int32)), .val (.int r53), .val (.int r54), .val (.int r55), .unset, .unset] [(.int (3 : Int32))]))
    obtain ⟨T56, h56, k56, X56, e56, E56, A56, st56⟩ := newP X55 hx hZ (hw _ (List.mem_of_getElem? (i := 5) rfl)) eh55 (g := (mkF m 70 #[.val (.int p0), .val (.int p1), .val (.int p2), .val (.int p3), .val (.int (3 : Int32)), .val (.int r53), .val (.int r54), .val (.int r55), .unset, .unset] [(.int (3 : Int32))])) rfl (hb hby at_70) rfl (by decide) (cap := 3) (by decide) (by decide) (by decide) (by decide)
    obtain ⟨b56, g56⟩ : ∃ z, z = h0.size := ⟨_, rfl⟩
    rw [← g56] at A56 st56
    refine own_st st56 ?_
    have z57 : h0.size ≤ h56.size := E56.1
    have O58 := Old.ext O0 E56
    have K59 : Keep h0 h56 [] := Kr.ext E56
    have V56 : Arv Z h56 b56 k56 .char (3 : Int32) [(.int (0 : Int32)), (.int (0 : Int32)), (.int (0 : Int32))] (.int (0 : Int32)) := (Arv.new A56 (by decide)).pad (pad_rep [] (.int (0 : Int32)) 3)
    have lt56 := own_ltN A56.lt
    show own_G _ _ _ _ (T56.setTop (mkF m 72 #[.val (.int p0), .val (.int p1), .val (.int p2), .val (.int p3), .val (.int (3 : Int32)), .val (.int r53), .val (.int r54), .val (.int r55), .unset, .unset] [(.ref b56)]))
    refine own_st (fun _ k => XS.dup X56.here hx rfl (hb hby at_72) rfl rfl k) ?_
    show own_G _ _ _ _ (T56.setTop (mkF m 73 #[.val (.int p0), .val (.int p1), .val (.int p2), .val (.int p3), .val (.int (3 : Int32)), .val (.int r53), .val (.int r54), .val (.int r55), .unset, .unset] [(.ref b56), (.ref b56)]))
    refine own_st (fun _ k => XS.iconst X56.here hx rfl (hb hby at_73) k) ?_
    show own_G _ _ _ _ (T56.setTop (mkF m 74 #[.val (.int p0), .val (.int p1), .val (.int p2), .val (.int p3), .val (.int (3 : Int32)), .val (.int r53), .val (.int r54), .val (.int r55), .unset, .unset] [(.int (0 : Int32)), (.ref b56), (.ref b56)]))
    refine own_st (fun _ k => XS.iload X56.here hx rfl (hb hby at_74) rfl k) ?_
    show own_G _ _ _ _ (T56.setTop (mkF m 76 #[.val (.int p0), .val (.int p1), .val (.int p2), .val (.int p3), .val (.int (3 : Int32)), .val (.int r53), .val (.int r54), .val (.int r55), .unset, .unset] [(.int r53), (.int (0 : Int32)), (.ref b56), (.ref b56)]))
    obtain ⟨cl60, Ar60, qk60, Sz60, Mz60, Hz60, Uz60⟩ := id V56
    obtain ⟨T61, h61, X61, e61, W61, st61⟩ := stC X56 hx hZ e56 Ar60 (j := (0 : Int32)) (inb_of Sz60 ⟨by decide, by decide⟩) (g := (mkF m 76 #[.val (.int p0), .val (.int p1), .val (.int p2), .val (.int p3), .val (.int (3 : Int32)), .val (.int r53), .val (.int r54), .val (.int r55), .unset, .unset] [(.int r53), (.int (0 : Int32)), (.ref b56), (.ref b56)])) rfl rfl (hb hby at_76)
    refine own_st st61 ?_
    have V61 := Arv.set Ar60 qk60 Sz60 Mz60 Hz60 Uz60 (fits_nar_char _) W61 0 rfl (Nat.le_of_ble_eq_true rfl)
    have z62 : h61.size = h56.size := W61.size
    have O63 := Old.wr O58 W61 (by omega)
    have K64 : Keep h0 h61 [] := K59.wr W61 (Or.inr (by omega))
    have N61 := Fr.snoc X61 N55 (by omega : Z.heap.size ≤ b56)
    have V61' : Arv Z h61 b56 k56 .char (3 : Int32) [(.int (nar .char r53)), (.int (0 : Int32)), (.int (0 : Int32))] (.int (0 : Int32)) := V61
    show own_G _ _ _ _ (T61.setTop (mkF m 77 #[.val (.int p0), .val (.int p1), .val (.int p2), .val (.int p3), .val (.int (3 : Int32)), .val (.int r53), .val (.int r54), .val (.int r55), .unset, .unset] [(.ref b56)]))
    refine own_st (fun _ k => XS.dup X61.here hx rfl (hb hby at_77) rfl rfl k) ?_
    show own_G _ _ _ _ (T61.setTop (mkF m 78 #[.val (.int p0), .val (.int p1), .val (.int p2), .val (.int p3), .val (.int (3 : Int32)), .val (.int r53), .val (.int r54), .val (.int r55), .unset, .unset] [(.ref b56), (.ref b56)]))
    refine own_st (fun _ k => XS.iconst X61.here hx rfl (hb hby at_78) k) ?_
    show own_G _ _ _ _ (T61.setTop (mkF m 79 #[.val (.int p0), .val (.int p1), .val (.int p2), .val (.int p3), .val (.int (3 : Int32)), .val (.int r53), .val (.int r54), .val (.int r55), .unset, .unset] [(.int (1 : Int32)), (.ref b56), (.ref b56)]))
    refine own_st (fun _ k => XS.iload X61.here hx rfl (hb hby at_79) rfl k) ?_
    show own_G _ _ _ _ (T61.setTop (mkF m 81 #[.val (.int p0), .val (.int p1), .val (.int p2), .val (.int p3), .val (.int (3 : Int32)), .val (.int r53), .val (.int r54), .val (.int r55), .unset, .unset] [(.int r54), (.int (1 : Int32)), (.ref b56), (.ref b56)]))
    obtain ⟨cl65, Ar65, qk65, Sz65, Mz65, Hz65, Uz65⟩ := id V61'
    obtain ⟨T66, h66, X66, e66, W66, st66⟩ := stC X61 hx hZ e61 Ar65 (j := (1 : Int32)) (inb_of Sz65 ⟨by decide, by decide⟩) (g := (mkF m 81 #[.val (.int p0), .val (.int p1), .val (.int p2), .val (.int p3), .val (.int (3 : Int32)), .val (.int r53), .val (.int r54), .val (.int r55), .unset, .unset] [(.int r54), (.int (1 : Int32)), (.ref b56), (.ref b56)])) rfl rfl (hb hby at_81)
    refine own_st st66 ?_
    have V66 := Arv.set Ar65 qk65 Sz65 Mz65 Hz65 Uz65 (fits_nar_char _) W66 1 rfl (Nat.le_of_ble_eq_true rfl)
    have z67 : h66.size = h61.size := W66.size
    have O68 := Old.wr O63 W66 (by omega)
    have K69 : Keep h0 h66 [] := K64.wr W66 (Or.inr (by omega))
    have N66 := Fr.snoc X66 N61 (by omega : Z.heap.size ≤ b56)
    have V66' : Arv Z h66 b56 k56 .char (3 : Int32) [(.int (nar .char r53)), (.int (nar .char r54)), (.int (0 : Int32))] (.int (0 : Int32)) := V66
    show own_G _ _ _ _ (T66.setTop (mkF m 82 #[.val (.int p0), .val (.int p1), .val (.int p2), .val (.int p3), .val (.int (3 : Int32)), .val (.int r53), .val (.int r54), .val (.int r55), .unset, .unset] [(.ref b56)]))
    refine own_st (fun _ k => XS.dup X66.here hx rfl (hb hby at_82) rfl rfl k) ?_
    show own_G _ _ _ _ (T66.setTop (mkF m 83 #[.val (.int p0), .val (.int p1), .val (.int p2), .val (.int p3), .val (.int (3 : Int32)), .val (.int r53), .val (.int r54), .val (.int r55), .unset, .unset] [(.ref b56), (.ref b56)]))
    refine own_st (fun _ k => XS.iconst X66.here hx rfl (hb hby at_83) k) ?_
    show own_G _ _ _ _ (T66.setTop (mkF m 84 #[.val (.int p0), .val (.int p1), .val (.int p2), .val (.int p3), .val (.int (3 : Int32)), .val (.int r53), .val (.int r54), .val (.int r55), .unset, .unset] [(.int (2 : Int32)), (.ref b56), (.ref b56)]))
    refine own_st (fun _ k => XS.iload X66.here hx rfl (hb hby at_84) rfl k) ?_
    show own_G _ _ _ _ (T66.setTop (mkF m 86 #[.val (.int p0), .val (.int p1), .val (.int p2), .val (.int p3), .val (.int (3 : Int32)), .val (.int r53), .val (.int r54), .val (.int r55), .unset, .unset] [(.int r55), (.int (2 : Int32)), (.ref b56), (.ref b56)]))
    obtain ⟨cl70, Ar70, qk70, Sz70, Mz70, Hz70, Uz70⟩ := id V66'
    obtain ⟨T71, h71, X71, e71, W71, st71⟩ := stC X66 hx hZ e66 Ar70 (j := (2 : Int32)) (inb_of Sz70 ⟨by decide, by decide⟩) (g := (mkF m 86 #[.val (.int p0), .val (.int p1), .val (.int p2), .val (.int p3), .val (.int (3 : Int32)), .val (.int r53), .val (.int r54), .val (.int r55), .unset, .unset] [(.int r55), (.int (2 : Int32)), (.ref b56), (.ref b56)])) rfl rfl (hb hby at_86)
    refine own_st st71 ?_
    have V71 := Arv.set Ar70 qk70 Sz70 Mz70 Hz70 Uz70 (fits_nar_char _) W71 2 rfl (Nat.le_of_ble_eq_true rfl)
    have z72 : h71.size = h66.size := W71.size
    have O73 := Old.wr O68 W71 (by omega)
    have K74 : Keep h0 h71 [] := K69.wr W71 (Or.inr (by omega))
    have N71 := Fr.snoc X71 N66 (by omega : Z.heap.size ≤ b56)
    have V71' : Arv Z h71 b56 k56 .char (3 : Int32) [(.int (nar .char r53)), (.int (nar .char r54)), (.int (nar .char r55))] (.int (0 : Int32)) := V71
    show own_G _ _ _ _ (T71.setTop (mkF m 87 #[.val (.int p0), .val (.int p1), .val (.int p2), .val (.int p3), .val (.int (3 : Int32)), .val (.int r53), .val (.int r54), .val (.int r55), .unset, .unset] [(.ref b56)]))
    refine own_st (fun _ k => XS.astore X71.here hx rfl (hb hby at_87) rfl rfl (l' := #[.val (.int p0), .val (.int p1), .val (.int p2), .val (.int p3), .val (.int (3 : Int32)), .val (.int r53), .val (.int r54), .val (.int r55), .val (.ref b56), .unset]) rfl k) ?_
    show own_G _ _ _ _ (T71.setTop (mkF m 89 #[.val (.int p0), .val (.int p1), .val (.int p2), .val (.int p3), .val (.int (3 : Int32)), .val (.int r53), .val (.int r54), .val (.int r55), .val (.ref b56), .unset] []))
    have Vc : Arv Z h71 b56 k56 .char (Int32.ofNat 3) (own_vals (own_f r53 r54 r55) 3) (.int (0 : Int32)) := V71'
    refine own_st (fun _ k => XS.aload X71.here hx rfl (hb hby at_89) rfl rfl k) ?_
    show own_G _ _ _ _ (T71.setTop (mkF m 91 #[.val (.int p0), .val (.int p1), .val (.int p2), .val (.int p3), .val (.int (3 : Int32)), .val (.int r53), .val (.int r54), .val (.int r55), .val (.ref b56), .unset] [(.ref b56)]))
    refine own_st (fun _ k => XS.iconst X71.here hx rfl (hb hby at_91) k) ?_
    show own_G _ _ _ _ (T71.setTop (mkF m 92 #[.val (.int p0), .val (.int p1), .val (.int p2), .val (.int p3), .val (.int (3 : Int32)), .val (.int r53), .val (.int r54), .val (.int r55), .val (.ref b56), .unset] [(.int (0 : Int32)), (.ref b56)]))
    obtain ⟨_, _, ⟨T75, L75, k75, n75⟩, -, X75, ⟨Lc75, hQ75, l75, y75, z75⟩, st75⟩ := Jvm.LawKit.callS X71 hx (y := (⟨"com/example/acquire/acquire/internal/LockNamesRequireValidPinLaw", "unpairedAt", "([CI)Z"⟩ : MethodName)) hown (mvT hZ (hw _ (List.mem_of_getElem? (i := 6) rfl))) (mvT hZ (hw _ (List.mem_of_getElem? (i := 7) rfl))) (mvT hZ (hw _ (List.mem_of_getElem? (i := 2) rfl))) (mvT hZ (hw _ (List.mem_of_getElem? (i := 8) rfl))) (by decide) (own_back (rm := ({ frames := 1, cells := 0, slots := 0, locals := 12 } : Room)) (W := 0) (own_unp l Z a0 hw [] b56 0 3 (own_f r53 r54 r55) k56 h71 O73 (by decide) (by decide) Vc) hZ (hw _ (List.mem_of_getElem? (i := 8) rfl)) (hw _ (List.mem_of_getElem? (i := 2) rfl)) (by decide) (by decide)) (g := (mkF m 92 #[.val (.int p0), .val (.int p1), .val (.int p2), .val (.int p3), .val (.int (3 : Int32)), .val (.int r53), .val (.int r54), .val (.int r55), .val (.ref b56), .unset] [(.int (0 : Int32)), (.ref b56)])) rfl (by rw [hml]; rfl) (argsL := [(.ref b56), (.int (0 : Int32))]) (rest := []) (lenOf own_pd500 rfl) rfl (by show 2 * 0 + _ ≤ _; exact Nat.le_of_eq rfl) (hb hby at_92) (fun _ _ => ⟨rfl, e71, (by decide : 0 + 0 + 0 + 0 + 1 + 0 ≤ _), (by decide : 0 + 0 + 0 + 0 + 3 + 0 ≤ _)⟩)
    dsimp only [Pt.U, Pt.locs, Pt.cells, Pt.slots] at X75 l75 y75 z75 st75 hQ75
    subst l75 y75 z75
    obtain ⟨r75, rfl, N75q, eh75, c75⟩ := hQ75
    have N75 := Fr.app N71 N75q
    refine own_st st75 ?_
    show own_G _ _ _ _ (T75.setTop (mkF m 95 #[.val (.int p0), .val (.int p1), .val (.int p2), .val (.int p3), .val (.int (3 : Int32)), .val (.int r53), .val (.int r54), .val (.int r55), .val (.ref b56), .unset] [(.int r75)]))
    rcases c75 with rfl | ⟨rfl, ok0⟩
    · show own_G _ _ _ _ (T75.setTop (mkF m 95 #[.val (.int p0), .val (.int p1), .val (.int p2), .val (.int p3), .val (.int (3 : Int32)), .val (.int r53), .val (.int r54), .val (.int r55), .val (.ref b56), .unset] [(.int (1 : Int32))]))
      refine own_st (fun _ k => XS.ifYes X75.here hx rfl (pc0 := 95) (pc' := 128) rfl (hb hby at_95) rfl ((if0 _ _).trans (feq (by decide)).2) (by decide) (by decide) k) ?_
      show own_G _ _ _ _ (T75.setTop (mkF m 128 #[.val (.int p0), .val (.int p1), .val (.int p2), .val (.int p3), .val (.int (3 : Int32)), .val (.int r53), .val (.int r54), .val (.int r55), .val (.ref b56), .unset] []))
      refine own_st (fun _ k => XS.iconst X75.here hx rfl (hb hby at_128) k) ?_
      show own_G _ _ _ _ (T75.setTop (mkF m 129 #[.val (.int p0), .val (.int p1), .val (.int p2), .val (.int p3), .val (.int (3 : Int32)), .val (.int r53), .val (.int r54), .val (.int r55), .val (.ref b56), .unset] [(.int (1 : Int32))]))
      exact own_retN X75 hx hret hlk (by simp) (hb hby at_129) ⟨rfl, N75⟩ (by decide) (by decide)
    · show own_G _ _ _ _ (T75.setTop (mkF m 95 #[.val (.int p0), .val (.int p1), .val (.int p2), .val (.int p3), .val (.int (3 : Int32)), .val (.int r53), .val (.int r54), .val (.int r55), .val (.ref b56), .unset] [(.int (0 : Int32))]))
      refine own_st (fun _ k => XS.ifNo X75.here hx rfl (hb hby at_95) rfl ((if0 _ _).trans (teq rfl).2) k) ?_
      show own_G _ _ _ _ (T75.setTop (mkF m 98 #[.val (.int p0), .val (.int p1), .val (.int p2), .val (.int p3), .val (.int (3 : Int32)), .val (.int r53), .val (.int r54), .val (.int r55), .val (.ref b56), .unset] []))
      refine own_st (fun _ k => XS.iload X75.here hx rfl (hb hby at_98) rfl k) ?_
      show own_G _ _ _ _ (T75.setTop (mkF m 100 #[.val (.int p0), .val (.int p1), .val (.int p2), .val (.int p3), .val (.int (3 : Int32)), .val (.int r53), .val (.int r54), .val (.int r55), .val (.ref b56), .unset] [(.int (3 : Int32))]))
      refine own_st (fun _ k => XS.iconst X75.here hx rfl (hb hby at_100) k) ?_
      show own_G _ _ _ _ (T75.setTop (mkF m 101 #[.val (.int p0), .val (.int p1), .val (.int p2), .val (.int p3), .val (.int (3 : Int32)), .val (.int r53), .val (.int r54), .val (.int r55), .val (.ref b56), .unset] [(.int (1 : Int32)), (.int (3 : Int32))]))
      refine own_st (fun _ k => XS.icmpNo X75.here hx rfl (hb hby at_101) rfl (tlt (by decide)).2.2.2 k) ?_
      show own_G _ _ _ _ (T75.setTop (mkF m 104 #[.val (.int p0), .val (.int p1), .val (.int p2), .val (.int p3), .val (.int (3 : Int32)), .val (.int r53), .val (.int r54), .val (.int r55), .val (.ref b56), .unset] []))
      refine own_st (fun _ k => XS.aload X75.here hx rfl (hb hby at_104) rfl rfl k) ?_
      show own_G _ _ _ _ (T75.setTop (mkF m 106 #[.val (.int p0), .val (.int p1), .val (.int p2), .val (.int p3), .val (.int (3 : Int32)), .val (.int r53), .val (.int r54), .val (.int r55), .val (.ref b56), .unset] [(.ref b56)]))
      refine own_st (fun _ k => XS.iconst X75.here hx rfl (hb hby at_106) k) ?_
      show own_G _ _ _ _ (T75.setTop (mkF m 107 #[.val (.int p0), .val (.int p1), .val (.int p2), .val (.int p3), .val (.int (3 : Int32)), .val (.int r53), .val (.int r54), .val (.int r55), .val (.ref b56), .unset] [(.int (1 : Int32)), (.ref b56)]))
      obtain ⟨_, _, ⟨T76, L76, k76, n76⟩, -, X76, ⟨Lc76, hQ76, l76, y76, z76⟩, st76⟩ := Jvm.LawKit.callS X75 hx (y := (⟨"com/example/acquire/acquire/internal/LockNamesRequireValidPinLaw", "unpairedAt", "([CI)Z"⟩ : MethodName)) hown (mvT hZ (hw _ (List.mem_of_getElem? (i := 6) rfl))) (mvT hZ (hw _ (List.mem_of_getElem? (i := 7) rfl))) (mvT hZ (hw _ (List.mem_of_getElem? (i := 2) rfl))) (mvT hZ (hw _ (List.mem_of_getElem? (i := 8) rfl))) (by decide) (own_back (rm := ({ frames := 1, cells := 0, slots := 0, locals := 12 } : Room)) (W := 0) (own_unp l Z a0 hw [] b56 1 3 (own_f r53 r54 r55) k56 h71 O73 (by decide) (by decide) Vc) hZ (hw _ (List.mem_of_getElem? (i := 8) rfl)) (hw _ (List.mem_of_getElem? (i := 2) rfl)) (by decide) (by decide)) (g := (mkF m 107 #[.val (.int p0), .val (.int p1), .val (.int p2), .val (.int p3), .val (.int (3 : Int32)), .val (.int r53), .val (.int r54), .val (.int r55), .val (.ref b56), .unset] [(.int (1 : Int32)), (.ref b56)])) rfl (by rw [hml]; rfl) (argsL := [(.ref b56), (.int (1 : Int32))]) (rest := []) (lenOf own_pd500 rfl) rfl (by show 2 * 0 + _ ≤ _; exact Nat.le_of_eq rfl) (hb hby at_107) (fun _ _ => ⟨rfl, eh75, (by decide : 0 + 0 + 0 + 0 + 1 + 0 + 0 ≤ _), (by decide : 0 + 0 + 0 + 0 + 3 + 0 + 0 ≤ _)⟩)
      dsimp only [Pt.U, Pt.locs, Pt.cells, Pt.slots] at X76 l76 y76 z76 st76 hQ76
      subst l76 y76 z76
      obtain ⟨r76, rfl, N76q, eh76, c76⟩ := hQ76
      have N76 := Fr.app N75 N76q
      refine own_st st76 ?_
      show own_G _ _ _ _ (T76.setTop (mkF m 110 #[.val (.int p0), .val (.int p1), .val (.int p2), .val (.int p3), .val (.int (3 : Int32)), .val (.int r53), .val (.int r54), .val (.int r55), .val (.ref b56), .unset] [(.int r76)]))
      rcases c76 with rfl | ⟨rfl, ok1⟩
      · show own_G _ _ _ _ (T76.setTop (mkF m 110 #[.val (.int p0), .val (.int p1), .val (.int p2), .val (.int p3), .val (.int (3 : Int32)), .val (.int r53), .val (.int r54), .val (.int r55), .val (.ref b56), .unset] [(.int (1 : Int32))]))
        refine own_st (fun _ k => XS.ifYes X76.here hx rfl (pc0 := 110) (pc' := 128) rfl (hb hby at_110) rfl ((if0 _ _).trans (feq (by decide)).2) (by decide) (by decide) k) ?_
        show own_G _ _ _ _ (T76.setTop (mkF m 128 #[.val (.int p0), .val (.int p1), .val (.int p2), .val (.int p3), .val (.int (3 : Int32)), .val (.int r53), .val (.int r54), .val (.int r55), .val (.ref b56), .unset] []))
        refine own_st (fun _ k => XS.iconst X76.here hx rfl (hb hby at_128) k) ?_
        show own_G _ _ _ _ (T76.setTop (mkF m 129 #[.val (.int p0), .val (.int p1), .val (.int p2), .val (.int p3), .val (.int (3 : Int32)), .val (.int r53), .val (.int r54), .val (.int r55), .val (.ref b56), .unset] [(.int (1 : Int32))]))
        exact own_retN X76 hx hret hlk (by simp) (hb hby at_129) ⟨rfl, N76⟩ (by decide) (by decide)
      · show own_G _ _ _ _ (T76.setTop (mkF m 110 #[.val (.int p0), .val (.int p1), .val (.int p2), .val (.int p3), .val (.int (3 : Int32)), .val (.int r53), .val (.int r54), .val (.int r55), .val (.ref b56), .unset] [(.int (0 : Int32))]))
        refine own_st (fun _ k => XS.ifNo X76.here hx rfl (hb hby at_110) rfl ((if0 _ _).trans (teq rfl).2) k) ?_
        show own_G _ _ _ _ (T76.setTop (mkF m 113 #[.val (.int p0), .val (.int p1), .val (.int p2), .val (.int p3), .val (.int (3 : Int32)), .val (.int r53), .val (.int r54), .val (.int r55), .val (.ref b56), .unset] []))
        refine own_st (fun _ k => XS.iload X76.here hx rfl (hb hby at_113) rfl k) ?_
        show own_G _ _ _ _ (T76.setTop (mkF m 115 #[.val (.int p0), .val (.int p1), .val (.int p2), .val (.int p3), .val (.int (3 : Int32)), .val (.int r53), .val (.int r54), .val (.int r55), .val (.ref b56), .unset] [(.int (3 : Int32))]))
        refine own_st (fun _ k => XS.iconst X76.here hx rfl (hb hby at_115) k) ?_
        show own_G _ _ _ _ (T76.setTop (mkF m 116 #[.val (.int p0), .val (.int p1), .val (.int p2), .val (.int p3), .val (.int (3 : Int32)), .val (.int r53), .val (.int r54), .val (.int r55), .val (.ref b56), .unset] [(.int (2 : Int32)), (.int (3 : Int32))]))
        refine own_st (fun _ k => XS.icmpNo X76.here hx rfl (hb hby at_116) rfl (tlt (by decide)).2.2.2 k) ?_
        show own_G _ _ _ _ (T76.setTop (mkF m 119 #[.val (.int p0), .val (.int p1), .val (.int p2), .val (.int p3), .val (.int (3 : Int32)), .val (.int r53), .val (.int r54), .val (.int r55), .val (.ref b56), .unset] []))
        refine own_st (fun _ k => XS.aload X76.here hx rfl (hb hby at_119) rfl rfl k) ?_
        show own_G _ _ _ _ (T76.setTop (mkF m 121 #[.val (.int p0), .val (.int p1), .val (.int p2), .val (.int p3), .val (.int (3 : Int32)), .val (.int r53), .val (.int r54), .val (.int r55), .val (.ref b56), .unset] [(.ref b56)]))
        refine own_st (fun _ k => XS.iconst X76.here hx rfl (hb hby at_121) k) ?_
        show own_G _ _ _ _ (T76.setTop (mkF m 122 #[.val (.int p0), .val (.int p1), .val (.int p2), .val (.int p3), .val (.int (3 : Int32)), .val (.int r53), .val (.int r54), .val (.int r55), .val (.ref b56), .unset] [(.int (2 : Int32)), (.ref b56)]))
        obtain ⟨_, _, ⟨T77, L77, k77, n77⟩, -, X77, ⟨Lc77, hQ77, l77, y77, z77⟩, st77⟩ := Jvm.LawKit.callS X76 hx (y := (⟨"com/example/acquire/acquire/internal/LockNamesRequireValidPinLaw", "unpairedAt", "([CI)Z"⟩ : MethodName)) hown (mvT hZ (hw _ (List.mem_of_getElem? (i := 6) rfl))) (mvT hZ (hw _ (List.mem_of_getElem? (i := 7) rfl))) (mvT hZ (hw _ (List.mem_of_getElem? (i := 2) rfl))) (mvT hZ (hw _ (List.mem_of_getElem? (i := 8) rfl))) (by decide) (own_back (rm := ({ frames := 1, cells := 0, slots := 0, locals := 12 } : Room)) (W := 0) (own_unp l Z a0 hw [] b56 2 3 (own_f r53 r54 r55) k56 h71 O73 (by decide) (by decide) Vc) hZ (hw _ (List.mem_of_getElem? (i := 8) rfl)) (hw _ (List.mem_of_getElem? (i := 2) rfl)) (by decide) (by decide)) (g := (mkF m 122 #[.val (.int p0), .val (.int p1), .val (.int p2), .val (.int p3), .val (.int (3 : Int32)), .val (.int r53), .val (.int r54), .val (.int r55), .val (.ref b56), .unset] [(.int (2 : Int32)), (.ref b56)])) rfl (by rw [hml]; rfl) (argsL := [(.ref b56), (.int (2 : Int32))]) (rest := []) (lenOf own_pd500 rfl) rfl (by show 2 * 0 + _ ≤ _; exact Nat.le_of_eq rfl) (hb hby at_122) (fun _ _ => ⟨rfl, eh76, (by decide : 0 + 0 + 0 + 0 + 1 + 0 + 0 + 0 ≤ _), (by decide : 0 + 0 + 0 + 0 + 3 + 0 + 0 + 0 ≤ _)⟩)
        dsimp only [Pt.U, Pt.locs, Pt.cells, Pt.slots] at X77 l77 y77 z77 st77 hQ77
        subst l77 y77 z77
        obtain ⟨r77, rfl, N77q, eh77, c77⟩ := hQ77
        have N77 := Fr.app N76 N77q
        refine own_st st77 ?_
        show own_G _ _ _ _ (T77.setTop (mkF m 125 #[.val (.int p0), .val (.int p1), .val (.int p2), .val (.int p3), .val (.int (3 : Int32)), .val (.int r53), .val (.int r54), .val (.int r55), .val (.ref b56), .unset] [(.int r77)]))
        rcases c77 with rfl | ⟨rfl, ok2⟩
        · show own_G _ _ _ _ (T77.setTop (mkF m 125 #[.val (.int p0), .val (.int p1), .val (.int p2), .val (.int p3), .val (.int (3 : Int32)), .val (.int r53), .val (.int r54), .val (.int r55), .val (.ref b56), .unset] [(.int (1 : Int32))]))
          refine own_st (fun _ k => XS.ifNo X77.here hx rfl (hb hby at_125) rfl ((if0 _ _).trans (feq (by decide)).1) k) ?_
          show own_G _ _ _ _ (T77.setTop (mkF m 128 #[.val (.int p0), .val (.int p1), .val (.int p2), .val (.int p3), .val (.int (3 : Int32)), .val (.int r53), .val (.int r54), .val (.int r55), .val (.ref b56), .unset] []))
          refine own_st (fun _ k => XS.iconst X77.here hx rfl (hb hby at_128) k) ?_
          show own_G _ _ _ _ (T77.setTop (mkF m 129 #[.val (.int p0), .val (.int p1), .val (.int p2), .val (.int p3), .val (.int (3 : Int32)), .val (.int r53), .val (.int r54), .val (.int r55), .val (.ref b56), .unset] [(.int (1 : Int32))]))
          exact own_retN X77 hx hret hlk (by simp) (hb hby at_129) ⟨rfl, N77⟩ (by decide) (by decide)
        · show own_G _ _ _ _ (T77.setTop (mkF m 125 #[.val (.int p0), .val (.int p1), .val (.int p2), .val (.int p3), .val (.int (3 : Int32)), .val (.int r53), .val (.int r54), .val (.int r55), .val (.ref b56), .unset] [(.int (0 : Int32))]))
          refine own_st (fun _ k => XS.ifYes X77.here hx rfl (pc0 := 125) (pc' := 130) rfl (hb hby at_125) rfl ((if0 _ _).trans (teq rfl).1) (by decide) (by decide) k) ?_
          show own_G _ _ _ _ (T77.setTop (mkF m 130 #[.val (.int p0), .val (.int p1), .val (.int p2), .val (.int p3), .val (.int (3 : Int32)), .val (.int r53), .val (.int r54), .val (.int r55), .val (.ref b56), .unset] []))
          obtain ⟨T78, h78, X78, e78, E78, A78, D78, -, st78⟩ := newO X77 hx hZ hown (hw _ (List.mem_of_getElem? (i := 19) rfl)) (hw _ (List.mem_of_getElem? (i := 20) rfl)) (hw _ (List.mem_of_getElem? (i := 21) rfl)) eh77 (g := (mkF m 130 #[.val (.int p0), .val (.int p1), .val (.int p2), .val (.int p3), .val (.int (3 : Int32)), .val (.int r53), .val (.int r54), .val (.int r55), .val (.ref b56), .unset] [])) rfl (hb hby at_130) (by decide) (by decide)
          obtain ⟨b78, g78⟩ : ∃ z, z = h71.size := ⟨_, rfl⟩
          rw [← g78] at A78 D78 st78
          refine own_st st78 ?_
          have z79 : h71.size ≤ h78.size := E78.1
          have O80 := Old.ext O73 E78
          have K81 : Keep h0 h78 [] := K74.ext E78
          have F78_coder : Fld Z h78 b78 "java/lang/String" "coder" "B" (.int (0 : Int32)) := D78 (Or.inr (hw _ (List.mem_of_getElem? (i := 64) rfl))) (ty := .byte) (by decide)
          have F78_value : Fld Z h78 b78 "java/lang/String" "value" "[B" .null := D78 (Or.inr (hw _ (List.mem_of_getElem? (i := 66) rfl))) (ty := (.array .byte)) (by decide)
          have lt78 := own_ltN A78.lt
          show own_G _ _ _ _ (T78.setTop (mkF m 133 #[.val (.int p0), .val (.int p1), .val (.int p2), .val (.int p3), .val (.int (3 : Int32)), .val (.int r53), .val (.int r54), .val (.int r55), .val (.ref b56), .unset] [(.ref b78)]))
          refine own_st (fun _ k => XS.dup X78.here hx rfl (hb hby at_133) rfl rfl k) ?_
          show own_G _ _ _ _ (T78.setTop (mkF m 134 #[.val (.int p0), .val (.int p1), .val (.int p2), .val (.int p3), .val (.int (3 : Int32)), .val (.int r53), .val (.int r54), .val (.int r55), .val (.ref b56), .unset] [(.ref b78), (.ref b78)]))
          refine own_st (fun _ k => XS.aload X78.here hx rfl (hb hby at_134) rfl rfl k) ?_
          show own_G _ _ _ _ (T78.setTop (mkF m 136 #[.val (.int p0), .val (.int p1), .val (.int p2), .val (.int p3), .val (.int (3 : Int32)), .val (.int r53), .val (.int r54), .val (.int r55), .val (.ref b56), .unset] [(.ref b56), (.ref b78), (.ref b78)]))
          have hok : ∀ j, j < 3 → own_ok (own_f r53 r54 r55) 3 j := fun j hj => by
            have : j = 0 ∨ j = 1 ∨ j = 2 := by omega
            rcases this with rfl | rfl | rfl
            · exact ok0
            · exact ok1
            · exact ok2
          have q82 : Arv Z h78 b56 k56 .char (3 : Int32) [(.int (nar .char r53)), (.int (nar .char r54)), (.int (nar .char r55))] (.int (0 : Int32)) := (V71'.ext E78)
          have Vc2 : Arv Z h78 b56 k56 .char (Int32.ofNat 3) (own_vals (own_f r53 r54 r55) 3) (.int (0 : Int32)) := q82
          obtain ⟨_, _, ⟨T83, L83, k83, n83⟩, -, X83, ⟨Lc83, hQ83, l83, y83, z83⟩, st83⟩ := X78.specialBack hx (y := (⟨"java/lang/String", "<init>", "([C)V"⟩ : MethodName)) rfl hown (mvT hZ (hw _ (List.mem_of_getElem? (i := 22) rfl))) (mvT hZ (hw _ (List.mem_of_getElem? (i := 23) rfl))) (mvT hZ (hw _ (List.mem_of_getElem? (i := 24) rfl))) (by decide) (own_back (rm := ({ frames := 5, cells := 2, slots := 9, locals := 74 } : Room)) (W := 1) (own_newS l Z a0 hw [] b78 b56 3 (own_f r53 r54 r55) k56 w1 .null (.int (0 : Int32)) h78 O80 (by decide) (by decide) (fun j _ => own_f_rng r53 r54 r55 j) US S1 hw1 (by omega) (show @Ne Nat b78 b56 by omega) A78 F78_value F78_coder Vc2) hZ (hw _ (List.mem_of_getElem? (i := 24) rfl)) (hw _ (List.mem_of_getElem? (i := 21) rfl)) (by decide) (by decide)) (g := (mkF m 136 #[.val (.int p0), .val (.int p1), .val (.int p2), .val (.int p3), .val (.int (3 : Int32)), .val (.int r53), .val (.int r54), .val (.int r55), .val (.ref b56), .unset] [(.ref b56), (.ref b78), (.ref b78)])) rfl (by rw [hml]; rfl) (Steps.refl _) (a := b78) (argsL := [(.ref b56)]) (rest := [(.ref b78)]) (lenOf own_pd514 rfl) rfl (by show 2 * 0 + _ ≤ _; exact Nat.le_of_eq rfl) (hb hby at_136) (fun _ _ => ⟨rfl, e78, (by decide : 0 + 0 + 0 + 0 + 1 + 0 + 0 + 0 + 1 + 2 ≤ _), (by decide : 0 + 0 + 0 + 0 + 3 + 0 + 0 + 0 + 4 + 9 ≤ _)⟩)
          dsimp only [Pt.U, Pt.locs, Pt.cells, Pt.slots] at X83 l83 y83 z83 st83 hQ83
          subst l83 y83 z83
          obtain ⟨rfl, N83q, K83_, t, kt, gt, Hs⟩ := hQ83
          have N83 := Fr.app N77 N83q
          refine own_tr st83 ?_
          have z84 : h78.size ≤ T83.heap.size := K83_.1
          have O85 := Old.keep O80 K83_ (allS (by omega) all0)
          have K86 : Keep h0 T83.heap [] := K81.trans K83_ (allS (Or.inr (by omega)) all0)
          show own_G _ _ _ _ (T83.setTop (mkF m 139 #[.val (.int p0), .val (.int p1), .val (.int p2), .val (.int p3), .val (.int (3 : Int32)), .val (.int r53), .val (.int r54), .val (.int r55), .val (.ref b56), .unset] [(.ref b78)]))
          refine own_st (fun _ k => XS.astore X83.here hx rfl (hb hby at_139) rfl rfl (l' := #[.val (.int p0), .val (.int p1), .val (.int p2), .val (.int p3), .val (.int (3 : Int32)), .val (.int r53), .val (.int r54), .val (.int r55), .val (.ref b56), .val (.ref b78)]) rfl k) ?_
          show own_G _ _ _ _ (T83.setTop (mkF m 141 #[.val (.int p0), .val (.int p1), .val (.int p2), .val (.int p3), .val (.int (3 : Int32)), .val (.int r53), .val (.int r54), .val (.int r55), .val (.ref b56), .val (.ref b78)] []))
          refine own_st (fun _ k => XS.aload X83.here hx rfl (hb hby at_141) rfl rfl k) ?_
          show own_G _ _ _ _ (T83.setTop (mkF m 143 #[.val (.int p0), .val (.int p1), .val (.int p2), .val (.int p3), .val (.int (3 : Int32)), .val (.int r53), .val (.int r54), .val (.int r55), .val (.ref b56), .val (.ref b78)] [(.ref b78)]))
          obtain ⟨_, _, ⟨T87, L87, k87, n87⟩, -, X87, ⟨Lc87, hQ87, l87, y87, z87⟩, st87⟩ := Jvm.LawKit.callS X83 hx (y := (⟨"com/example/acquire/acquire/internal/LockNames", "requireValid", "(Ljava/lang/String;)Ljava/lang/String;"⟩ : MethodName)) hown (mvT hZ (hw _ (List.mem_of_getElem? (i := 67) rfl))) (mvT hZ (hw _ (List.mem_of_getElem? (i := 68) rfl))) (mvT hZ (hw _ (List.mem_of_getElem? (i := 69) rfl))) (mvT hZ (hw _ (List.mem_of_getElem? (i := 70) rfl))) (by decide) (own_back (rm := ({ frames := 5, cells := 0, slots := 0, locals := 73 } : Room)) (W := 0) (own_rv l Z a0 hw [] b78 t kt 3 (own_f r53 r54 r55) w1 fm T83.heap O85 (by decide) (by decide) (fun j _ => own_f_rng r53 r54 r55 j) US S1 hw1 SF hfm Hs hok) hZ (hw _ (List.mem_of_getElem? (i := 70) rfl)) (hw _ (List.mem_of_getElem? (i := 69) rfl)) (by decide) (by decide)) (g := (mkF m 143 #[.val (.int p0), .val (.int p1), .val (.int p2), .val (.int p3), .val (.int (3 : Int32)), .val (.int r53), .val (.int r54), .val (.int r55), .val (.ref b56), .val (.ref b78)] [(.ref b78)])) rfl (by rw [hml]; rfl) (argsL := [(.ref b78)]) (rest := []) (lenOf own_pd518 rfl) rfl (by show 2 * 0 + _ ≤ _; exact Nat.le_of_eq rfl) (hb hby at_143) (fun _ _ => ⟨rfl, rfl, (by decide : 0 + 0 + 0 + 0 + 1 + 0 + 0 + 0 + 1 + 2 + 0 ≤ _), (by decide : 0 + 0 + 0 + 0 + 3 + 0 + 0 + 0 + 4 + 9 + 0 ≤ _)⟩)
          dsimp only [Pt.U, Pt.locs, Pt.cells, Pt.slots] at X87 l87 y87 z87 st87 hQ87
          subst l87 y87 z87
          obtain ⟨rfl, N87q, eh87⟩ := hQ87
          have N87 := Fr.app N83 N87q
          refine own_st st87 ?_
          show own_G _ _ _ _ (T87.setTop (mkF m 146 #[.val (.int p0), .val (.int p1), .val (.int p2), .val (.int p3), .val (.int (3 : Int32)), .val (.int r53), .val (.int r54), .val (.int r55), .val (.ref b56), .val (.ref b78)] [(.ref b78)]))
          refine own_st (fun _ k => XS.aload X87.here hx rfl (hb hby at_146) rfl rfl k) ?_
          show own_G _ _ _ _ (T87.setTop (mkF m 148 #[.val (.int p0), .val (.int p1), .val (.int p2), .val (.int p3), .val (.int (3 : Int32)), .val (.int r53), .val (.int r54), .val (.int r55), .val (.ref b56), .val (.ref b78)] [(.ref b78), (.ref b78)]))
          refine own_st (fun _ k => Jvm.RoadKit.acmp (g := (mkF m 148 #[.val (.int p0), .val (.int p1), .val (.int p2), .val (.int p3), .val (.int (3 : Int32)), .val (.int r53), .val (.int r54), .val (.int r55), .val (.ref b56), .val (.ref b78)] [(.ref b78), (.ref b78)])) X87 hx rfl rfl rfl (pc0 := 148) (pc' := 151) (same := true) rfl (hb hby at_148) rfl (decide_eq_true rfl) (by decide) (by decide) k) ?_
          show own_G _ _ _ _ (T87.setTop (mkF m 151 #[.val (.int p0), .val (.int p1), .val (.int p2), .val (.int p3), .val (.int (3 : Int32)), .val (.int r53), .val (.int r54), .val (.int r55), .val (.ref b56), .val (.ref b78)] []))
          refine own_st (fun _ k => XS.iconst X87.here hx rfl (hb hby at_151) k) ?_
          show own_G _ _ _ _ (T87.setTop (mkF m 152 #[.val (.int p0), .val (.int p1), .val (.int p2), .val (.int p3), .val (.int (3 : Int32)), .val (.int r53), .val (.int r54), .val (.int r55), .val (.ref b56), .val (.ref b78)] [(.int (1 : Int32))]))
          refine own_st (fun _ k => XS.goto X87.here hx rfl (pc0 := 152) (pc' := 156) rfl (hb hby at_152) (by decide) (by decide) k) ?_
          show own_G _ _ _ _ (T87.setTop (mkF m 156 #[.val (.int p0), .val (.int p1), .val (.int p2), .val (.int p3), .val (.int (3 : Int32)), .val (.int r53), .val (.int r54), .val (.int r55), .val (.ref b56), .val (.ref b78)] [(.int (1 : Int32))]))
          exact own_retN X87 hx hret hlk (by simp) (hb hby at_156) ⟨rfl, N87⟩ (by decide) (by decide)
theorem comes_1 {Post : Tables → Env → Array Value → State → Outcome → State → Prop} (hpost : ∀ tb e args s v u, (limb_1_1.after args s (.returned v) u = true ∧ limb_1_2.after args s (.returned v) u = true ∧ True) → FrameEnd s (.returned v) u (Jvm.fieldLocs frame_1_writes args s ++ Jvm.arrayLocs frame_1_arrays args s ++ Jvm.staticLocs frame_1_statics s) 16 128 → Post tb e args s (.returned v) u) :
    ArmFor flags0 classFile x code maxLocals ret World_1 tables_1 room_1 Calls_1 rest_1 Pre_1 Post := by
  intro l hfl _ _ p e ha hc hk s m args below hf hA hF happ hP
  obtain ⟨hcalls, hrest, hpre⟩ := hP
  obtain ⟨-, -, -, hnamed, -, -, -, hat⟩ := (Spec.applies_iff hf).mp happ
  obtain ⟨hg, hn⟩ := and_e (Cond.before_iff.mp (show (Jvm.Cond.and given_1 narrow_1).before args s = true from hpre))
  obtain ⟨hq0, hr0⟩ := and_e hg
  obtain ⟨hq1, hr1⟩ := and_e hr0
  obtain ⟨hq2, hr2⟩ := and_e hr1
  obtain ⟨hq3, hr3⟩ := and_e hr2
  obtain ⟨w0, w1, w2, w3, rfl⟩ : ∃ w0 w1 w2 w3 : Value, args = #[w0, w1, w2, w3] := by
    have hs : args.size = 4 := by simpa [Cond.value, given_1] using hq0
    obtain ⟨L⟩ := args
    match L, hs with
    | [w0, w1, w2, w3], _ => exact ⟨w0, w1, w2, w3, rfl⟩
  have hw := fun d (hd : d ∈ tables_1) => atoms_spec (ws := Jvm.Cond.code x code maxLocals ret :: tables_1) hat d (List.mem_cons_of_mem _ hd)
  obtain ⟨hsets, hown0⟩ := atoms_of _ (rest_1_c_eq ▸ (show rest_1_c.before _ s = true from hrest))
  have hfit : Fit s := fun {y c} hc i hi => by
    obtain ⟨ha, rfl⟩ := Array.getElem?_eq_some_iff.mp hc
    have q := List.all_eq_true.mp ((Array.all_eq_true_iff_forall_mem.mp hF) _ (Array.getElem_mem ha)) i (List.mem_range.mpr hi)
    simpa [Array.getElem?_eq_getElem hi] using q
  obtain ⟨p0, ep0⟩ := is_v hq1
  obtain rfl : w0 = (.int p0) := Option.some.inj ep0
  obtain ⟨p1, ep1⟩ := is_v hq2
  obtain rfl : w1 = (.int p1) := Option.some.inj ep1
  obtain ⟨p2, ep2⟩ := is_v hq3
  obtain rfl : w2 = (.int p2) := Option.some.inj ep2
  obtain ⟨p3, ep3⟩ := is_v hr3
  obtain rfl : w3 = (.int p3) := Option.some.inj ep3
  have n5 := not_v (Cond.before_iff.mp (hsets _ (List.mem_of_getElem? (i := 2) rfl)))
  obtain ⟨w1, e1⟩ := is_v (Cond.before_iff.mp (hsets _ (List.mem_of_getElem? (i := 1) rfl)))
  have S1 : Sta s s.heap "java/lang/String" "COMPACT_STRINGS" "Z" (.int w1) := Sta.start e1 (Or.inl (hsets _ (List.mem_of_getElem? (i := 0) rfl)))
  have c1 : ¬ (w1 = (0 : Int32)) := gotF (Cond.eq_ints e1 (Term.int_eval (0))) n5
  obtain ⟨fm, e2, r2⟩ := isR_v (Cond.before_iff.mp (hsets _ (List.mem_of_getElem? (i := 8) rfl)))
  have SF : Sta s s.heap "jdk/internal/util/Preconditions" "SIOOBE_FORMATTER" "Ljava/util/function/BiFunction;" fm := Sta.start e2 (Or.inl (hsets _ (List.mem_of_getElem? (i := 7) rfl)))
  have US : own_US s := ⟨Sta.start (own_eqI (Cond.before_iff.mp (hsets _ (List.mem_of_getElem? (i := 12) rfl)))) (Or.inl (hsets _ (List.mem_of_getElem? (i := 11) rfl))), Sta.start (own_eqI (Cond.before_iff.mp (hsets _ (List.mem_of_getElem? (i := 15) rfl)))) (Or.inl (hsets _ (List.mem_of_getElem? (i := 14) rfl))), Sta.start (own_eqI (Cond.before_iff.mp (hsets _ (List.mem_of_getElem? (i := 18) rfl)))) (Or.inl (hsets _ (List.mem_of_getElem? (i := 17) rfl)))⟩
  obtain ⟨n, o, h1, h2, h3, _, L, rfl, ⟨rfl, N⟩, hq⟩ := own_law l s _ hw tables_1 p0 p1 p2 p3 w1 fm s.heap (Old.start s) US S1 c1 SF (ref_cases r2) p e ha hc hk s m _ below hf ((Spec.applies_iff_loose hf).mp happ).1 ⟨rfl, State.Warmed39.refl s, rfl⟩ trivial
  refine ⟨n, _, h1, h2, h3, hpost _ _ _ _ _ _ ⟨Cond.after_iff.mpr rfl, Cond.after_iff.mpr (eq_i res_at (Term.int_eval (1)) rfl), trivial⟩ ⟨hq.1, hq.2.1, (hq.2.2.sift fun y hy => Or.inr (N y hy)).mono (by decide) (by decide)⟩⟩
theorem main_1_1 : Claimed_1_1 := comes_1 fun _ _ _ _ _ _ h hF => ⟨h.1, hF⟩
theorem main_1_2 : Claimed_1_2 := comes_1 fun _ _ _ _ _ _ h hF => ⟨h.2.1, hF⟩
end Jvm.Pilot.@@N@@
namespace Jvm.Pilot.@@N@@
open Jvm Jvm.ClassFile Sem Op Lib Jvm.Free Jvm.Stand Jvm.Pilot.@@N@@.Jvm.D
/-! MADE BY PROGRAM (witnessworld.py) out of the Statement's table words and the real class files: 21 classes; the members and pool entries that the words name. The judged class is class 1, her method 1. -/
namespace start1
open Jvm.ClassFile
def u (s : String) : CpInfo := .utf8 (stringToUtf16 s)
/-- a pool by its gaps: so many unusable entries, then the entry; so many at the end -/
def gap : Nat → List CpInfo → List CpInfo
  | 0, r => r
  | n + 1, r => .unusable :: gap n r
def poolList (es : List (Nat × CpInfo)) (last : Nat) : List CpInfo := es.foldr (fun e r => gap e.1 (e.2 :: r)) (gap last [])
def pool (es : List (Nat × CpInfo)) (last : Nat) : Array CpInfo := ⟨poolList es last⟩
def fileOf (pool : Array CpInfo) (this : Nat) (attrs : Array Attribute := #[]) (ms : Array MethodInfo := #[]) (fl : Nat := 33) (sup : Nat := 0) (ifs : Array Nat := #[]) (fds : Array FieldInfo := #[]) : ClassFile where
  minorVersion := 0
  majorVersion := 65
  constantPool := pool
  accessFlags := fl
  thisClass := this
  superClass := sup
  interfaces := ifs
  fields := fds
  methods := ms
  attributes := attrs
def plain (name : String) (sup : Option ClassId) : Class where
  name := name
  kind := .ordinary
  loader := none
  accessFlags := 33
  super := sup
  interfaces := #[]
  cf := none
  fields := #[]
  methods := #[]
  instanceTypes := #[]
  staticTypes := #[]
  resolved := #[]
  callSites := []
  init := .initialized
  statics := none
  mirror := none

def pool0 : Array CpInfo := pool [(5, u "<init>"), (0, u "()V"), (1, .class_ 10), (1, u "java/lang/Object")] 113

def k0c0 : Code := { maxStack := 0, maxLocals := 1, code := object_method_1_code, exceptionTable := #[], attributes := #[] }
def k0m0 : Method := { name := "<init>", desc := "()V", sig := { parameters := [], returnType := none }, accessFlags := 1, code := some k0c0 }
/-- java/lang/Object -/
def k0 : Class := { plain "java/lang/Object" none with
  accessFlags := 33
  interfaces := #[]
  cf := some (fileOf pool0 8 #[] #[{ accessFlags := 1, nameIndex := 5, descriptorIndex := 6, attributes := #[] }] 33 0 #[] #[])
  fields := #[]
  methods := #[k0m0]
  instanceTypes := #[]
  staticTypes := #[]
  resolved := Array.replicate 124 none
  statics := none }

def pool1 : Array CpInfo := pool [(2, .class_ 4), (1, u "java/lang/Object"), (0, u "<init>"), (0, u "()V"), (0, .methodref 8 9), (0, .class_ 10), (0, .nameAndType 11 12), (0, u "com/example/acquire/acquire/internal/LockNamesRequireValidPinLaw"), (0, u "draw"), (0, u "(I)C"), (0, .methodref 8 14), (0, .nameAndType 15 16), (0, u "unpairedAt"), (0, u "([CI)Z"), (0, .class_ 18), (0, u "java/lang/String"), (0, .methodref 17 20), (0, .nameAndType 5 21), (0, u "([C)V"), (0, .methodref 23 24), (0, .class_ 25), (0, .nameAndType 26 27), (0, u "com/example/acquire/acquire/internal/LockNames"), (0, u "requireValid"), (0, u "(Ljava/lang/String;)Ljava/lang/String;"), (0, .integer 55296), (0, .integer 56320), (0, .integer 65535), (0, .integer 56319), (0, .integer 57343), (0, .methodref 8 34), (0, .nameAndType 35 36), (0, u "isHigh"), (0, u "(C)Z"), (0, .methodref 8 38), (0, .nameAndType 39 36), (0, u "isLow"), (2, u "law"), (0, u "(IIII)Z")] 5

def k1m0 : Method := { name := "<init>", desc := "()V", sig := { parameters := [], returnType := none }, accessFlags := 2, code := none }
def k1c1 : Code := { maxStack := 4, maxLocals := 10, code := code, exceptionTable := #[], attributes := #[] }
def k1m1 : Method := { name := "law", desc := "(IIII)Z", sig := { parameters := [.int, .int, .int, .int], returnType := some .boolean }, accessFlags := 9, code := some k1c1 }
def k1c2 : Code := { maxStack := 3, maxLocals := 2, code := method_3_code, exceptionTable := #[], attributes := #[] }
def k1m2 : Method := { name := "draw", desc := "(I)C", sig := { parameters := [.int], returnType := some .char }, accessFlags := 10, code := some k1c2 }
def k1c3 : Code := { maxStack := 2, maxLocals := 1, code := method_4_code, exceptionTable := #[], attributes := #[] }
def k1m3 : Method := { name := "isHigh", desc := "(C)Z", sig := { parameters := [.char], returnType := some .boolean }, accessFlags := 10, code := some k1c3 }
def k1c4 : Code := { maxStack := 2, maxLocals := 1, code := method_5_code, exceptionTable := #[], attributes := #[] }
def k1m4 : Method := { name := "isLow", desc := "(C)Z", sig := { parameters := [.char], returnType := some .boolean }, accessFlags := 10, code := some k1c4 }
def k1c5 : Code := { maxStack := 3, maxLocals := 3, code := method_6_code, exceptionTable := #[], attributes := #[] }
def k1m5 : Method := { name := "unpairedAt", desc := "([CI)Z", sig := { parameters := [(.array .char), .int], returnType := some .boolean }, accessFlags := 10, code := some k1c5 }
/-- com/example/acquire/acquire/internal/LockNamesRequireValidPinLaw -/
def k1 : Class := { plain "com/example/acquire/acquire/internal/LockNamesRequireValidPinLaw" (some 0) with
  accessFlags := 49
  interfaces := #[]
  cf := some (fileOf pool1 8 #[] #[{ accessFlags := 2, nameIndex := 5, descriptorIndex := 6, attributes := #[] }, { accessFlags := 9, nameIndex := 42, descriptorIndex := 43, attributes := #[] }, { accessFlags := 10, nameIndex := 11, descriptorIndex := 12, attributes := #[] }, { accessFlags := 10, nameIndex := 35, descriptorIndex := 36, attributes := #[] }, { accessFlags := 10, nameIndex := 39, descriptorIndex := 36, attributes := #[] }, { accessFlags := 10, nameIndex := 15, descriptorIndex := 16, attributes := #[] }] 49 2 #[] #[])
  fields := #[]
  methods := #[k1m0, k1m1, k1m2, k1m3, k1m4, k1m5]
  instanceTypes := #[]
  staticTypes := #[]
  resolved := Array.replicate 49 none
  statics := none }

def pool2 : Array CpInfo := pool [(1, .class_ 2), (0, u "java/io/Serializable"), (0, .class_ 4), (0, u "java/lang/Object")] 2

/-- java/io/Serializable -/
def k2 : Class := { plain "java/io/Serializable" (some 0) with
  accessFlags := 1537
  interfaces := #[]
  cf := some (fileOf pool2 1 #[] #[] 1537 3 #[] #[])
  fields := #[]
  methods := #[]
  instanceTypes := #[]
  staticTypes := #[]
  resolved := Array.replicate 7 none
  statics := none }

def pool3 : Array CpInfo := pool [(1, .class_ 2), (0, u "java/lang/Comparable"), (0, .class_ 4), (0, u "java/lang/Object")] 7

/-- java/lang/Comparable -/
def k3 : Class := { plain "java/lang/Comparable" (some 0) with
  accessFlags := 1537
  interfaces := #[]
  cf := some (fileOf pool3 1 #[] #[] 1537 3 #[] #[])
  fields := #[]
  methods := #[]
  instanceTypes := #[]
  staticTypes := #[]
  resolved := Array.replicate 12 none
  statics := none }

def pool4 : Array CpInfo := pool [(2, .class_ 4), (1, u "java/lang/CharSequence"), (42, .class_ 48), (0, u "java/lang/CharSequence$1CodePointIterator"), (10, .class_ 60), (0, u "java/lang/CharSequence$1CharIterator"), (5, .class_ 67), (0, u "java/lang/Object")] 63

/-- java/lang/CharSequence -/
def k4 : Class := { plain "java/lang/CharSequence" (some 0) with
  accessFlags := 1537
  interfaces := #[]
  cf := some (fileOf pool4 2 #[.nestMembers #[47, 59]] #[] 1537 66 #[] #[])
  fields := #[]
  methods := #[]
  instanceTypes := #[]
  staticTypes := #[]
  resolved := Array.replicate 131 none
  statics := none }

def pool5 : Array CpInfo := pool [(1, .class_ 2), (0, u "java/lang/constant/Constable"), (0, .class_ 4), (0, u "java/lang/Object")] 6

/-- java/lang/constant/Constable -/
def k5 : Class := { plain "java/lang/constant/Constable" (some 0) with
  accessFlags := 1537
  interfaces := #[]
  cf := some (fileOf pool5 1 #[] #[] 1537 3 #[] #[])
  fields := #[]
  methods := #[]
  instanceTypes := #[]
  staticTypes := #[]
  resolved := Array.replicate 11 none
  statics := none }

def pool6 : Array CpInfo := pool [(1, .class_ 2), (0, u "java/lang/constant/ConstantDesc"), (0, .class_ 4), (0, u "java/lang/Object")] 32

/-- java/lang/constant/ConstantDesc -/
def k6 : Class := { plain "java/lang/constant/ConstantDesc" (some 0) with
  accessFlags := 1537
  interfaces := #[]
  cf := some (fileOf pool6 1 #[] #[] 1537 3 #[] #[])
  fields := #[]
  methods := #[]
  instanceTypes := #[]
  staticTypes := #[]
  resolved := Array.replicate 37 none
  statics := none }

def pool7 : Array CpInfo := pool [(1, .methodref 2 3), (0, .class_ 4), (0, .nameAndType 5 6), (0, u "java/lang/Object"), (0, u "<init>"), (0, u "()V"), (2, .fieldref 10 11), (0, .class_ 12), (0, .nameAndType 13 14), (0, u "java/lang/String"), (0, u "value"), (0, u "[B"), (0, .fieldref 10 16), (0, .nameAndType 17 18), (0, u "coder"), (0, u "B"), (2, u "hash"), (0, u "I"), (2, u "hashIsZero"), (0, u "Z"), (0, .methodref 10 28), (0, .nameAndType 5 29), (0, u "([CIILjava/lang/Void;)V"), (8, .fieldref 10 39), (0, .nameAndType 40 26), (0, u "COMPACT_STRINGS"), (1, .class_ 44), (1, u "java/lang/StringUTF16"), (0, u "compress"), (1, .methodref 42 48), (0, .nameAndType 49 50), (0, u "coderFromArrayLen"), (0, u "([BI)B"), (46, u "([BII)I"), (44, u "()Z"), (34, .methodref 42 178), (0, .nameAndType 45 179), (0, u "([CII)[B"), (154, u "()I"), (0, .methodref 10 336), (0, .nameAndType 17 337), (0, u "()B"), (53, u "(II)V"), (100, .methodref 10 493), (0, .nameAndType 494 142), (0, u "isLatin1"), (4, .methodref 10 500), (0, .nameAndType 501 391), (0, u "checkIndex"), (0, .methodref 42 503), (0, .nameAndType 504 97), (0, u "codePointAt"), (2, u "length"), (67, .class_ 576), (0, u "java/lang/CharSequence"), (22, u "CASE_INSENSITIVE_ORDER"), (0, u "Ljava/util/Comparator;"), (91, u "isEmpty"), (72, u "(I)I"), (244, u "([C)V"), (42, .fieldref 1054 1055), (0, .class_ 1056), (0, .nameAndType 1057 1058), (0, u "jdk/internal/util/Preconditions"), (0, u "SIOOBE_FORMATTER"), (0, u "Ljava/util/function/BiFunction;"), (0, .methodref 1054 1060), (0, .nameAndType 501 1061), (0, u "(IILjava/util/function/BiFunction;)I"), (39, u "serialPersistentFields"), (0, u "[Ljava/io/ObjectStreamField;"), (0, .class_ 1104), (0, u "java/lang/String$CaseInsensitiveComparator"), (1, .class_ 1107), (0, u "java/io/Serializable"), (0, .class_ 1109), (0, u "java/lang/Comparable"), (0, .class_ 1111), (0, u "java/lang/constant/Constable"), (0, .class_ 1113), (0, u "java/lang/constant/ConstantDesc"), (2, u "serialVersionUID"), (0, u "J"), (3, u "REPL"), (0, u "C"), (2, u "LATIN1"), (1, u "UTF16")] 323

def k7m0 : Method := { name := "<init>", desc := "()V", sig := { parameters := [], returnType := none }, accessFlags := 1, code := none }
def k7c1 : Code := { maxStack := 5, maxLocals := 2, code := jdk_42_method_3_code, exceptionTable := #[], attributes := #[] }
def k7m1 : Method := { name := "<init>", desc := "([C)V", sig := { parameters := [(.array .char)], returnType := none }, accessFlags := 1, code := some k7c1 }
def k7c2 : Code := { maxStack := 2, maxLocals := 1, code := jdk_42_method_54_code, exceptionTable := #[], attributes := #[] }
def k7m2 : Method := { name := "length", desc := "()I", sig := { parameters := [], returnType := some .int }, accessFlags := 1, code := some k7c2 }
def k7c3 : Code := { maxStack := 1, maxLocals := 1, code := jdk_42_method_55_code, exceptionTable := #[], attributes := #[] }
def k7m3 : Method := { name := "isEmpty", desc := "()Z", sig := { parameters := [], returnType := some .boolean }, accessFlags := 1, code := some k7c3 }
def k7c4 : Code := { maxStack := 3, maxLocals := 3, code := jdk_42_method_57_code, exceptionTable := #[], attributes := #[] }
def k7m4 : Method := { name := "codePointAt", desc := "(I)I", sig := { parameters := [.int], returnType := some .int }, accessFlags := 1, code := some k7c4 }
def k7c5 : Code := { maxStack := 4, maxLocals := 6, code := jdk_42_method_149_code, exceptionTable := #[], attributes := #[] }
def k7m5 : Method := { name := "<init>", desc := "([CIILjava/lang/Void;)V", sig := { parameters := [(.array .char), .int, .int, (.object "java/lang/Void")], returnType := none }, accessFlags := 2, code := some k7c5 }
def k7c6 : Code := { maxStack := 1, maxLocals := 1, code := jdk_42_method_152_code, exceptionTable := #[], attributes := #[] }
def k7m6 : Method := { name := "coder", desc := "()B", sig := { parameters := [], returnType := some .byte }, accessFlags := 0, code := some k7c6 }
def k7c7 : Code := { maxStack := 1, maxLocals := 1, code := jdk_42_method_154_code, exceptionTable := #[], attributes := #[] }
def k7m7 : Method := { name := "isLatin1", desc := "()Z", sig := { parameters := [], returnType := some .boolean }, accessFlags := 0, code := some k7c7 }
def k7c8 : Code := { maxStack := 3, maxLocals := 2, code := jdk_42_method_155_code, exceptionTable := #[], attributes := #[] }
def k7m8 : Method := { name := "checkIndex", desc := "(II)V", sig := { parameters := [.int, .int], returnType := none }, accessFlags := 8, code := some k7c8 }
/-- java/lang/String -/
def k7 : Class := { plain "java/lang/String" (some 0) with
  accessFlags := 49
  interfaces := #[2, 3, 4, 5, 6]
  cf := some (fileOf pool7 10 #[.nestMembers #[1103]] #[{ accessFlags := 1, nameIndex := 5, descriptorIndex := 6, attributes := #[] }, { accessFlags := 1, nameIndex := 5, descriptorIndex := 1010, attributes := #[] }, { accessFlags := 1, nameIndex := 507, descriptorIndex := 334, attributes := #[] }, { accessFlags := 1, nameIndex := 692, descriptorIndex := 142, attributes := #[] }, { accessFlags := 1, nameIndex := 504, descriptorIndex := 765, attributes := #[] }, { accessFlags := 2, nameIndex := 5, descriptorIndex := 29, attributes := #[] }, { accessFlags := 0, nameIndex := 17, descriptorIndex := 337, attributes := #[] }, { accessFlags := 0, nameIndex := 494, descriptorIndex := 142, attributes := #[] }, { accessFlags := 8, nameIndex := 501, descriptorIndex := 391, attributes := #[] }] 49 2 #[1106, 1108, 575, 1110, 1112] #[{ accessFlags := 18, nameIndex := 13, descriptorIndex := 14, attributes := #[] }, { accessFlags := 18, nameIndex := 17, descriptorIndex := 18, attributes := #[] }, { accessFlags := 2, nameIndex := 21, descriptorIndex := 22, attributes := #[] }, { accessFlags := 2, nameIndex := 25, descriptorIndex := 26, attributes := #[] }, { accessFlags := 26, nameIndex := 1116, descriptorIndex := 1117, attributes := #[] }, { accessFlags := 24, nameIndex := 40, descriptorIndex := 26, attributes := #[] }, { accessFlags := 26, nameIndex := 1101, descriptorIndex := 1102, attributes := #[] }, { accessFlags := 26, nameIndex := 1121, descriptorIndex := 1122, attributes := #[] }, { accessFlags := 25, nameIndex := 599, descriptorIndex := 600, attributes := #[] }, { accessFlags := 24, nameIndex := 1125, descriptorIndex := 18, attributes := #[] }, { accessFlags := 24, nameIndex := 1127, descriptorIndex := 18, attributes := #[] }])
  fields := #[{ name := "value", type := (.array .byte), accessFlags := 18, slot := 0, constantValue := 0 }, { name := "coder", type := .byte, accessFlags := 18, slot := 1, constantValue := 0 }, { name := "hash", type := .int, accessFlags := 2, slot := 2, constantValue := 0 }, { name := "hashIsZero", type := .boolean, accessFlags := 2, slot := 3, constantValue := 0 }, { name := "serialVersionUID", type := .long, accessFlags := 26, slot := 0, constantValue := 0 }, { name := "COMPACT_STRINGS", type := .boolean, accessFlags := 24, slot := 1, constantValue := 0 }, { name := "serialPersistentFields", type := (.array (.object "java/io/ObjectStreamField")), accessFlags := 26, slot := 2, constantValue := 0 }, { name := "REPL", type := .char, accessFlags := 26, slot := 3, constantValue := 0 }, { name := "CASE_INSENSITIVE_ORDER", type := (.object "java/util/Comparator"), accessFlags := 25, slot := 4, constantValue := 0 }, { name := "LATIN1", type := .byte, accessFlags := 24, slot := 5, constantValue := 0 }, { name := "UTF16", type := .byte, accessFlags := 24, slot := 6, constantValue := 0 }]
  methods := #[k7m0, k7m1, k7m2, k7m3, k7m4, k7m5, k7m6, k7m7, k7m8]
  instanceTypes := #[(.array .byte), .byte, .int, .boolean]
  staticTypes := #[.long, .boolean, (.array (.object "java/io/ObjectStreamField")), .char, (.object "java/util/Comparator"), .byte, .byte]
  resolved := Array.replicate 1451 none
  statics := some 0 }

def pool8 : Array CpInfo := pool [(6, .class_ 8), (1, u "java/lang/Object"), (0, u "<init>"), (0, u "()V"), (0, .methodref 12 13), (0, .class_ 14), (0, .nameAndType 15 16), (0, u "java/lang/StringUTF16"), (0, u "newBytesLength"), (0, u "(I)I"), (3, .integer 1073741823), (23, .fieldref 12 45), (0, .nameAndType 46 47), (0, u "$assertionsDisabled"), (0, u "Z"), (11, .fieldref 12 60), (0, .nameAndType 61 62), (0, u "HI_BYTE_SHIFT"), (0, u "I"), (0, .fieldref 12 64), (0, .nameAndType 65 62), (0, u "LO_BYTE_SHIFT"), (5, .methodref 12 72), (0, .nameAndType 73 74), (0, u "getChar"), (0, u "([BI)C"), (0, .methodref 76 77), (0, .class_ 78), (0, .nameAndType 79 80), (0, u "java/lang/Character"), (0, u "isHighSurrogate"), (0, u "(C)Z"), (0, .methodref 76 82), (0, .nameAndType 83 80), (0, u "isLowSurrogate"), (0, .methodref 76 85), (0, .nameAndType 86 87), (0, u "toCodePoint"), (0, u "(CC)I"), (0, .methodref 12 89), (0, .nameAndType 90 91), (0, u "codePointAt"), (0, u "([BIIZ)I"), (15, .methodref 12 108), (0, .nameAndType 109 110), (0, u "newBytesFor"), (0, u "(I)[B"), (0, .methodref 12 112), (0, .nameAndType 113 114), (0, u "putChar"), (0, u "([BII)V"), (0, .methodref 12 116), (0, .nameAndType 117 118), (0, u "compress"), (0, u "([CI[BII)I"), (0, .methodref 12 120), (0, .nameAndType 121 122), (0, u "toBytes"), (0, u "([CII)[B"), (127, u "([BII)I"), (10, u "coderFromArrayLen"), (0, u "([BI)B"), (106, .class_ 371), (1, u "java/lang/StringUTF16$LinesSpliterator"), (58, u "MAX_LENGTH"), (196, .class_ 628), (0, u "java/lang/StringUTF16$CodePointsSpliterator"), (0, .class_ 630), (0, u "java/lang/StringUTF16$CharsSpliterator")] 4

def k8m0 : Method := { name := "<init>", desc := "()V", sig := { parameters := [], returnType := none }, accessFlags := 0, code := none }
def k8c1 : Code := { maxStack := 1, maxLocals := 1, code := jdk_52_method_2_code, exceptionTable := #[], attributes := #[] }
def k8m1 : Method := { name := "newBytesFor", desc := "(I)[B", sig := { parameters := [.int], returnType := some (.array .byte) }, accessFlags := 9, code := some k8c1 }
def k8c2 : Code := { maxStack := 4, maxLocals := 1, code := jdk_52_method_3_code, exceptionTable := #[], attributes := #[] }
def k8m2 : Method := { name := "newBytesLength", desc := "(I)I", sig := { parameters := [.int], returnType := some .int }, accessFlags := 9, code := some k8c2 }
def k8c3 : Code := { maxStack := 4, maxLocals := 3, code := jdk_52_method_4_code, exceptionTable := #[], attributes := #[] }
def k8m3 : Method := { name := "putChar", desc := "([BII)V", sig := { parameters := [(.array .byte), .int, .int], returnType := none }, accessFlags := 8, code := some k8c3 }
def k8c4 : Code := { maxStack := 3, maxLocals := 2, code := jdk_52_method_5_code, exceptionTable := #[], attributes := #[] }
def k8m4 : Method := { name := "getChar", desc := "([BI)C", sig := { parameters := [(.array .byte), .int], returnType := some .char }, accessFlags := 8, code := some k8c4 }
def k8c5 : Code := { maxStack := 2, maxLocals := 6, code := jdk_52_method_7_code, exceptionTable := #[], attributes := #[] }
def k8m5 : Method := { name := "codePointAt", desc := "([BIIZ)I", sig := { parameters := [(.array .byte), .int, .int, .boolean], returnType := some .int }, accessFlags := 10, code := some k8c5 }
def k8c6 : Code := { maxStack := 4, maxLocals := 3, code := jdk_52_method_8_code, exceptionTable := #[], attributes := #[] }
def k8m6 : Method := { name := "codePointAt", desc := "([BII)I", sig := { parameters := [(.array .byte), .int, .int], returnType := some .int }, accessFlags := 9, code := some k8c6 }
def k8c7 : Code := { maxStack := 4, maxLocals := 5, code := jdk_52_method_14_code, exceptionTable := #[], attributes := #[] }
def k8m7 : Method := { name := "toBytes", desc := "([CII)[B", sig := { parameters := [(.array .char), .int, .int], returnType := some (.array .byte) }, accessFlags := 9, code := some k8c7 }
def k8c8 : Code := { maxStack := 2, maxLocals := 2, code := jdk_52_method_15_code, exceptionTable := #[], attributes := #[] }
def k8m8 : Method := { name := "coderFromArrayLen", desc := "([BI)B", sig := { parameters := [(.array .byte), .int], returnType := some .byte }, accessFlags := 8, code := some k8c8 }
def k8c9 : Code := { maxStack := 5, maxLocals := 6, code := jdk_52_method_16_code, exceptionTable := #[], attributes := #[] }
def k8m9 : Method := { name := "compress", desc := "([CII)[B", sig := { parameters := [(.array .char), .int, .int], returnType := some (.array .byte) }, accessFlags := 9, code := some k8c9 }
def k8c10 : Code := { maxStack := 3, maxLocals := 7, code := jdk_52_method_21_code, exceptionTable := #[], attributes := #[] }
def k8m10 : Method := { name := "compress", desc := "([CI[BII)I", sig := { parameters := [(.array .char), .int, (.array .byte), .int, .int], returnType := some .int }, accessFlags := 9, code := some k8c10 }
/-- java/lang/StringUTF16 -/
def k8 : Class := { plain "java/lang/StringUTF16" (some 0) with
  accessFlags := 48
  interfaces := #[]
  cf := some (fileOf pool8 12 #[.nestMembers #[627, 629, 369]] #[{ accessFlags := 0, nameIndex := 9, descriptorIndex := 10, attributes := #[] }, { accessFlags := 9, nameIndex := 109, descriptorIndex := 110, attributes := #[] }, { accessFlags := 9, nameIndex := 15, descriptorIndex := 16, attributes := #[] }, { accessFlags := 8, nameIndex := 113, descriptorIndex := 114, attributes := #[] }, { accessFlags := 8, nameIndex := 73, descriptorIndex := 74, attributes := #[] }, { accessFlags := 10, nameIndex := 90, descriptorIndex := 91, attributes := #[] }, { accessFlags := 9, nameIndex := 90, descriptorIndex := 250, attributes := #[] }, { accessFlags := 9, nameIndex := 121, descriptorIndex := 122, attributes := #[] }, { accessFlags := 8, nameIndex := 261, descriptorIndex := 262, attributes := #[] }, { accessFlags := 9, nameIndex := 117, descriptorIndex := 122, attributes := #[] }, { accessFlags := 9, nameIndex := 117, descriptorIndex := 118, attributes := #[] }] 48 6 #[] #[{ accessFlags := 26, nameIndex := 61, descriptorIndex := 62, attributes := #[] }, { accessFlags := 26, nameIndex := 65, descriptorIndex := 62, attributes := #[] }, { accessFlags := 24, nameIndex := 430, descriptorIndex := 62, attributes := #[] }, { accessFlags := 4120, nameIndex := 46, descriptorIndex := 47, attributes := #[] }])
  fields := #[{ name := "HI_BYTE_SHIFT", type := .int, accessFlags := 26, slot := 0, constantValue := 0 }, { name := "LO_BYTE_SHIFT", type := .int, accessFlags := 26, slot := 1, constantValue := 0 }, { name := "MAX_LENGTH", type := .int, accessFlags := 24, slot := 2, constantValue := 0 }, { name := "$assertionsDisabled", type := .boolean, accessFlags := 4120, slot := 3, constantValue := 0 }]
  methods := #[k8m0, k8m1, k8m2, k8m3, k8m4, k8m5, k8m6, k8m7, k8m8, k8m9, k8m10]
  instanceTypes := #[]
  staticTypes := #[.int, .int, .int, .boolean]
  resolved := Array.replicate 635 none
  statics := some 1 }

def pool9 : Array CpInfo := pool [(2, .class_ 4), (1, u "java/lang/Object"), (0, u "<init>"), (0, u "()V"), (0, .methodref 8 9), (0, .class_ 10), (0, .nameAndType 11 12), (0, u "java/lang/String"), (0, u "isEmpty"), (0, u "()Z"), (7, .methodref 21 22), (0, .class_ 23), (0, .nameAndType 24 25), (0, u "com/example/acquire/acquire/internal/LockNames"), (0, u "unpairedSurrogate"), (0, u "(Ljava/lang/String;)I"), (0, .methodref 8 27), (0, .nameAndType 28 29), (0, u "length"), (0, u "()I"), (4, .methodref 8 35), (0, .nameAndType 36 37), (0, u "codePointAt"), (0, u "(I)I"), (0, .class_ 39), (0, u "java/lang/Character"), (0, .integer 55296), (0, .integer 57343), (0, .methodref 38 43), (0, .nameAndType 44 37), (0, u "charCount"), (2, u "requireValid"), (0, u "(Ljava/lang/String;)Ljava/lang/String;")] 18

def k9m0 : Method := { name := "<init>", desc := "()V", sig := { parameters := [], returnType := none }, accessFlags := 2, code := none }
def k9c1 : Code := { maxStack := 4, maxLocals := 2, code := prog_10_method_2_code, exceptionTable := #[], attributes := #[] }
def k9m1 : Method := { name := "requireValid", desc := "(Ljava/lang/String;)Ljava/lang/String;", sig := { parameters := [(.object "java/lang/String")], returnType := some (.object "java/lang/String") }, accessFlags := 9, code := some k9c1 }
def k9c2 : Code := { maxStack := 2, maxLocals := 3, code := prog_10_method_3_code, exceptionTable := #[], attributes := #[] }
def k9m2 : Method := { name := "unpairedSurrogate", desc := "(Ljava/lang/String;)I", sig := { parameters := [(.object "java/lang/String")], returnType := some .int }, accessFlags := 10, code := some k9c2 }
/-- com/example/acquire/acquire/internal/LockNames -/
def k9 : Class := { plain "com/example/acquire/acquire/internal/LockNames" (some 0) with
  accessFlags := 49
  interfaces := #[]
  cf := some (fileOf pool9 21 #[] #[{ accessFlags := 2, nameIndex := 5, descriptorIndex := 6, attributes := #[] }, { accessFlags := 9, nameIndex := 47, descriptorIndex := 48, attributes := #[] }, { accessFlags := 10, nameIndex := 24, descriptorIndex := 25, attributes := #[] }] 49 2 #[] #[])
  fields := #[]
  methods := #[k9m0, k9m1, k9m2]
  instanceTypes := #[]
  staticTypes := #[]
  resolved := Array.replicate 67 none
  statics := none }

def pool10 : Array CpInfo := pool [(2, .class_ 4), (1, u "java/lang/Object"), (0, u "<init>"), (0, u "()V"), (17, .class_ 26), (1, u "jdk/internal/util/Preconditions"), (6, u "checkIndex"), (21, .class_ 56), (0, u "jdk/internal/util/Preconditions$4"), (57, .class_ 115), (0, u "jdk/internal/util/Preconditions$1"), (7, u "SIOOBE_FORMATTER"), (0, u "Ljava/util/function/BiFunction;"), (0, .class_ 126), (0, u "jdk/internal/util/Preconditions$2"), (3, u "AIOOBE_FORMATTER"), (0, .class_ 132), (0, u "jdk/internal/util/Preconditions$3"), (3, u "IOOBE_FORMATTER"), (41, u "(IILjava/util/function/BiFunction;)I")] 15

def k10m0 : Method := { name := "<init>", desc := "()V", sig := { parameters := [], returnType := none }, accessFlags := 1, code := none }
def k10c1 : Code := { maxStack := 3, maxLocals := 3, code := jdk_41_method_11_code, exceptionTable := #[], attributes := #[] }
def k10m1 : Method := { name := "checkIndex", desc := "(IILjava/util/function/BiFunction;)I", sig := { parameters := [.int, .int, (.object "java/util/function/BiFunction")], returnType := some .int }, accessFlags := 9, code := some k10c1 }
/-- jdk/internal/util/Preconditions -/
def k10 : Class := { plain "jdk/internal/util/Preconditions" (some 0) with
  accessFlags := 33
  interfaces := #[]
  cf := some (fileOf pool10 24 #[.nestMembers #[55, 131, 125, 114]] #[{ accessFlags := 1, nameIndex := 5, descriptorIndex := 6, attributes := #[] }, { accessFlags := 9, nameIndex := 33, descriptorIndex := 178, attributes := #[] }] 33 2 #[] #[{ accessFlags := 25, nameIndex := 123, descriptorIndex := 124, attributes := #[] }, { accessFlags := 25, nameIndex := 130, descriptorIndex := 124, attributes := #[] }, { accessFlags := 25, nameIndex := 136, descriptorIndex := 124, attributes := #[] }])
  fields := #[{ name := "SIOOBE_FORMATTER", type := (.object "java/util/function/BiFunction"), accessFlags := 25, slot := 0, constantValue := 0 }, { name := "AIOOBE_FORMATTER", type := (.object "java/util/function/BiFunction"), accessFlags := 25, slot := 1, constantValue := 0 }, { name := "IOOBE_FORMATTER", type := (.object "java/util/function/BiFunction"), accessFlags := 25, slot := 2, constantValue := 0 }]
  methods := #[k10m0, k10m1]
  instanceTypes := #[]
  staticTypes := #[(.object "java/util/function/BiFunction"), (.object "java/util/function/BiFunction"), (.object "java/util/function/BiFunction")]
  resolved := Array.replicate 194 none
  statics := some 2 }

def pool11 : Array CpInfo := pool [(1, .class_ 2), (0, u "java/lang/Character"), (18, u "value"), (0, u "C"), (19, .class_ 44), (1, u "java/lang/Object"), (3, .class_ 50), (1, u "java/lang/Character$CharacterCache"), (22, .integer 65536), (1, .integer 55296), (0, .integer 56320), (0, .integer 57344), (2, u "isHighSurrogate"), (0, u "(C)Z"), (2, u "isLowSurrogate"), (0, .integer 4238353408), (12, u "toCodePoint"), (0, u "(CC)I"), (74, u "(I)I"), (109, u "$assertionsDisabled"), (0, u "Z"), (21, .class_ 309), (1, u "java/lang/Character$UnicodeBlock"), (73, u "TYPE"), (0, u "Ljava/lang/Class;"), (0, .class_ 386), (0, u "java/io/Serializable"), (0, .class_ 388), (0, u "java/lang/Comparable"), (0, .class_ 390), (0, u "java/lang/constant/Constable"), (0, u "MIN_RADIX"), (0, u "I"), (2, u "MAX_RADIX"), (1, u "MIN_VALUE"), (1, u "MAX_VALUE"), (3, u "UNASSIGNED"), (0, u "B"), (0, u "UPPERCASE_LETTER"), (1, u "LOWERCASE_LETTER"), (0, u "TITLECASE_LETTER"), (1, u "MODIFIER_LETTER"), (1, u "OTHER_LETTER"), (1, u "NON_SPACING_MARK"), (1, u "ENCLOSING_MARK"), (1, u "COMBINING_SPACING_MARK"), (1, u "DECIMAL_DIGIT_NUMBER"), (1, u "LETTER_NUMBER"), (1, u "OTHER_NUMBER"), (1, u "SPACE_SEPARATOR"), (1, u "LINE_SEPARATOR"), (1, u "PARAGRAPH_SEPARATOR"), (1, u "CONTROL"), (1, u "FORMAT"), (1, u "PRIVATE_USE"), (1, u "SURROGATE"), (1, u "DASH_PUNCTUATION"), (1, u "START_PUNCTUATION"), (1, u "END_PUNCTUATION"), (1, u "CONNECTOR_PUNCTUATION"), (1, u "OTHER_PUNCTUATION"), (1, u "MATH_SYMBOL"), (1, u "CURRENCY_SYMBOL"), (1, u "MODIFIER_SYMBOL"), (1, u "OTHER_SYMBOL"), (1, u "INITIAL_QUOTE_PUNCTUATION"), (1, u "FINAL_QUOTE_PUNCTUATION"), (1, u "ERROR"), (1, u "DIRECTIONALITY_UNDEFINED"), (0, u "DIRECTIONALITY_LEFT_TO_RIGHT"), (0, u "DIRECTIONALITY_RIGHT_TO_LEFT"), (0, u "DIRECTIONALITY_RIGHT_TO_LEFT_ARABIC"), (0, u "DIRECTIONALITY_EUROPEAN_NUMBER"), (0, u "DIRECTIONALITY_EUROPEAN_NUMBER_SEPARATOR"), (0, u "DIRECTIONALITY_EUROPEAN_NUMBER_TERMINATOR"), (0, u "DIRECTIONALITY_ARABIC_NUMBER"), (0, u "DIRECTIONALITY_COMMON_NUMBER_SEPARATOR"), (0, u "DIRECTIONALITY_NONSPACING_MARK"), (0, u "DIRECTIONALITY_BOUNDARY_NEUTRAL"), (0, u "DIRECTIONALITY_PARAGRAPH_SEPARATOR"), (0, u "DIRECTIONALITY_SEGMENT_SEPARATOR"), (0, u "DIRECTIONALITY_WHITESPACE"), (0, u "DIRECTIONALITY_OTHER_NEUTRALS"), (0, u "DIRECTIONALITY_LEFT_TO_RIGHT_EMBEDDING"), (0, u "DIRECTIONALITY_LEFT_TO_RIGHT_OVERRIDE"), (0, u "DIRECTIONALITY_RIGHT_TO_LEFT_EMBEDDING"), (0, u "DIRECTIONALITY_RIGHT_TO_LEFT_OVERRIDE"), (1, u "DIRECTIONALITY_POP_DIRECTIONAL_FORMAT"), (0, u "DIRECTIONALITY_LEFT_TO_RIGHT_ISOLATE"), (0, u "DIRECTIONALITY_RIGHT_TO_LEFT_ISOLATE"), (0, u "DIRECTIONALITY_FIRST_STRONG_ISOLATE"), (0, u "DIRECTIONALITY_POP_DIRECTIONAL_ISOLATE"), (0, u "MIN_HIGH_SURROGATE"), (0, u "MAX_HIGH_SURROGATE"), (1, u "MIN_LOW_SURROGATE"), (0, u "MAX_LOW_SURROGATE"), (1, u "MIN_SURROGATE"), (0, u "MAX_SURROGATE"), (0, u "MIN_SUPPLEMENTARY_CODE_POINT"), (0, u "MIN_CODE_POINT"), (0, u "MAX_CODE_POINT"), (1, u "serialVersionUID"), (0, u "J"), (2, u "SIZE"), (0, u "BYTES"), (29, u "charCount"), (58, .class_ 596), (0, u "java/lang/Character$UnicodeScript"), (0, .class_ 598), (0, u "java/lang/Character$Subset")] 5

def k11c0 : Code := { maxStack := 2, maxLocals := 1, code := jdk_89_method_14_code, exceptionTable := #[], attributes := #[] }
def k11m0 : Method := { name := "isHighSurrogate", desc := "(C)Z", sig := { parameters := [.char], returnType := some .boolean }, accessFlags := 9, code := some k11c0 }
def k11c1 : Code := { maxStack := 2, maxLocals := 1, code := jdk_89_method_15_code, exceptionTable := #[], attributes := #[] }
def k11m1 : Method := { name := "isLowSurrogate", desc := "(C)Z", sig := { parameters := [.char], returnType := some .boolean }, accessFlags := 9, code := some k11c1 }
def k11c2 : Code := { maxStack := 2, maxLocals := 1, code := jdk_89_method_18_code, exceptionTable := #[], attributes := #[] }
def k11m2 : Method := { name := "charCount", desc := "(I)I", sig := { parameters := [.int], returnType := some .int }, accessFlags := 9, code := some k11c2 }
def k11c3 : Code := { maxStack := 2, maxLocals := 2, code := jdk_89_method_19_code, exceptionTable := #[], attributes := #[] }
def k11m3 : Method := { name := "toCodePoint", desc := "(CC)I", sig := { parameters := [.char, .char], returnType := some .int }, accessFlags := 9, code := some k11c3 }
/-- java/lang/Character -/
def k11 : Class := { plain "java/lang/Character" (some 0) with
  accessFlags := 49
  interfaces := #[2, 3, 5]
  cf := some (fileOf pool11 1 #[.nestMembers #[48, 595, 307, 597]] #[{ accessFlags := 9, nameIndex := 80, descriptorIndex := 81, attributes := #[] }, { accessFlags := 9, nameIndex := 84, descriptorIndex := 81, attributes := #[] }, { accessFlags := 9, nameIndex := 536, descriptorIndex := 174, attributes := #[] }, { accessFlags := 9, nameIndex := 98, descriptorIndex := 99, attributes := #[] }] 49 42 #[385, 387, 389] #[{ accessFlags := 25, nameIndex := 391, descriptorIndex := 392, attributes := #[] }, { accessFlags := 25, nameIndex := 395, descriptorIndex := 392, attributes := #[] }, { accessFlags := 25, nameIndex := 397, descriptorIndex := 22, attributes := #[] }, { accessFlags := 25, nameIndex := 399, descriptorIndex := 22, attributes := #[] }, { accessFlags := 25, nameIndex := 383, descriptorIndex := 384, attributes := #[] }, { accessFlags := 25, nameIndex := 403, descriptorIndex := 404, attributes := #[] }, { accessFlags := 25, nameIndex := 405, descriptorIndex := 404, attributes := #[] }, { accessFlags := 25, nameIndex := 407, descriptorIndex := 404, attributes := #[] }, { accessFlags := 25, nameIndex := 408, descriptorIndex := 404, attributes := #[] }, { accessFlags := 25, nameIndex := 410, descriptorIndex := 404, attributes := #[] }, { accessFlags := 25, nameIndex := 412, descriptorIndex := 404, attributes := #[] }, { accessFlags := 25, nameIndex := 414, descriptorIndex := 404, attributes := #[] }, { accessFlags := 25, nameIndex := 416, descriptorIndex := 404, attributes := #[] }, { accessFlags := 25, nameIndex := 418, descriptorIndex := 404, attributes := #[] }, { accessFlags := 25, nameIndex := 420, descriptorIndex := 404, attributes := #[] }, { accessFlags := 25, nameIndex := 422, descriptorIndex := 404, attributes := #[] }, { accessFlags := 25, nameIndex := 424, descriptorIndex := 404, attributes := #[] }, { accessFlags := 25, nameIndex := 426, descriptorIndex := 404, attributes := #[] }, { accessFlags := 25, nameIndex := 428, descriptorIndex := 404, attributes := #[] }, { accessFlags := 25, nameIndex := 430, descriptorIndex := 404, attributes := #[] }, { accessFlags := 25, nameIndex := 432, descriptorIndex := 404, attributes := #[] }, { accessFlags := 25, nameIndex := 434, descriptorIndex := 404, attributes := #[] }, { accessFlags := 25, nameIndex := 436, descriptorIndex := 404, attributes := #[] }, { accessFlags := 25, nameIndex := 438, descriptorIndex := 404, attributes := #[] }, { accessFlags := 25, nameIndex := 440, descriptorIndex := 404, attributes := #[] }, { accessFlags := 25, nameIndex := 442, descriptorIndex := 404, attributes := #[] }, { accessFlags := 25, nameIndex := 444, descriptorIndex := 404, attributes := #[] }, { accessFlags := 25, nameIndex := 446, descriptorIndex := 404, attributes := #[] }, { accessFlags := 25, nameIndex := 448, descriptorIndex := 404, attributes := #[] }, { accessFlags := 25, nameIndex := 450, descriptorIndex := 404, attributes := #[] }, { accessFlags := 25, nameIndex := 452, descriptorIndex := 404, attributes := #[] }, { accessFlags := 25, nameIndex := 454, descriptorIndex := 404, attributes := #[] }, { accessFlags := 25, nameIndex := 456, descriptorIndex := 404, attributes := #[] }, { accessFlags := 25, nameIndex := 458, descriptorIndex := 404, attributes := #[] }, { accessFlags := 25, nameIndex := 460, descriptorIndex := 404, attributes := #[] }, { accessFlags := 24, nameIndex := 462, descriptorIndex := 392, attributes := #[] }, { accessFlags := 25, nameIndex := 464, descriptorIndex := 404, attributes := #[] }, { accessFlags := 25, nameIndex := 465, descriptorIndex := 404, attributes := #[] }, { accessFlags := 25, nameIndex := 466, descriptorIndex := 404, attributes := #[] }, { accessFlags := 25, nameIndex := 467, descriptorIndex := 404, attributes := #[] }, { accessFlags := 25, nameIndex := 468, descriptorIndex := 404, attributes := #[] }, { accessFlags := 25, nameIndex := 469, descriptorIndex := 404, attributes := #[] }, { accessFlags := 25, nameIndex := 470, descriptorIndex := 404, attributes := #[] }, { accessFlags := 25, nameIndex := 471, descriptorIndex := 404, attributes := #[] }, { accessFlags := 25, nameIndex := 472, descriptorIndex := 404, attributes := #[] }, { accessFlags := 25, nameIndex := 473, descriptorIndex := 404, attributes := #[] }, { accessFlags := 25, nameIndex := 474, descriptorIndex := 404, attributes := #[] }, { accessFlags := 25, nameIndex := 475, descriptorIndex := 404, attributes := #[] }, { accessFlags := 25, nameIndex := 476, descriptorIndex := 404, attributes := #[] }, { accessFlags := 25, nameIndex := 477, descriptorIndex := 404, attributes := #[] }, { accessFlags := 25, nameIndex := 478, descriptorIndex := 404, attributes := #[] }, { accessFlags := 25, nameIndex := 479, descriptorIndex := 404, attributes := #[] }, { accessFlags := 25, nameIndex := 480, descriptorIndex := 404, attributes := #[] }, { accessFlags := 25, nameIndex := 481, descriptorIndex := 404, attributes := #[] }, { accessFlags := 25, nameIndex := 482, descriptorIndex := 404, attributes := #[] }, { accessFlags := 25, nameIndex := 484, descriptorIndex := 404, attributes := #[] }, { accessFlags := 25, nameIndex := 485, descriptorIndex := 404, attributes := #[] }, { accessFlags := 25, nameIndex := 486, descriptorIndex := 404, attributes := #[] }, { accessFlags := 25, nameIndex := 487, descriptorIndex := 404, attributes := #[] }, { accessFlags := 25, nameIndex := 488, descriptorIndex := 404, attributes := #[] }, { accessFlags := 25, nameIndex := 489, descriptorIndex := 22, attributes := #[] }, { accessFlags := 25, nameIndex := 490, descriptorIndex := 22, attributes := #[] }, { accessFlags := 25, nameIndex := 492, descriptorIndex := 22, attributes := #[] }, { accessFlags := 25, nameIndex := 493, descriptorIndex := 22, attributes := #[] }, { accessFlags := 25, nameIndex := 495, descriptorIndex := 22, attributes := #[] }, { accessFlags := 25, nameIndex := 496, descriptorIndex := 22, attributes := #[] }, { accessFlags := 25, nameIndex := 497, descriptorIndex := 392, attributes := #[] }, { accessFlags := 25, nameIndex := 498, descriptorIndex := 392, attributes := #[] }, { accessFlags := 25, nameIndex := 499, descriptorIndex := 392, attributes := #[] }, { accessFlags := 18, nameIndex := 21, descriptorIndex := 22, attributes := #[] }, { accessFlags := 26, nameIndex := 501, descriptorIndex := 502, attributes := #[] }, { accessFlags := 25, nameIndex := 505, descriptorIndex := 392, attributes := #[] }, { accessFlags := 25, nameIndex := 506, descriptorIndex := 392, attributes := #[] }, { accessFlags := 4120, nameIndex := 284, descriptorIndex := 285, attributes := #[] }])
  fields := #[{ name := "MIN_RADIX", type := .int, accessFlags := 25, slot := 0, constantValue := 0 }, { name := "MAX_RADIX", type := .int, accessFlags := 25, slot := 1, constantValue := 0 }, { name := "MIN_VALUE", type := .char, accessFlags := 25, slot := 2, constantValue := 0 }, { name := "MAX_VALUE", type := .char, accessFlags := 25, slot := 3, constantValue := 0 }, { name := "TYPE", type := (.object "java/lang/Class"), accessFlags := 25, slot := 4, constantValue := 0 }, { name := "UNASSIGNED", type := .byte, accessFlags := 25, slot := 5, constantValue := 0 }, { name := "UPPERCASE_LETTER", type := .byte, accessFlags := 25, slot := 6, constantValue := 0 }, { name := "LOWERCASE_LETTER", type := .byte, accessFlags := 25, slot := 7, constantValue := 0 }, { name := "TITLECASE_LETTER", type := .byte, accessFlags := 25, slot := 8, constantValue := 0 }, { name := "MODIFIER_LETTER", type := .byte, accessFlags := 25, slot := 9, constantValue := 0 }, { name := "OTHER_LETTER", type := .byte, accessFlags := 25, slot := 10, constantValue := 0 }, { name := "NON_SPACING_MARK", type := .byte, accessFlags := 25, slot := 11, constantValue := 0 }, { name := "ENCLOSING_MARK", type := .byte, accessFlags := 25, slot := 12, constantValue := 0 }, { name := "COMBINING_SPACING_MARK", type := .byte, accessFlags := 25, slot := 13, constantValue := 0 }, { name := "DECIMAL_DIGIT_NUMBER", type := .byte, accessFlags := 25, slot := 14, constantValue := 0 }, { name := "LETTER_NUMBER", type := .byte, accessFlags := 25, slot := 15, constantValue := 0 }, { name := "OTHER_NUMBER", type := .byte, accessFlags := 25, slot := 16, constantValue := 0 }, { name := "SPACE_SEPARATOR", type := .byte, accessFlags := 25, slot := 17, constantValue := 0 }, { name := "LINE_SEPARATOR", type := .byte, accessFlags := 25, slot := 18, constantValue := 0 }, { name := "PARAGRAPH_SEPARATOR", type := .byte, accessFlags := 25, slot := 19, constantValue := 0 }, { name := "CONTROL", type := .byte, accessFlags := 25, slot := 20, constantValue := 0 }, { name := "FORMAT", type := .byte, accessFlags := 25, slot := 21, constantValue := 0 }, { name := "PRIVATE_USE", type := .byte, accessFlags := 25, slot := 22, constantValue := 0 }, { name := "SURROGATE", type := .byte, accessFlags := 25, slot := 23, constantValue := 0 }, { name := "DASH_PUNCTUATION", type := .byte, accessFlags := 25, slot := 24, constantValue := 0 }, { name := "START_PUNCTUATION", type := .byte, accessFlags := 25, slot := 25, constantValue := 0 }, { name := "END_PUNCTUATION", type := .byte, accessFlags := 25, slot := 26, constantValue := 0 }, { name := "CONNECTOR_PUNCTUATION", type := .byte, accessFlags := 25, slot := 27, constantValue := 0 }, { name := "OTHER_PUNCTUATION", type := .byte, accessFlags := 25, slot := 28, constantValue := 0 }, { name := "MATH_SYMBOL", type := .byte, accessFlags := 25, slot := 29, constantValue := 0 }, { name := "CURRENCY_SYMBOL", type := .byte, accessFlags := 25, slot := 30, constantValue := 0 }, { name := "MODIFIER_SYMBOL", type := .byte, accessFlags := 25, slot := 31, constantValue := 0 }, { name := "OTHER_SYMBOL", type := .byte, accessFlags := 25, slot := 32, constantValue := 0 }, { name := "INITIAL_QUOTE_PUNCTUATION", type := .byte, accessFlags := 25, slot := 33, constantValue := 0 }, { name := "FINAL_QUOTE_PUNCTUATION", type := .byte, accessFlags := 25, slot := 34, constantValue := 0 }, { name := "ERROR", type := .int, accessFlags := 24, slot := 35, constantValue := 0 }, { name := "DIRECTIONALITY_UNDEFINED", type := .byte, accessFlags := 25, slot := 36, constantValue := 0 }, { name := "DIRECTIONALITY_LEFT_TO_RIGHT", type := .byte, accessFlags := 25, slot := 37, constantValue := 0 }, { name := "DIRECTIONALITY_RIGHT_TO_LEFT", type := .byte, accessFlags := 25, slot := 38, constantValue := 0 }, { name := "DIRECTIONALITY_RIGHT_TO_LEFT_ARABIC", type := .byte, accessFlags := 25, slot := 39, constantValue := 0 }, { name := "DIRECTIONALITY_EUROPEAN_NUMBER", type := .byte, accessFlags := 25, slot := 40, constantValue := 0 }, { name := "DIRECTIONALITY_EUROPEAN_NUMBER_SEPARATOR", type := .byte, accessFlags := 25, slot := 41, constantValue := 0 }, { name := "DIRECTIONALITY_EUROPEAN_NUMBER_TERMINATOR", type := .byte, accessFlags := 25, slot := 42, constantValue := 0 }, { name := "DIRECTIONALITY_ARABIC_NUMBER", type := .byte, accessFlags := 25, slot := 43, constantValue := 0 }, { name := "DIRECTIONALITY_COMMON_NUMBER_SEPARATOR", type := .byte, accessFlags := 25, slot := 44, constantValue := 0 }, { name := "DIRECTIONALITY_NONSPACING_MARK", type := .byte, accessFlags := 25, slot := 45, constantValue := 0 }, { name := "DIRECTIONALITY_BOUNDARY_NEUTRAL", type := .byte, accessFlags := 25, slot := 46, constantValue := 0 }, { name := "DIRECTIONALITY_PARAGRAPH_SEPARATOR", type := .byte, accessFlags := 25, slot := 47, constantValue := 0 }, { name := "DIRECTIONALITY_SEGMENT_SEPARATOR", type := .byte, accessFlags := 25, slot := 48, constantValue := 0 }, { name := "DIRECTIONALITY_WHITESPACE", type := .byte, accessFlags := 25, slot := 49, constantValue := 0 }, { name := "DIRECTIONALITY_OTHER_NEUTRALS", type := .byte, accessFlags := 25, slot := 50, constantValue := 0 }, { name := "DIRECTIONALITY_LEFT_TO_RIGHT_EMBEDDING", type := .byte, accessFlags := 25, slot := 51, constantValue := 0 }, { name := "DIRECTIONALITY_LEFT_TO_RIGHT_OVERRIDE", type := .byte, accessFlags := 25, slot := 52, constantValue := 0 }, { name := "DIRECTIONALITY_RIGHT_TO_LEFT_EMBEDDING", type := .byte, accessFlags := 25, slot := 53, constantValue := 0 }, { name := "DIRECTIONALITY_RIGHT_TO_LEFT_OVERRIDE", type := .byte, accessFlags := 25, slot := 54, constantValue := 0 }, { name := "DIRECTIONALITY_POP_DIRECTIONAL_FORMAT", type := .byte, accessFlags := 25, slot := 55, constantValue := 0 }, { name := "DIRECTIONALITY_LEFT_TO_RIGHT_ISOLATE", type := .byte, accessFlags := 25, slot := 56, constantValue := 0 }, { name := "DIRECTIONALITY_RIGHT_TO_LEFT_ISOLATE", type := .byte, accessFlags := 25, slot := 57, constantValue := 0 }, { name := "DIRECTIONALITY_FIRST_STRONG_ISOLATE", type := .byte, accessFlags := 25, slot := 58, constantValue := 0 }, { name := "DIRECTIONALITY_POP_DIRECTIONAL_ISOLATE", type := .byte, accessFlags := 25, slot := 59, constantValue := 0 }, { name := "MIN_HIGH_SURROGATE", type := .char, accessFlags := 25, slot := 60, constantValue := 0 }, { name := "MAX_HIGH_SURROGATE", type := .char, accessFlags := 25, slot := 61, constantValue := 0 }, { name := "MIN_LOW_SURROGATE", type := .char, accessFlags := 25, slot := 62, constantValue := 0 }, { name := "MAX_LOW_SURROGATE", type := .char, accessFlags := 25, slot := 63, constantValue := 0 }, { name := "MIN_SURROGATE", type := .char, accessFlags := 25, slot := 64, constantValue := 0 }, { name := "MAX_SURROGATE", type := .char, accessFlags := 25, slot := 65, constantValue := 0 }, { name := "MIN_SUPPLEMENTARY_CODE_POINT", type := .int, accessFlags := 25, slot := 66, constantValue := 0 }, { name := "MIN_CODE_POINT", type := .int, accessFlags := 25, slot := 67, constantValue := 0 }, { name := "MAX_CODE_POINT", type := .int, accessFlags := 25, slot := 68, constantValue := 0 }, { name := "value", type := .char, accessFlags := 18, slot := 0, constantValue := 0 }, { name := "serialVersionUID", type := .long, accessFlags := 26, slot := 69, constantValue := 0 }, { name := "SIZE", type := .int, accessFlags := 25, slot := 70, constantValue := 0 }, { name := "BYTES", type := .int, accessFlags := 25, slot := 71, constantValue := 0 }, { name := "$assertionsDisabled", type := .boolean, accessFlags := 4120, slot := 72, constantValue := 0 }]
  methods := #[k11m0, k11m1, k11m2, k11m3]
  instanceTypes := #[.char]
  staticTypes := #[.int, .int, .char, .char, (.object "java/lang/Class"), .byte, .byte, .byte, .byte, .byte, .byte, .byte, .byte, .byte, .byte, .byte, .byte, .byte, .byte, .byte, .byte, .byte, .byte, .byte, .byte, .byte, .byte, .byte, .byte, .byte, .byte, .byte, .byte, .byte, .byte, .int, .byte, .byte, .byte, .byte, .byte, .byte, .byte, .byte, .byte, .byte, .byte, .byte, .byte, .byte, .byte, .byte, .byte, .byte, .byte, .byte, .byte, .byte, .byte, .byte, .char, .char, .char, .char, .char, .char, .int, .int, .int, .long, .int, .int, .boolean]
  resolved := Array.replicate 604 none
  statics := none }

def pool12 : Array CpInfo := pool [(4, .class_ 6), (1, u "java/lang/Object"), (0, u "<init>"), (0, u "()V"), (5, .class_ 16), (1, u "java/lang/StringLatin1"), (104, u "$assertionsDisabled"), (0, u "Z"), (98, .class_ 223), (1, u "java/lang/StringLatin1$LinesSpliterator"), (166, .class_ 391), (0, u "java/lang/StringLatin1$CharsSpliterator")] 3

def k12m0 : Method := { name := "<init>", desc := "()V", sig := { parameters := [], returnType := none }, accessFlags := 0, code := none }
/-- java/lang/StringLatin1 -/
def k12 : Class := { plain "java/lang/StringLatin1" (some 0) with
  accessFlags := 48
  interfaces := #[]
  cf := some (fileOf pool12 14 #[.nestMembers #[390, 221]] #[{ accessFlags := 0, nameIndex := 7, descriptorIndex := 8, attributes := #[] }] 48 4 #[] #[{ accessFlags := 4120, nameIndex := 121, descriptorIndex := 122, attributes := #[] }])
  fields := #[{ name := "$assertionsDisabled", type := .boolean, accessFlags := 4120, slot := 0, constantValue := 0 }]
  methods := #[k12m0]
  instanceTypes := #[]
  staticTypes := #[.boolean]
  resolved := Array.replicate 395 none
  statics := none }

def pool13 : Array CpInfo := pool [(9, u "<init>"), (6, .class_ 18), (1, u "java/lang/Object"), (0, u "()V"), (1, .class_ 23), (1, u "jdk/internal/util/ArraysSupport"), (0, u "LOG2_ARRAY_LONG_INDEX_SCALE"), (0, u "I"), (2, u "U"), (0, u "Ljdk/internal/misc/Unsafe;"), (8, u "BIG_ENDIAN"), (0, u "Z"), (8, u "LOG2_BYTE_BIT_SIZE"), (4, u "LOG2_ARRAY_INT_INDEX_SCALE"), (54, u "JLA"), (0, u "Ljdk/internal/access/JavaLangAccess;"), (11, u "LOG2_ARRAY_BOOLEAN_INDEX_SCALE"), (9, u "LOG2_ARRAY_BYTE_INDEX_SCALE"), (5, u "LOG2_ARRAY_CHAR_INDEX_SCALE"), (5, u "LOG2_ARRAY_SHORT_INDEX_SCALE"), (18, u "LOG2_ARRAY_FLOAT_INDEX_SCALE"), (24, u "LOG2_ARRAY_DOUBLE_INDEX_SCALE"), (89, u "T_BOOLEAN"), (2, u "T_CHAR"), (1, u "T_FLOAT"), (1, u "T_DOUBLE"), (1, u "T_BYTE"), (1, u "T_SHORT"), (1, u "T_INT"), (1, u "T_LONG"), (1, u "SOFT_MAX_ARRAY_LENGTH")] 83

def k13m0 : Method := { name := "<init>", desc := "()V", sig := { parameters := [], returnType := none }, accessFlags := 2, code := none }
/-- jdk/internal/util/ArraysSupport -/
def k13 : Class := { plain "jdk/internal/util/ArraysSupport" (some 0) with
  accessFlags := 33
  interfaces := #[]
  cf := some (fileOf pool13 21 #[] #[{ accessFlags := 2, nameIndex := 9, descriptorIndex := 19, attributes := #[] }] 33 16 #[] #[{ accessFlags := 24, nameIndex := 28, descriptorIndex := 29, attributes := #[] }, { accessFlags := 26, nameIndex := 38, descriptorIndex := 39, attributes := #[] }, { accessFlags := 25, nameIndex := 121, descriptorIndex := 25, attributes := #[] }, { accessFlags := 25, nameIndex := 131, descriptorIndex := 25, attributes := #[] }, { accessFlags := 25, nameIndex := 137, descriptorIndex := 25, attributes := #[] }, { accessFlags := 25, nameIndex := 143, descriptorIndex := 25, attributes := #[] }, { accessFlags := 25, nameIndex := 53, descriptorIndex := 25, attributes := #[] }, { accessFlags := 25, nameIndex := 24, descriptorIndex := 25, attributes := #[] }, { accessFlags := 25, nameIndex := 162, descriptorIndex := 25, attributes := #[] }, { accessFlags := 25, nameIndex := 187, descriptorIndex := 25, attributes := #[] }, { accessFlags := 26, nameIndex := 48, descriptorIndex := 25, attributes := #[] }, { accessFlags := 25, nameIndex := 277, descriptorIndex := 25, attributes := #[] }, { accessFlags := 25, nameIndex := 280, descriptorIndex := 25, attributes := #[] }, { accessFlags := 25, nameIndex := 282, descriptorIndex := 25, attributes := #[] }, { accessFlags := 25, nameIndex := 284, descriptorIndex := 25, attributes := #[] }, { accessFlags := 25, nameIndex := 286, descriptorIndex := 25, attributes := #[] }, { accessFlags := 25, nameIndex := 288, descriptorIndex := 25, attributes := #[] }, { accessFlags := 25, nameIndex := 290, descriptorIndex := 25, attributes := #[] }, { accessFlags := 25, nameIndex := 292, descriptorIndex := 25, attributes := #[] }, { accessFlags := 26, nameIndex := 108, descriptorIndex := 109, attributes := #[] }, { accessFlags := 25, nameIndex := 294, descriptorIndex := 25, attributes := #[] }])
  fields := #[{ name := "U", type := (.object "jdk/internal/misc/Unsafe"), accessFlags := 24, slot := 0, constantValue := 0 }, { name := "BIG_ENDIAN", type := .boolean, accessFlags := 26, slot := 1, constantValue := 0 }, { name := "LOG2_ARRAY_BOOLEAN_INDEX_SCALE", type := .int, accessFlags := 25, slot := 2, constantValue := 0 }, { name := "LOG2_ARRAY_BYTE_INDEX_SCALE", type := .int, accessFlags := 25, slot := 3, constantValue := 0 }, { name := "LOG2_ARRAY_CHAR_INDEX_SCALE", type := .int, accessFlags := 25, slot := 4, constantValue := 0 }, { name := "LOG2_ARRAY_SHORT_INDEX_SCALE", type := .int, accessFlags := 25, slot := 5, constantValue := 0 }, { name := "LOG2_ARRAY_INT_INDEX_SCALE", type := .int, accessFlags := 25, slot := 6, constantValue := 0 }, { name := "LOG2_ARRAY_LONG_INDEX_SCALE", type := .int, accessFlags := 25, slot := 7, constantValue := 0 }, { name := "LOG2_ARRAY_FLOAT_INDEX_SCALE", type := .int, accessFlags := 25, slot := 8, constantValue := 0 }, { name := "LOG2_ARRAY_DOUBLE_INDEX_SCALE", type := .int, accessFlags := 25, slot := 9, constantValue := 0 }, { name := "LOG2_BYTE_BIT_SIZE", type := .int, accessFlags := 26, slot := 10, constantValue := 0 }, { name := "T_BOOLEAN", type := .int, accessFlags := 25, slot := 11, constantValue := 0 }, { name := "T_CHAR", type := .int, accessFlags := 25, slot := 12, constantValue := 0 }, { name := "T_FLOAT", type := .int, accessFlags := 25, slot := 13, constantValue := 0 }, { name := "T_DOUBLE", type := .int, accessFlags := 25, slot := 14, constantValue := 0 }, { name := "T_BYTE", type := .int, accessFlags := 25, slot := 15, constantValue := 0 }, { name := "T_SHORT", type := .int, accessFlags := 25, slot := 16, constantValue := 0 }, { name := "T_INT", type := .int, accessFlags := 25, slot := 17, constantValue := 0 }, { name := "T_LONG", type := .int, accessFlags := 25, slot := 18, constantValue := 0 }, { name := "JLA", type := (.object "jdk/internal/access/JavaLangAccess"), accessFlags := 26, slot := 19, constantValue := 0 }, { name := "SOFT_MAX_ARRAY_LENGTH", type := .int, accessFlags := 25, slot := 20, constantValue := 0 }]
  methods := #[k13m0]
  instanceTypes := #[]
  staticTypes := #[(.object "jdk/internal/misc/Unsafe"), .boolean, .int, .int, .int, .int, .int, .int, .int, .int, .int, .int, .int, .int, .int, .int, .int, .int, .int, (.object "jdk/internal/access/JavaLangAccess"), .int]
  resolved := Array.replicate 378 none
  statics := none }

def pool14 : Array CpInfo := pool [(1, u "java/lang/Cloneable"), (0, .class_ 1), (0, u "java/lang/Object"), (0, .class_ 3)] 3

/-- java/lang/Cloneable -/
def k14 : Class := { plain "java/lang/Cloneable" (some 0) with
  accessFlags := 1537
  interfaces := #[]
  cf := some (fileOf pool14 2 #[] #[] 1537 4 #[] #[])
  fields := #[]
  methods := #[]
  instanceTypes := #[]
  staticTypes := #[]
  resolved := Array.replicate 8 none
  statics := none }

/-- the primitive byte -/
def k15 : Class := { plain "byte" none with kind := .primitive 'B', accessFlags := 0x411 }
/-- [B -/
def k16 : Class := { plain "[B" (some 0) with kind := .array 15 .byte, interfaces := #[14, 2], accessFlags := 1041 }

/-- the primitive char -/
def k17 : Class := { plain "char" none with kind := .primitive 'C', accessFlags := 0x411 }
/-- [C -/
def k18 : Class := { plain "[C" (some 0) with kind := .array 17 .char, interfaces := #[14, 2], accessFlags := 1041 }

/-- the primitive int -/
def k19 : Class := { plain "int" none with kind := .primitive 'I', accessFlags := 0x411 }
/-- [I -/
def k20 : Class := { plain "[I" (some 0) with kind := .array 19 .int, interfaces := #[14, 2], accessFlags := 1041 }

def heap : Heap := #[{ cls := 7, slots := #[.long 0, .int 1, .null, .int 0, .null, .int 0, .int 0], vm := .statics 7 },
  { cls := 8, slots := #[.int 0, .int 8, .int 0, .int 1], vm := .statics 8 },
  { cls := 10, slots := #[.null, .null, .null], vm := .statics 10 }]
def classes : Array Class := #[k0, k1, k2, k3, k4, k5, k6, k7, k8, k9, k10, k11, k12, k13, k14, k15, k16, k17, k18, k19, k20]
def interned : List (Array UInt16 × Addr) := []
def slotsUsed : Nat := 14
def theMethod : MethodId := ⟨1, 1⟩
def args0 : Array Value := #[.int 3, .int 65, .int 66, .int 67]
def aboutOver (below : List Frame) : State where
  vm := { classes := classes, interned := interned.toArray }
  heap := heap
  slotsUsed := slotsUsed
  threads := #[{ frames := .invoking theMethod args0 :: below }]
def below0 : List Frame := [.native { method := ⟨0, 0⟩, args := #[] }]
def about1 : State := aboutOver below0
def p0 : Program := .bare "" "" ""
def e0 : Env := launch0.env 0 0 0
theorem w_frames : about1.frames = Frame.invoking theMethod args0 :: below0 := rfl
set_option maxRecDepth 65536 in
theorem w_args : argsFit about1.vm theMethod args0 = true := by decide +kernel
set_option maxRecDepth 65536 in
theorem w_heap : heapFits about1 = true := by decide +kernel
set_option maxRecDepth 65536 in
theorem w_runnable : about1.curStatus? = some .runnable := by decide +kernel
set_option maxRecDepth 65536 in
theorem w_alone : about1.alone = true := by decide +kernel
set_option maxRecDepth 65536 in
theorem w_named : about1.methodNamed? x = some theMethod := by decide +kernel
set_option maxRecDepth 65536 in
theorem w_hears : about1.hears theMethod below0 = true := by decide +kernel
set_option maxRecDepth 65536 in
theorem w_ripe : about1.ripe theMethod args0 below0 = true := by decide +kernel
theorem w_running : about1.status = .running := rfl
set_option maxRecDepth 65536 in
theorem w_room : about1.hasRoom e0.platform room_1 = true :=
  launch0.hasRoom_least _ room_1 (by decide +kernel) (by decide +kernel) (by decide +kernel) (by decide +kernel) (by decide +kernel) (by decide +kernel)
theorem allAtoms_all (ts : List Jvm.Cond) (a : Array Jvm.Value) (st : Jvm.State) : (allAtoms ts).before a st = ts.all (fun c => c.before a st) := by
  induction ts with
  | nil => rfl
  | cons c t ih =>
    show (Jvm.Cond.and c (allAtoms t)).before a st = _
    rw [Jvm.Cond.before_and, ih, List.all_cons]
def words1 : List Jvm.Cond := Jvm.Cond.code x code maxLocals ret :: tables_1
/-- a 'code' word, met by the world's own term for the bytes: nothing is compared byte by byte -/
theorem code_word {y : MethodName} {bytes : ByteArray} {mx : Nat} {rt : Option FieldType} {a : Array Value} {s : State} {m : MethodId} {meth : Method} {c : Code} (h1 : s.methodNamed? y = some m) (h2 : s.vm.method? m = some meth) (h3 : meth.code = some c) (h4 : c.code = bytes)
    (h5 : (c.maxLocals == mx && c.exceptionTable.isEmpty && decide (c.maxStack ≤ mostOperands) && decide (meth.sig.returnType = rt) && !meth.locks && decide (parseMethodDescriptor y.desc = some meth.sig)) = true) : (Jvm.Cond.code y bytes mx rt).before a s = true := by
  simp only [Bool.and_eq_true, beq_iff_eq, Bool.not_eq_true', decide_eq_true_eq] at h5
  obtain ⟨⟨⟨⟨⟨g1, g2⟩, g3⟩, g4⟩, g5⟩, g6⟩ := h5
  simp [Cond.before, Cond.holds, Cond.value, h1, h2, h3, h4, g1, g2, g3, g4, g5, g6]
def isCode : Jvm.Cond → Bool
  | .code _ _ _ _ => true
  | _ => false
theorem all_split {L : List Jvm.Cond} {P : Jvm.Cond → Bool} (h1 : L.all (fun c => isCode c || P c) = true) (h2 : ∀ c ∈ L.filter isCode, P c = true) : L.all P = true := by
  refine List.all_eq_true.mpr fun c hc => ?_
  have h := List.all_eq_true.mp h1 c hc
  rcases Bool.eq_false_or_eq_true (isCode c) with hi | hi
  · exact h2 c (List.mem_filter.mpr ⟨hc, hi⟩)
  · simpa [hi] using h
set_option maxRecDepth 65536 in
theorem w_c0 : (Jvm.Cond.code x code maxLocals ret).before args0 about1 = true := code_word (m := ⟨1, 1⟩) (meth := k1m1) (c := k1c1) (by decide +kernel) rfl rfl rfl (by decide +kernel)
set_option maxRecDepth 65536 in
theorem w_c1 : (Jvm.Cond.code ({ cls := "com/example/acquire/acquire/internal/LockNamesRequireValidPinLaw", name := "draw", desc := "(I)C" } : Jvm.MethodName) method_3_code (2 : Nat) (Option.some Jvm.ClassFile.FieldType.char)).before args0 about1 = true := code_word (m := ⟨1, 2⟩) (meth := k1m2) (c := k1c2) (by decide +kernel) rfl rfl rfl (by decide +kernel)
set_option maxRecDepth 65536 in
theorem w_c2 : (Jvm.Cond.code ({ cls := "com/example/acquire/acquire/internal/LockNamesRequireValidPinLaw", name := "unpairedAt", desc := "([CI)Z" } : Jvm.MethodName) method_6_code (3 : Nat) (Option.some Jvm.ClassFile.FieldType.boolean)).before args0 about1 = true := code_word (m := ⟨1, 5⟩) (meth := k1m5) (c := k1c5) (by decide +kernel) rfl rfl rfl (by decide +kernel)
set_option maxRecDepth 65536 in
theorem w_c3 : (Jvm.Cond.code ({ cls := "com/example/acquire/acquire/internal/LockNamesRequireValidPinLaw", name := "isHigh", desc := "(C)Z" } : Jvm.MethodName) method_4_code (1 : Nat) (Option.some Jvm.ClassFile.FieldType.boolean)).before args0 about1 = true := code_word (m := ⟨1, 3⟩) (meth := k1m3) (c := k1c3) (by decide +kernel) rfl rfl rfl (by decide +kernel)
set_option maxRecDepth 65536 in
theorem w_c4 : (Jvm.Cond.code ({ cls := "com/example/acquire/acquire/internal/LockNamesRequireValidPinLaw", name := "isLow", desc := "(C)Z" } : Jvm.MethodName) method_5_code (1 : Nat) (Option.some Jvm.ClassFile.FieldType.boolean)).before args0 about1 = true := code_word (m := ⟨1, 4⟩) (meth := k1m4) (c := k1c4) (by decide +kernel) rfl rfl rfl (by decide +kernel)
set_option maxRecDepth 65536 in
theorem w_c5 : (Jvm.Cond.code ({ cls := "java/lang/String", name := "<init>", desc := "([C)V" } : Jvm.MethodName) jdk_42_method_3_code (2 : Nat) (Option.none : Option Jvm.ClassFile.FieldType)).before args0 about1 = true := code_word (m := ⟨7, 1⟩) (meth := k7m1) (c := k7c1) (by decide +kernel) rfl rfl rfl (by decide +kernel)
set_option maxRecDepth 65536 in
theorem w_c6 : (Jvm.Cond.code ({ cls := "java/lang/String", name := "<init>", desc := "([CIILjava/lang/Void;)V" } : Jvm.MethodName) jdk_42_method_149_code (6 : Nat) (Option.none : Option Jvm.ClassFile.FieldType)).before args0 about1 = true := code_word (m := ⟨7, 5⟩) (meth := k7m5) (c := k7c5) (by decide +kernel) rfl rfl rfl (by decide +kernel)
set_option maxRecDepth 65536 in
theorem w_c7 : (Jvm.Cond.code ({ cls := "java/lang/Object", name := "<init>", desc := "()V" } : Jvm.MethodName) object_method_1_code (1 : Nat) (Option.none : Option Jvm.ClassFile.FieldType)).before args0 about1 = true := code_word (m := ⟨0, 0⟩) (meth := k0m0) (c := k0c0) (by decide +kernel) rfl rfl rfl (by decide +kernel)
set_option maxRecDepth 65536 in
theorem w_c8 : (Jvm.Cond.code ({ cls := "java/lang/StringUTF16", name := "compress", desc := "([CII)[B" } : Jvm.MethodName) jdk_52_method_16_code (6 : Nat) (Option.some (Jvm.ClassFile.FieldType.array Jvm.ClassFile.FieldType.byte))).before args0 about1 = true := code_word (m := ⟨8, 9⟩) (meth := k8m9) (c := k8c9) (by decide +kernel) rfl rfl rfl (by decide +kernel)
set_option maxRecDepth 65536 in
theorem w_c9 : (Jvm.Cond.code ({ cls := "java/lang/StringUTF16", name := "compress", desc := "([CI[BII)I" } : Jvm.MethodName) jdk_52_method_21_code (7 : Nat) (Option.some Jvm.ClassFile.FieldType.int)).before args0 about1 = true := code_word (m := ⟨8, 10⟩) (meth := k8m10) (c := k8c10) (by decide +kernel) rfl rfl rfl (by decide +kernel)
set_option maxRecDepth 65536 in
theorem w_c10 : (Jvm.Cond.code ({ cls := "java/lang/StringUTF16", name := "toBytes", desc := "([CII)[B" } : Jvm.MethodName) jdk_52_method_14_code (5 : Nat) (Option.some (Jvm.ClassFile.FieldType.array Jvm.ClassFile.FieldType.byte))).before args0 about1 = true := code_word (m := ⟨8, 7⟩) (meth := k8m7) (c := k8c7) (by decide +kernel) rfl rfl rfl (by decide +kernel)
set_option maxRecDepth 65536 in
theorem w_c11 : (Jvm.Cond.code ({ cls := "java/lang/StringUTF16", name := "newBytesFor", desc := "(I)[B" } : Jvm.MethodName) jdk_52_method_2_code (1 : Nat) (Option.some (Jvm.ClassFile.FieldType.array Jvm.ClassFile.FieldType.byte))).before args0 about1 = true := code_word (m := ⟨8, 1⟩) (meth := k8m1) (c := k8c1) (by decide +kernel) rfl rfl rfl (by decide +kernel)
set_option maxRecDepth 65536 in
theorem w_c12 : (Jvm.Cond.code ({ cls := "java/lang/StringUTF16", name := "newBytesLength", desc := "(I)I" } : Jvm.MethodName) jdk_52_method_3_code (1 : Nat) (Option.some Jvm.ClassFile.FieldType.int)).before args0 about1 = true := code_word (m := ⟨8, 2⟩) (meth := k8m2) (c := k8c2) (by decide +kernel) rfl rfl rfl (by decide +kernel)
set_option maxRecDepth 65536 in
theorem w_c13 : (Jvm.Cond.code ({ cls := "java/lang/StringUTF16", name := "putChar", desc := "([BII)V" } : Jvm.MethodName) jdk_52_method_4_code (3 : Nat) (Option.none : Option Jvm.ClassFile.FieldType)).before args0 about1 = true := code_word (m := ⟨8, 3⟩) (meth := k8m3) (c := k8c3) (by decide +kernel) rfl rfl rfl (by decide +kernel)
set_option maxRecDepth 65536 in
theorem w_c14 : (Jvm.Cond.code ({ cls := "java/lang/StringUTF16", name := "getChar", desc := "([BI)C" } : Jvm.MethodName) jdk_52_method_5_code (2 : Nat) (Option.some Jvm.ClassFile.FieldType.char)).before args0 about1 = true := code_word (m := ⟨8, 4⟩) (meth := k8m4) (c := k8c4) (by decide +kernel) rfl rfl rfl (by decide +kernel)
set_option maxRecDepth 65536 in
theorem w_c15 : (Jvm.Cond.code ({ cls := "java/lang/StringUTF16", name := "coderFromArrayLen", desc := "([BI)B" } : Jvm.MethodName) jdk_52_method_15_code (2 : Nat) (Option.some Jvm.ClassFile.FieldType.byte)).before args0 about1 = true := code_word (m := ⟨8, 8⟩) (meth := k8m8) (c := k8c8) (by decide +kernel) rfl rfl rfl (by decide +kernel)
set_option maxRecDepth 65536 in
theorem w_c16 : (Jvm.Cond.code ({ cls := "com/example/acquire/acquire/internal/LockNames", name := "requireValid", desc := "(Ljava/lang/String;)Ljava/lang/String;" } : Jvm.MethodName) prog_10_method_2_code (2 : Nat) (Option.some (Jvm.ClassFile.FieldType.object "java/lang/String"))).before args0 about1 = true := code_word (m := ⟨9, 1⟩) (meth := k9m1) (c := k9c1) (by decide +kernel) rfl rfl rfl (by decide +kernel)
set_option maxRecDepth 65536 in
theorem w_c17 : (Jvm.Cond.code ({ cls := "java/lang/String", name := "isEmpty", desc := "()Z" } : Jvm.MethodName) jdk_42_method_55_code (1 : Nat) (Option.some Jvm.ClassFile.FieldType.boolean)).before args0 about1 = true := code_word (m := ⟨7, 3⟩) (meth := k7m3) (c := k7c3) (by decide +kernel) rfl rfl rfl (by decide +kernel)
set_option maxRecDepth 65536 in
theorem w_c18 : (Jvm.Cond.code ({ cls := "com/example/acquire/acquire/internal/LockNames", name := "unpairedSurrogate", desc := "(Ljava/lang/String;)I" } : Jvm.MethodName) prog_10_method_3_code (3 : Nat) (Option.some Jvm.ClassFile.FieldType.int)).before args0 about1 = true := code_word (m := ⟨9, 2⟩) (meth := k9m2) (c := k9c2) (by decide +kernel) rfl rfl rfl (by decide +kernel)
set_option maxRecDepth 65536 in
theorem w_c19 : (Jvm.Cond.code ({ cls := "java/lang/String", name := "length", desc := "()I" } : Jvm.MethodName) jdk_42_method_54_code (1 : Nat) (Option.some Jvm.ClassFile.FieldType.int)).before args0 about1 = true := code_word (m := ⟨7, 2⟩) (meth := k7m2) (c := k7c2) (by decide +kernel) rfl rfl rfl (by decide +kernel)
set_option maxRecDepth 65536 in
theorem w_c20 : (Jvm.Cond.code ({ cls := "java/lang/String", name := "coder", desc := "()B" } : Jvm.MethodName) jdk_42_method_152_code (1 : Nat) (Option.some Jvm.ClassFile.FieldType.byte)).before args0 about1 = true := code_word (m := ⟨7, 6⟩) (meth := k7m6) (c := k7c6) (by decide +kernel) rfl rfl rfl (by decide +kernel)
set_option maxRecDepth 65536 in
theorem w_c21 : (Jvm.Cond.code ({ cls := "java/lang/String", name := "codePointAt", desc := "(I)I" } : Jvm.MethodName) jdk_42_method_57_code (3 : Nat) (Option.some Jvm.ClassFile.FieldType.int)).before args0 about1 = true := code_word (m := ⟨7, 4⟩) (meth := k7m4) (c := k7c4) (by decide +kernel) rfl rfl rfl (by decide +kernel)
set_option maxRecDepth 65536 in
theorem w_c22 : (Jvm.Cond.code ({ cls := "java/lang/String", name := "isLatin1", desc := "()Z" } : Jvm.MethodName) jdk_42_method_154_code (1 : Nat) (Option.some Jvm.ClassFile.FieldType.boolean)).before args0 about1 = true := code_word (m := ⟨7, 7⟩) (meth := k7m7) (c := k7c7) (by decide +kernel) rfl rfl rfl (by decide +kernel)
set_option maxRecDepth 65536 in
theorem w_c23 : (Jvm.Cond.code ({ cls := "java/lang/String", name := "checkIndex", desc := "(II)V" } : Jvm.MethodName) jdk_42_method_155_code (2 : Nat) (Option.none : Option Jvm.ClassFile.FieldType)).before args0 about1 = true := code_word (m := ⟨7, 8⟩) (meth := k7m8) (c := k7c8) (by decide +kernel) rfl rfl rfl (by decide +kernel)
set_option maxRecDepth 65536 in
theorem w_c24 : (Jvm.Cond.code ({ cls := "jdk/internal/util/Preconditions", name := "checkIndex", desc := "(IILjava/util/function/BiFunction;)I" } : Jvm.MethodName) jdk_41_method_11_code (3 : Nat) (Option.some Jvm.ClassFile.FieldType.int)).before args0 about1 = true := code_word (m := ⟨10, 1⟩) (meth := k10m1) (c := k10c1) (by decide +kernel) rfl rfl rfl (by decide +kernel)
set_option maxRecDepth 65536 in
theorem w_c25 : (Jvm.Cond.code ({ cls := "java/lang/StringUTF16", name := "codePointAt", desc := "([BII)I" } : Jvm.MethodName) jdk_52_method_8_code (3 : Nat) (Option.some Jvm.ClassFile.FieldType.int)).before args0 about1 = true := code_word (m := ⟨8, 6⟩) (meth := k8m6) (c := k8c6) (by decide +kernel) rfl rfl rfl (by decide +kernel)
set_option maxRecDepth 65536 in
theorem w_c26 : (Jvm.Cond.code ({ cls := "java/lang/StringUTF16", name := "codePointAt", desc := "([BIIZ)I" } : Jvm.MethodName) jdk_52_method_7_code (6 : Nat) (Option.some Jvm.ClassFile.FieldType.int)).before args0 about1 = true := code_word (m := ⟨8, 5⟩) (meth := k8m5) (c := k8c5) (by decide +kernel) rfl rfl rfl (by decide +kernel)
set_option maxRecDepth 65536 in
theorem w_c27 : (Jvm.Cond.code ({ cls := "java/lang/Character", name := "isHighSurrogate", desc := "(C)Z" } : Jvm.MethodName) jdk_89_method_14_code (1 : Nat) (Option.some Jvm.ClassFile.FieldType.boolean)).before args0 about1 = true := code_word (m := ⟨11, 0⟩) (meth := k11m0) (c := k11c0) (by decide +kernel) rfl rfl rfl (by decide +kernel)
set_option maxRecDepth 65536 in
theorem w_c28 : (Jvm.Cond.code ({ cls := "java/lang/Character", name := "charCount", desc := "(I)I" } : Jvm.MethodName) jdk_89_method_18_code (1 : Nat) (Option.some Jvm.ClassFile.FieldType.int)).before args0 about1 = true := code_word (m := ⟨11, 2⟩) (meth := k11m2) (c := k11c2) (by decide +kernel) rfl rfl rfl (by decide +kernel)
set_option maxRecDepth 65536 in
theorem w_c29 : (Jvm.Cond.code ({ cls := "java/lang/Character", name := "isLowSurrogate", desc := "(C)Z" } : Jvm.MethodName) jdk_89_method_15_code (1 : Nat) (Option.some Jvm.ClassFile.FieldType.boolean)).before args0 about1 = true := code_word (m := ⟨11, 1⟩) (meth := k11m1) (c := k11c1) (by decide +kernel) rfl rfl rfl (by decide +kernel)
set_option maxRecDepth 65536 in
theorem w_c30 : (Jvm.Cond.code ({ cls := "java/lang/Character", name := "toCodePoint", desc := "(CC)I" } : Jvm.MethodName) jdk_89_method_19_code (2 : Nat) (Option.some Jvm.ClassFile.FieldType.int)).before args0 about1 = true := code_word (m := ⟨11, 3⟩) (meth := k11m3) (c := k11c3) (by decide +kernel) rfl rfl rfl (by decide +kernel)
def codes1 : List Jvm.Cond := [Jvm.Cond.code x code maxLocals ret, Jvm.Cond.code ({ cls := "com/example/acquire/acquire/internal/LockNamesRequireValidPinLaw", name := "draw", desc := "(I)C" } : Jvm.MethodName) method_3_code (2 : Nat) (Option.some Jvm.ClassFile.FieldType.char), Jvm.Cond.code ({ cls := "com/example/acquire/acquire/internal/LockNamesRequireValidPinLaw", name := "unpairedAt", desc := "([CI)Z" } : Jvm.MethodName) method_6_code (3 : Nat) (Option.some Jvm.ClassFile.FieldType.boolean), Jvm.Cond.code ({ cls := "com/example/acquire/acquire/internal/LockNamesRequireValidPinLaw", name := "isHigh", desc := "(C)Z" } : Jvm.MethodName) method_4_code (1 : Nat) (Option.some Jvm.ClassFile.FieldType.boolean), Jvm.Cond.code ({ cls := "com/example/acquire/acquire/internal/LockNamesRequireValidPinLaw", name := "isLow", desc := "(C)Z" } : Jvm.MethodName) method_5_code (1 : Nat) (Option.some Jvm.ClassFile.FieldType.boolean), Jvm.Cond.code ({ cls := "java/lang/String", name := "<init>", desc := "([C)V" } : Jvm.MethodName) jdk_42_method_3_code (2 : Nat) (Option.none : Option Jvm.ClassFile.FieldType), Jvm.Cond.code ({ cls := "java/lang/String", name := "<init>", desc := "([CIILjava/lang/Void;)V" } : Jvm.MethodName) jdk_42_method_149_code (6 : Nat) (Option.none : Option Jvm.ClassFile.FieldType), Jvm.Cond.code ({ cls := "java/lang/Object", name := "<init>", desc := "()V" } : Jvm.MethodName) object_method_1_code (1 : Nat) (Option.none : Option Jvm.ClassFile.FieldType), Jvm.Cond.code ({ cls := "java/lang/StringUTF16", name := "compress", desc := "([CII)[B" } : Jvm.MethodName) jdk_52_method_16_code (6 : Nat) (Option.some (Jvm.ClassFile.FieldType.array Jvm.ClassFile.FieldType.byte)), Jvm.Cond.code ({ cls := "java/lang/StringUTF16", name := "compress", desc := "([CI[BII)I" } : Jvm.MethodName) jdk_52_method_21_code (7 : Nat) (Option.some Jvm.ClassFile.FieldType.int), Jvm.Cond.code ({ cls := "java/lang/StringUTF16", name := "toBytes", desc := "([CII)[B" } : Jvm.MethodName) jdk_52_method_14_code (5 : Nat) (Option.some (Jvm.ClassFile.FieldType.array Jvm.ClassFile.FieldType.byte)), Jvm.Cond.code ({ cls := "java/lang/StringUTF16", name := "newBytesFor", desc := "(I)[B" } : Jvm.MethodName) jdk_52_method_2_code (1 : Nat) (Option.some (Jvm.ClassFile.FieldType.array Jvm.ClassFile.FieldType.byte)), Jvm.Cond.code ({ cls := "java/lang/StringUTF16", name := "newBytesLength", desc := "(I)I" } : Jvm.MethodName) jdk_52_method_3_code (1 : Nat) (Option.some Jvm.ClassFile.FieldType.int), Jvm.Cond.code ({ cls := "java/lang/StringUTF16", name := "putChar", desc := "([BII)V" } : Jvm.MethodName) jdk_52_method_4_code (3 : Nat) (Option.none : Option Jvm.ClassFile.FieldType), Jvm.Cond.code ({ cls := "java/lang/StringUTF16", name := "getChar", desc := "([BI)C" } : Jvm.MethodName) jdk_52_method_5_code (2 : Nat) (Option.some Jvm.ClassFile.FieldType.char), Jvm.Cond.code ({ cls := "java/lang/StringUTF16", name := "coderFromArrayLen", desc := "([BI)B" } : Jvm.MethodName) jdk_52_method_15_code (2 : Nat) (Option.some Jvm.ClassFile.FieldType.byte), Jvm.Cond.code ({ cls := "com/example/acquire/acquire/internal/LockNames", name := "requireValid", desc := "(Ljava/lang/String;)Ljava/lang/String;" } : Jvm.MethodName) prog_10_method_2_code (2 : Nat) (Option.some (Jvm.ClassFile.FieldType.object "java/lang/String")), Jvm.Cond.code ({ cls := "java/lang/String", name := "isEmpty", desc := "()Z" } : Jvm.MethodName) jdk_42_method_55_code (1 : Nat) (Option.some Jvm.ClassFile.FieldType.boolean), Jvm.Cond.code ({ cls := "com/example/acquire/acquire/internal/LockNames", name := "unpairedSurrogate", desc := "(Ljava/lang/String;)I" } : Jvm.MethodName) prog_10_method_3_code (3 : Nat) (Option.some Jvm.ClassFile.FieldType.int), Jvm.Cond.code ({ cls := "java/lang/String", name := "length", desc := "()I" } : Jvm.MethodName) jdk_42_method_54_code (1 : Nat) (Option.some Jvm.ClassFile.FieldType.int), Jvm.Cond.code ({ cls := "java/lang/String", name := "coder", desc := "()B" } : Jvm.MethodName) jdk_42_method_152_code (1 : Nat) (Option.some Jvm.ClassFile.FieldType.byte), Jvm.Cond.code ({ cls := "java/lang/String", name := "codePointAt", desc := "(I)I" } : Jvm.MethodName) jdk_42_method_57_code (3 : Nat) (Option.some Jvm.ClassFile.FieldType.int), Jvm.Cond.code ({ cls := "java/lang/String", name := "isLatin1", desc := "()Z" } : Jvm.MethodName) jdk_42_method_154_code (1 : Nat) (Option.some Jvm.ClassFile.FieldType.boolean), Jvm.Cond.code ({ cls := "java/lang/String", name := "checkIndex", desc := "(II)V" } : Jvm.MethodName) jdk_42_method_155_code (2 : Nat) (Option.none : Option Jvm.ClassFile.FieldType), Jvm.Cond.code ({ cls := "jdk/internal/util/Preconditions", name := "checkIndex", desc := "(IILjava/util/function/BiFunction;)I" } : Jvm.MethodName) jdk_41_method_11_code (3 : Nat) (Option.some Jvm.ClassFile.FieldType.int), Jvm.Cond.code ({ cls := "java/lang/StringUTF16", name := "codePointAt", desc := "([BII)I" } : Jvm.MethodName) jdk_52_method_8_code (3 : Nat) (Option.some Jvm.ClassFile.FieldType.int), Jvm.Cond.code ({ cls := "java/lang/StringUTF16", name := "codePointAt", desc := "([BIIZ)I" } : Jvm.MethodName) jdk_52_method_7_code (6 : Nat) (Option.some Jvm.ClassFile.FieldType.int), Jvm.Cond.code ({ cls := "java/lang/Character", name := "isHighSurrogate", desc := "(C)Z" } : Jvm.MethodName) jdk_89_method_14_code (1 : Nat) (Option.some Jvm.ClassFile.FieldType.boolean), Jvm.Cond.code ({ cls := "java/lang/Character", name := "charCount", desc := "(I)I" } : Jvm.MethodName) jdk_89_method_18_code (1 : Nat) (Option.some Jvm.ClassFile.FieldType.int), Jvm.Cond.code ({ cls := "java/lang/Character", name := "isLowSurrogate", desc := "(C)Z" } : Jvm.MethodName) jdk_89_method_15_code (1 : Nat) (Option.some Jvm.ClassFile.FieldType.boolean), Jvm.Cond.code ({ cls := "java/lang/Character", name := "toCodePoint", desc := "(CC)I" } : Jvm.MethodName) jdk_89_method_19_code (2 : Nat) (Option.some Jvm.ClassFile.FieldType.int)]
set_option maxRecDepth 65536 in
theorem codes_eq : words1.filter isCode = codes1 := rfl
theorem w_codes : ∀ c ∈ words1.filter isCode, c.before args0 about1 = true := by
  rw [codes_eq]
  intro c hc
  simp only [codes1, List.mem_cons, List.not_mem_nil, or_false] at hc
  rcases hc with rfl | rfl | rfl | rfl | rfl | rfl | rfl | rfl | rfl | rfl | rfl | rfl | rfl | rfl | rfl | rfl | rfl | rfl | rfl | rfl | rfl | rfl | rfl | rfl | rfl | rfl | rfl | rfl | rfl | rfl | rfl
  · exact w_c0
  · exact w_c1
  · exact w_c2
  · exact w_c3
  · exact w_c4
  · exact w_c5
  · exact w_c6
  · exact w_c7
  · exact w_c8
  · exact w_c9
  · exact w_c10
  · exact w_c11
  · exact w_c12
  · exact w_c13
  · exact w_c14
  · exact w_c15
  · exact w_c16
  · exact w_c17
  · exact w_c18
  · exact w_c19
  · exact w_c20
  · exact w_c21
  · exact w_c22
  · exact w_c23
  · exact w_c24
  · exact w_c25
  · exact w_c26
  · exact w_c27
  · exact w_c28
  · exact w_c29
  · exact w_c30
set_option maxRecDepth 65536 in
theorem w_t1 : (words1.take 24).all (fun c => isCode c || c.before args0 about1) = true := by decide +kernel
set_option maxRecDepth 65536 in
theorem w_t2 : ((words1.drop 24).take 24).all (fun c => isCode c || c.before args0 about1) = true := by decide +kernel
set_option maxRecDepth 65536 in
theorem w_t3 : (((words1.drop 24).drop 24).take 24).all (fun c => isCode c || c.before args0 about1) = true := by decide +kernel
set_option maxRecDepth 65536 in
theorem w_t4 : ((((words1.drop 24).drop 24).drop 24).take 24).all (fun c => isCode c || c.before args0 about1) = true := by decide +kernel
set_option maxRecDepth 65536 in
theorem w_t5 : (((((words1.drop 24).drop 24).drop 24).drop 24).take 24).all (fun c => isCode c || c.before args0 about1) = true := by decide +kernel
set_option maxRecDepth 65536 in
theorem w_t6 : (((((words1.drop 24).drop 24).drop 24).drop 24).drop 24).all (fun c => isCode c || c.before args0 about1) = true := by decide +kernel
theorem w_tables : (allAtoms (Jvm.Cond.code x code maxLocals ret :: tables_1)).before args0 about1 = true := by
  rw [allAtoms_all]
  show words1.all (fun c => c.before args0 about1) = true
  refine all_split ?_ w_codes
  rw [← List.take_append_drop 24 words1, List.all_append, w_t1, ← List.take_append_drop 24 (words1.drop 24), List.all_append, w_t2, ← List.take_append_drop 24 ((words1.drop 24).drop 24), List.all_append, w_t3, ← List.take_append_drop 24 (((words1.drop 24).drop 24).drop 24), List.all_append, w_t4, ← List.take_append_drop 24 ((((words1.drop 24).drop 24).drop 24).drop 24), List.all_append, w_t5, w_t6]
  rfl
set_option maxRecDepth 65536 in
theorem w_rest : rest_1_c.before args0 about1 = true := by decide +kernel
set_option maxRecDepth 65536 in
theorem w_case : (Jvm.Cond.and given_1 narrow_1).before args0 about1 = true := by decide +kernel
theorem w_applies : (headSpec (Jvm.Cond.code x code maxLocals ret :: tables_1) room_1).applies x e0.platform about1 = true :=
  (Spec.applies_iff w_frames).mpr ⟨w_running, w_runnable, w_alone, w_named, w_hears, w_ripe, w_room, w_tables⟩
theorem atStart : AtStart classFile x code maxLocals ret World_1 tables_1 room_1 Calls_1 rest_1 Pre_1 launch0 p0 e0 about1 theMethod args0 below0 :=
  ⟨lists_1, trivial, launch0.admits_env _ _ _, launch0.least_env, fairChoices_fair.cas, fairChoices_fair.clock, w_frames, w_args, w_heap, w_applies, trivial, w_rest, w_case⟩
end start1
theorem witness_1 : WitnessClaimed_1 := ⟨start1.p0, start1.e0, start1.about1, start1.theMethod, start1.args0, start1.below0, start1.atStart⟩
end Jvm.Pilot.@@N@@
