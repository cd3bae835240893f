import JvmDerived
import JvmDerived.Pilot.@@N@@Statement
import JvmDerived.Pilot.@@N@@Code
set_option linter.unusedVariables false
set_option linter.unusedSimpArgs false
namespace Jvm.RoadKit
open Sem ClassFile Op Lib Jvm.Stand Jvm.Free Jvm.LawKit
section New
variable {p : Program} {l : Launch} {e : Env} {R : Room} {s : State} {m : MethodId} {args : Array Value} {below : List Frame} {meth : Method} {c : Code} {T : State} {locs : List Loc} {cells slots : Nat}
theorem retI (X : Stand p l e R s m args below meth c T locs cells slots) (hx : p.tables.exec = Jvm.exec) {pc : Nat} {Ls : Array Slot} {z : Int32} {rest : List Value} (hret : meth.sig.returnType = some .int) (hd : decode c.code pc = .ok (.ireturn, 1)) {fs : List Frame}
    (hl : ∀ (f : JFrame) (acts : List Action), f.method = m → f.locked = none → f.entered = [] → (doReturn e (T.setTop f) acts (some (.int z))).1 = T.setFrames fs) : Steps p.tables e below (T.setTop (mkF m pc Ls (.int z :: rest))) (T.setFrames fs) := by
  have hm' : T.vm.method? m = some meth := X.method'
  have hn : narrow .int (.int z) = .int z := rfl
  show Steps p.tables e below (T.setTop { method := m, pc := pc, locals := Ls, stack := _ :: rest, locked := none }) _
  jvm_step X.here [X.here.top, hx, hd, hm', hret, hn]
  first | (intro acts; rw [hl _ acts rfl rfl rfl]) | rw [hl _ _ rfl rfl rfl]
  exact Steps.refl _
end New
end Jvm.RoadKit
namespace Jvm.Pilot.@@N@@
open Jvm Jvm.ClassFile Sem Op Lib Jvm.Free Jvm.Stand Jvm.LawKit Jvm.RoadKit Bundle Jvm.Pilot.@@N@@.Jvm.D
/-! the rest of a walk, from a state on: it returns, and what it leaves -/
def OwnGo (p : Program) (e : Env) (below : List Frame) (s : State) (Q : Option Value → Heap → List Loc → Prop) (K N : Nat) (U : State) : Prop :=
  ∃ t o, Steps p.tables e below U t ∧ t.status = .running ∧ Ended t below o ∧ ∃ v L, o = .returned v ∧ Q v t.heap L ∧ FrameEnd s o t L K N
section OwnKit
variable {p : Program} {l : Launch} {e : Env} {R : Room} {s : State} {m : MethodId} {args : Array Value} {below : List Frame} {meth : Method} {c : Code} {T : State} {locs : List Loc} {cells slots : Nat} {Q : Option Value → Heap → List Loc → Prop} {K N : Nat} {U U' : State} {h : Heap}
theorem own_on (st : ∀ t, Steps p.tables e below U' t → Steps p.tables e below U t) (k : OwnGo p e below s Q K N U') : OwnGo p e below s Q K N U := by
  obtain ⟨t, o, h1, r⟩ := k; exact ⟨t, o, st t h1, r⟩
theorem own_tr (st : Steps p.tables e below U U') (k : OwnGo p e below s Q K N U') : OwnGo p e below s Q K N U := own_on (fun _ q => st.trans q) k
theorem own_num {c' n' : Nat} {l' : List Loc} (X : Stand p l e R s m args below meth c T locs cells slots) (h0 : locs = l') (h1 : cells = c') (h2 : slots = n') : Stand p l e R s m args below meth c T l' c' n' := by
  subst h0 h1 h2; exact X
theorem own_cast {g g' : JFrame} (q : g = g') (k : OwnGo p e below s Q K N (T.setTop g')) : OwnGo p e below s Q K N (T.setTop g) := q ▸ k
theorem own_end (X : Stand p l e R s m args below meth c T locs cells slots) (hlk : meth.locks = false) {v : Option Value} (hv : meth.sig.returnType = none → v = none) (eT : T.heap = h) (q : Q v h locs) (hk : cells ≤ K) (hn : slots ≤ N)
    (st : ∀ fs, (∀ (f : JFrame) (acts : List Action), f.method = m → f.locked = none → f.entered = [] → (doReturn e (T.setTop f) acts v).1 = T.setFrames fs) → Steps p.tables e below U (T.setFrames fs)) : OwnGo p e below s Q K N U := by
  obtain ⟨fs, hr, hrun, hended, hW, hsame⟩ := X.leave (v := v) hv hlk
  refine ⟨_, _, st fs hr, hrun, hended, v, locs, rfl, ?_, ⟨_, rfl⟩, hW, hsame.mono hk hn⟩
  have : (T.setFrames fs).heap = h := eT
  rw [this]; exact q
theorem own_retN (X : Stand p l e R s m args below meth c T locs cells slots) (hx : p.tables.exec = Jvm.exec) (hlk : meth.locks = false) {pc : Nat} {Ls : Array Slot} {z : Int32} {t : FieldType} {rest : List Value} (hret : meth.sig.returnType = some t) (ht : t = .boolean ∨ t = .byte ∨ t = .char ∨ t = .short)
    (hd : decode c.code pc = .ok (.ireturn, 1)) (eT : T.heap = h) (q : Q (some (.int (nar t z))) h locs) (hk : cells ≤ K) (hn : slots ≤ N) : OwnGo p e below s Q K N (T.setTop (mkF m pc Ls (.int z :: rest))) :=
  own_end X hlk (fun h => by rw [hret] at h; cases h) eT q hk hn fun fs hr => retN X hx hret ht hd hr
theorem own_retI (X : Stand p l e R s m args below meth c T locs cells slots) (hx : p.tables.exec = Jvm.exec) (hlk : meth.locks = false) {pc : Nat} {Ls : Array Slot} {z : Int32} {rest : List Value} (hret : meth.sig.returnType = some .int)
    (hd : decode c.code pc = .ok (.ireturn, 1)) (eT : T.heap = h) (q : Q (some (.int z)) h locs) (hk : cells ≤ K) (hn : slots ≤ N) : OwnGo p e below s Q K N (T.setTop (mkF m pc Ls (.int z :: rest))) :=
  own_end X hlk (fun h => by rw [hret] at h; cases h) eT q hk hn fun fs hr => retI X hx hret hd hr
theorem own_retA (X : Stand p l e R s m args below meth c T locs cells slots) (hx : p.tables.exec = Jvm.exec) (hlk : meth.locks = false) {pc : Nat} {Ls : Array Slot} {w : Value} {t : FieldType} {rest : List Value} (hret : meth.sig.returnType = some t) (ht : t.isReference = true) (hw : w.isRef = true)
    (hd : decode c.code pc = .ok (.areturn, 1)) (eT : T.heap = h) (q : Q (some w) h locs) (hk : cells ≤ K) (hn : slots ≤ N) : OwnGo p e below s Q K N (T.setTop (mkF m pc Ls (w :: rest))) :=
  own_end X hlk (fun h => by rw [hret] at h; cases h) eT q hk hn fun fs hr => retOut X hx hret (by rcases ref_cases hw with rfl | ⟨a, rfl⟩ <;> cases t <;> rfl) (Or.inr (Or.inr (Or.inr (Or.inr ⟨rfl, ht, hw⟩)))) hd hr
theorem own_retV (X : Stand p l e R s m args below meth c T locs cells slots) (hx : p.tables.exec = Jvm.exec) (hlk : meth.locks = false) {pc : Nat} {Ls : Array Slot} (hret : meth.sig.returnType = none)
    (hd : decode c.code pc = .ok (.return_, 1)) (eT : T.heap = h) (q : Q none h locs) (hk : cells ≤ K) (hn : slots ≤ N) : OwnGo p e below s Q K N (T.setTop (mkF m pc Ls [])) :=
  own_end X hlk (fun _ => rfl) eT q hk hn fun fs hr => X.returnOut hx hret hd hr
end OwnKit

def OwnGoW (p : Program) (e : Env) (below : List Frame) (s : State) (Q : Option Value → Heap → List Loc → Prop) (K N : Nat) (U : State) : Prop :=
  ∃ t o, Steps p.tables e below U t ∧ t.status = .running ∧ Ended t below o ∧ ∃ v L, o = .returned v ∧ Q v t.heap L ∧ ReturnedEndW s o t L K N
section OwnKitW
variable {p : Program} {l : Launch} {e : Env} {R : Room} {s : State} {vm0 : Vm} {m : MethodId} {args : Array Value} {below : List Frame} {meth : Method} {c : Code} {T : State} {locs : List Loc} {cells slots : Nat} {Q : Option Value → Heap → List Loc → Prop} {K N k0 : Nat} {U U' : State} {h : Heap}
theorem own_onW (st : ∀ t, Steps p.tables e below U' t → Steps p.tables e below U t) (k : OwnGoW p e below s Q K N U') : OwnGoW p e below s Q K N U := by
  obtain ⟨t, o, h1, r⟩ := k; exact ⟨t, o, st t h1, r⟩
theorem own_trW (st : Steps p.tables e below U U') (k : OwnGoW p e below s Q K N U') : OwnGoW p e below s Q K N U := own_onW (fun _ q => st.trans q) k
theorem own_castW {g g' : JFrame} (q : g = g') (k : OwnGoW p e below s Q K N (T.setTop g')) : OwnGoW p e below s Q K N (T.setTop g) := q ▸ k
theorem own_endW (X : Stand p l e R (s.setVm vm0) m args below meth c T locs cells slots) (hlk : meth.locks = false) {v : Option Value} (hv : meth.sig.returnType = none → v = none) (eT : T.heap = h) (q : Q v h locs) (hk : cells ≤ K) (hn : slots ≤ N) (hS : s.Since vm0 k0) (hk0 : k0 ≤ T.heap.size)
    (st : ∀ fs, (∀ (f : JFrame) (acts : List Action), f.method = m → f.locked = none → f.entered = [] → (doReturn e (T.setTop f) acts v).1 = T.setFrames fs) → Steps p.tables e below U (T.setFrames fs)) : OwnGoW p e below s Q K N U := by
  obtain ⟨fs, hr, hrun, hended, ⟨h1, h2, h3, h4⟩⟩ := X.leaveW hS hk0 (v := v) hv hlk
  refine ⟨_, _, st fs hr, hrun, hended, v, locs, rfl, ?_, h1, h2, h3, h4.mono hk hn⟩
  have : (T.setFrames fs).heap = h := eT
  rw [this]; exact q
theorem own_retNW (X : Stand p l e R (s.setVm vm0) m args below meth c T locs cells slots) (hx : p.tables.exec = Jvm.exec) (hlk : meth.locks = false) {pc : Nat} {Ls : Array Slot} {z : Int32} {t : FieldType} {rest : List Value} (hret : meth.sig.returnType = some t) (ht : t = .boolean ∨ t = .byte ∨ t = .char ∨ t = .short)
    (hd : decode c.code pc = .ok (.ireturn, 1)) (eT : T.heap = h) (q : Q (some (.int (nar t z))) h locs) (hk : cells ≤ K) (hn : slots ≤ N) (hS : s.Since vm0 k0) (hk0 : k0 ≤ T.heap.size) : OwnGoW p e below s Q K N (T.setTop (mkF m pc Ls (.int z :: rest))) :=
  own_endW X hlk (fun h => by rw [hret] at h; cases h) eT q hk hn hS hk0 fun fs hr => retN X hx hret ht hd hr
theorem own_retIW (X : Stand p l e R (s.setVm vm0) m args below meth c T locs cells slots) (hx : p.tables.exec = Jvm.exec) (hlk : meth.locks = false) {pc : Nat} {Ls : Array Slot} {z : Int32} {rest : List Value} (hret : meth.sig.returnType = some .int)
    (hd : decode c.code pc = .ok (.ireturn, 1)) (eT : T.heap = h) (q : Q (some (.int z)) h locs) (hk : cells ≤ K) (hn : slots ≤ N) (hS : s.Since vm0 k0) (hk0 : k0 ≤ T.heap.size) : OwnGoW p e below s Q K N (T.setTop (mkF m pc Ls (.int z :: rest))) :=
  own_endW X hlk (fun h => by rw [hret] at h; cases h) eT q hk hn hS hk0 fun fs hr => retI X hx hret hd hr
theorem own_retAW (X : Stand p l e R (s.setVm vm0) m args below meth c T locs cells slots) (hx : p.tables.exec = Jvm.exec) (hlk : meth.locks = false) {pc : Nat} {Ls : Array Slot} {w : Value} {t : FieldType} {rest : List Value} (hret : meth.sig.returnType = some t) (ht : t.isReference = true) (hw : w.isRef = true)
    (hd : decode c.code pc = .ok (.areturn, 1)) (eT : T.heap = h) (q : Q (some w) h locs) (hk : cells ≤ K) (hn : slots ≤ N) (hS : s.Since vm0 k0) (hk0 : k0 ≤ T.heap.size) : OwnGoW p e below s Q K N (T.setTop (mkF m pc Ls (w :: rest))) :=
  own_endW X hlk (fun h => by rw [hret] at h; cases h) eT q hk hn hS hk0 fun fs hr => retOut X hx hret (by rcases ref_cases hw with rfl | ⟨a, rfl⟩ <;> cases t <;> rfl) (Or.inr (Or.inr (Or.inr (Or.inr ⟨rfl, ht, hw⟩)))) hd hr
theorem own_retVW (X : Stand p l e R (s.setVm vm0) m args below meth c T locs cells slots) (hx : p.tables.exec = Jvm.exec) (hlk : meth.locks = false) {pc : Nat} {Ls : Array Slot} (hret : meth.sig.returnType = none)
    (hd : decode c.code pc = .ok (.return_, 1)) (eT : T.heap = h) (q : Q none h locs) (hk : cells ≤ K) (hn : slots ≤ N) (hS : s.Since vm0 k0) (hk0 : k0 ≤ T.heap.size) : OwnGoW p e below s Q K N (T.setTop (mkF m pc Ls [])) :=
  own_endW X hlk (fun _ => rfl) eT q hk hn hS hk0 fun fs hr => X.returnOut hx hret hd hr
end OwnKitW

def OwnGoJ (p : Program) (e : Env) (below : List Frame) (s : State) (Q : Option Value → Vm → Heap → List Loc → Prop) (K N : Nat) (U : State) : Prop :=
  ∃ t o, Steps p.tables e below U t ∧ t.status = .running ∧ Ended t below o ∧ ∃ v L, o = .returned v ∧ Q v t.vm t.heap L ∧ ReturnedEndW s o t L K N
section OwnKitJ
variable {p : Program} {l : Launch} {e : Env} {R : Room} {s Z : State} {a0 : Array Value} {vm0 : Vm} {m : MethodId} {args : Array Value} {below : List Frame} {meth : Method} {c : Code} {T : State} {locs : List Loc} {cells slots : Nat} {Q : Option Value → Vm → Heap → List Loc → Prop} {K N k0 : Nat} {U U' : State} {h : Heap}
theorem own_onJ (st : ∀ t, Steps p.tables e below U' t → Steps p.tables e below U t) (k : OwnGoJ p e below s Q K N U') : OwnGoJ p e below s Q K N U := by
  obtain ⟨t, o, h1, r⟩ := k; exact ⟨t, o, st t h1, r⟩
theorem own_trJ (st : Steps p.tables e below U U') (k : OwnGoJ p e below s Q K N U') : OwnGoJ p e below s Q K N U := own_onJ (fun _ q => st.trans q) k
theorem own_castJ {g g' : JFrame} (q : g = g') (k : OwnGoJ p e below s Q K N (T.setTop g')) : OwnGoJ p e below s Q K N (T.setTop g) := q ▸ k
theorem own_endJ (X : Stand p l e R (s.setVm vm0) m args below meth c T locs cells slots) (hlk : meth.locks = false) {v : Option Value} (hv : meth.sig.returnType = none → v = none) (eT : T.heap = h) (q : Q v T.vm h locs) (hk : cells ≤ K) (hn : slots ≤ N) (hS : s.Since vm0 k0) (hk0 : k0 ≤ T.heap.size)
    (st : ∀ fs, (∀ (f : JFrame) (acts : List Action), f.method = m → f.locked = none → f.entered = [] → (doReturn e (T.setTop f) acts v).1 = T.setFrames fs) → Steps p.tables e below U (T.setFrames fs)) : OwnGoJ p e below s Q K N U := by
  obtain ⟨fs, hr, hrun, hended, ⟨h1, h2, h3, h4⟩⟩ := X.leaveW hS hk0 (v := v) hv hlk
  refine ⟨_, _, st fs hr, hrun, hended, v, locs, rfl, ?_, h1, h2, h3, h4.mono hk hn⟩
  have : (T.setFrames fs).heap = h := eT
  rw [this]; exact q
theorem own_retNJ (X : Stand p l e R (s.setVm vm0) m args below meth c T locs cells slots) (hx : p.tables.exec = Jvm.exec) (hlk : meth.locks = false) {pc : Nat} {Ls : Array Slot} {z : Int32} {t : FieldType} {rest : List Value} (hret : meth.sig.returnType = some t) (ht : t = .boolean ∨ t = .byte ∨ t = .char ∨ t = .short)
    (hd : decode c.code pc = .ok (.ireturn, 1)) (eT : T.heap = h) (q : Q (some (.int (nar t z))) T.vm h locs) (hk : cells ≤ K) (hn : slots ≤ N) (hS : s.Since vm0 k0) (hk0 : k0 ≤ T.heap.size) : OwnGoJ p e below s Q K N (T.setTop (mkF m pc Ls (.int z :: rest))) :=
  own_endJ X hlk (fun h => by rw [hret] at h; cases h) eT q hk hn hS hk0 fun fs hr => retN X hx hret ht hd hr
theorem own_retAJ (X : Stand p l e R (s.setVm vm0) m args below meth c T locs cells slots) (hx : p.tables.exec = Jvm.exec) (hlk : meth.locks = false) {pc : Nat} {Ls : Array Slot} {w : Value} {t : FieldType} {rest : List Value} (hret : meth.sig.returnType = some t) (ht : t.isReference = true) (hw : w.isRef = true)
    (hd : decode c.code pc = .ok (.areturn, 1)) (eT : T.heap = h) (q : Q (some w) T.vm h locs) (hk : cells ≤ K) (hn : slots ≤ N) (hS : s.Since vm0 k0) (hk0 : k0 ≤ T.heap.size) : OwnGoJ p e below s Q K N (T.setTop (mkF m pc Ls (w :: rest))) :=
  own_endJ X hlk (fun h => by rw [hret] at h; cases h) eT q hk hn hS hk0 fun fs hr => retOut X hx hret (by rcases ref_cases hw with rfl | ⟨a, rfl⟩ <;> cases t <;> rfl) (Or.inr (Or.inr (Or.inr (Or.inr ⟨rfl, ht, hw⟩)))) hd hr
theorem own_retVJ (X : Stand p l e R (s.setVm vm0) m args below meth c T locs cells slots) (hx : p.tables.exec = Jvm.exec) (hlk : meth.locks = false) {pc : Nat} {Ls : Array Slot} (hret : meth.sig.returnType = none)
    (hd : decode c.code pc = .ok (.return_, 1)) (eT : T.heap = h) (q : Q none T.vm h locs) (hk : cells ≤ K) (hn : slots ≤ N) (hS : s.Since vm0 k0) (hk0 : k0 ≤ T.heap.size) : OwnGoJ p e below s Q K N (T.setTop (mkF m pc Ls [])) :=
  own_endJ X hlk (fun _ => rfl) eT q hk hn hS hk0 fun fs hr => X.returnOut hx hret hd hr
theorem own_backJ {J : Vm → Prop} {y : MethodName} {bytes : ByteArray} {maxL : Nat} {ret : Option FieldType} {rm : Room} {len W : Nat} {as' : Array Value}
    (hM : MetFree l y (head1 [Cond.code y bytes maxL ret] rm) (fun a U => a = as' ∧ Z.Warmed39 U.vm ∧ U.heap = h ∧ J U.vm) (fun _ _ _ _ _ => True) (fun _ U o U' => ∃ v L, o = .returned v ∧ Q v U'.vm U'.heap L ∧ ReturnedEndW U o U' L rm.cells rm.slots))
    (hZ : Z.Warmed39 s.vm) (wc : (Cond.code y bytes maxL ret).before a0 Z = true) (wz : (Cond.initialized y.cls).before a0 Z = true) (hf : rm.frames + 1 ≤ R.frames) (hl : W + (maxL + 11) + rm.locals ≤ R.locals) :
    BackS l R p e below s args y len W (fun A a => a = as' ∧ A.U.heap = h ∧ J A.U.vm ∧ A.cells + rm.cells ≤ R.cells ∧ A.slots + rm.slots ≤ R.slots)
      (fun A _ v B => ∃ L, Q v B.U.vm B.U.heap L ∧ B.locs = A.locs ++ L ∧ B.cells = A.cells + rm.cells ∧ B.slots = A.slots + rm.slots) := by
  refine BackS.of_freeW (bytes := bytes) (maxL := maxL) (ret := ret) (E := fun _ _ o t L k n => k = rm.cells ∧ n = rm.slots ∧ ∃ v, o = .returned v ∧ Q v t.vm t.heap L) hM hf hl ?_ ?_ ?_ ?_ ?_
  · intro m meth c A a Y hp
    have hU : Z.Warmed39 A.U.vm := wtrans hZ Y.warmed
    refine ⟨?_, mv hU wc, mv hU wz, hp.2.2.2.1, hp.2.2.2.2⟩
    show (Cond.and _ .tt).before a A.U = true
    rw [Cond.before_and, mv hU wc]; rfl
  · intro m meth c A a g mk Y hp; exact ⟨hp.1, wtrans hZ Y.warmed, hp.2.1, hp.2.2.1⟩
  · intros; trivial
  · rintro _ _ _ _ ⟨v, L, h1, h2, h3⟩; exact ⟨L, _, _, h3, rfl, rfl, v, h1, h2⟩
  · rintro m meth c A a g mk v t L k n Y hp _ _ ⟨e1, e2, v', e3, e4⟩
    cases e3; subst e1 e2; exact ⟨L, e4, rfl, rfl, rfl⟩
end OwnKitJ

theorem own_ib {Z s : State} {vm1 : Vm} {Ts : List String} (I : IB Z s.vm Ts) (h : s.WarmedH vm1) : IB Z vm1 Ts := by
  obtain ⟨more, e, r⟩ := I; exact ⟨more, by rw [h.interned_eq]; exact e, r⟩
theorem own_i2c (x : Int32) : (x &&& (255 : Int32)).toUInt32.toUInt16.toUInt32.toInt32 = x &&& (255 : Int32) := by
  apply Int32.toBitVec_inj.mp
  simp only [UInt32.toBitVec_toInt32, UInt16.toBitVec_toUInt32, UInt32.toBitVec_toUInt16, Int32.toBitVec_toUInt32, Int32.toBitVec_and]
  have e : (255 : Int32).toBitVec = 255#32 := rfl
  rw [e]; generalize x.toBitVec = y
  apply BitVec.eq_of_toNat_eq
  have : (y &&& 255#32).toNat ≤ 255 := by rw [BitVec.toNat_and]; exact Nat.and_le_right
  simp only [BitVec.toNat_setWidth]; omega
theorem own_chr (x : Int32) : nar .char ((x &&& (255 : Int32)).toUInt32.toUInt16.toUInt32.toInt32) = x &&& (255 : Int32) ∧ nar .char (x &&& (255 : Int32)) = x &&& (255 : Int32) :=
  ⟨by simp only [nar, own_i2c], by simp only [nar, own_i2c]⟩
theorem own_wide {Z s : State} {vm1 : Vm} (hW : s.WarmedH vm1) : (Z.setVm s.vm).Warmed39 vm1 := by
  exact hW.wide
theorem own_shr0 (z : Int32) : z >>> ((0 : Int32) &&& 31) = z := by
  have : ((0 : Int32) &&& 31) = 0 := by decide
  rw [this]; simp
def own_isz (z : Int32) : Int32 := if z = 0 then 1 else 0
theorem own_str {Z : State} {a0 : Array Value} (hw : ∀ d ∈ tables_1, d.before a0 Z = true) : ∀ a ∈ Bundle.stringAtoms, a.before a0 Z = true := fun d hd => hw d (by
  simp only [Bundle.stringAtoms, Bundle.sN, List.mem_cons, List.not_mem_nil, or_false] at hd
  rcases hd with rfl | rfl | rfl | rfl | rfl | rfl | rfl <;> (simp [tables_1]))
theorem own_nz {t : Term} {args : Array Value} {s : State} {z : Int32} (ev : t.eval args s none [] s = some (.int z)) (h : (Cond.not (Cond.eq t (.int 0))).value args s none s [] = some true) : ¬ (z = (0 : Int32)) := by
  have h1 := not_v h
  rintro rfl
  simp [Cond.value, Term.eval, ev] at h1
def own_ce (k : Int32) : Int32 := if k < 0 then 0 else if 255 < k then 0 else 1
def own_ix (b : Int32) : Int32 := if (33 : Int32) = b then 0 else if (35 : Int32) = b then 1 else if (36 : Int32) = b then 2 else if (37 : Int32) = b then 3 else if (38 : Int32) = b then 4 else if (39 : Int32) = b then 5 else if (42 : Int32) = b then 6 else if (43 : Int32) = b then 7 else if (45 : Int32) = b then 8 else if (46 : Int32) = b then 9 else if (94 : Int32) = b then 10 else if (95 : Int32) = b then 11 else if (96 : Int32) = b then 12 else if (124 : Int32) = b then 13 else if (126 : Int32) = b then 14 else -1
def own_ixl (k : Int32) : Int32 := if own_ce k = 0 then -1 else own_ix (k.toInt8.toInt32)
def own_del (k : Int32) : Int32 := if k = 34 then 1 else if k = 40 then 1 else if k = 41 then 1 else if k = 44 then 1 else if k = 47 then 1 else if k = 58 then 1 else if k = 59 then 1 else if k = 60 then 1 else if k = 61 then 1 else if k = 62 then 1 else if k = 63 then 1 else if k = 64 then 1 else if k = 91 then 1 else if k = 92 then 1 else if k = 93 then 1 else if k = 123 then 1 else if k = 125 then 1 else 0
def own_rf (k : Int32) : Int32 := if 32 < k then (if k < 127 then (if own_del k = 0 then 1 else 0) else 0) else 0
def own_al (k : Int32) : Prop := (¬ k < 97 ∧ ¬ 122 < k) ∨ (¬ k < 65 ∧ ¬ 90 < k) ∨ (¬ k < 48 ∧ ¬ 57 < k)
instance (k : Int32) : Decidable (own_al k) := inferInstanceAs (Decidable (_ ∨ _ ∨ _))
def own_tc (k : Int32) : Int32 := if own_al k then 1 else if own_ixl k < 0 then 0 else 1
theorem own_all : ∀ i : Fin 256, own_tc (Int32.ofNat i.val) = own_rf (Int32.ofNat i.val) := by decide +kernel
theorem own_eq (k : Int32) : own_tc k = own_rf k := by
  by_cases h0 : k < 0
  · have a1 : own_ixl k = -1 := by simp [own_ixl, own_ce, h0]
    have a2 : ¬ own_al k := by
      rw [Int32.lt_iff_toInt_lt] at h0
      simp only [own_al, Int32.lt_iff_toInt_lt]; simp only [Int32.reduceToInt] at h0 ⊢; omega
    have a3 : ¬ (32 : Int32) < k := by rw [Int32.lt_iff_toInt_lt] at h0 ⊢; simp only [Int32.reduceToInt] at h0 ⊢; omega
    simp [own_tc, own_rf, a1, a2, a3]
  · by_cases h1 : 255 < k
    · have a1 : own_ixl k = -1 := by simp [own_ixl, own_ce, h0, h1]
      have a2 : ¬ own_al k := by
        rw [Int32.lt_iff_toInt_lt] at h1
        simp only [own_al, Int32.lt_iff_toInt_lt]; simp only [Int32.reduceToInt] at h1 ⊢; omega
      have a3 : ¬ k < 127 := by rw [Int32.lt_iff_toInt_lt] at h1 ⊢; simp only [Int32.reduceToInt] at h1 ⊢; omega
      simp [own_tc, own_rf, a1, a2, a3]
    · rw [Int32.lt_iff_toInt_lt] at h0 h1
      simp only [Int32.reduceToInt] at h0 h1
      have e : k = Int32.ofNat k.toNatClampNeg := by
        apply Int32.toInt_inj.mp; rw [Int32.toInt_ofNat_of_lt (by simp only [Int32.toNatClampNeg]; omega)]; simp only [Int32.toNatClampNeg]; omega
      have := own_all ⟨k.toNatClampNeg, by simp only [Int32.toNatClampNeg]; omega⟩
      rw [e]; exact this
def OwnLd (Z : State) (vm : Vm) (h : Heap) : Prop := IB Z vm [] ∨ ∃ (x t : Addr) (kb : ClassId), Lit (Z.setVm vm) "org/pathbind/HeaderFields" 138 x ∧ Exa Z h x "java/lang/String" ∧ Fld Z h x "java/lang/String" "coder" "B" (.int (0 : Int32)) ∧ Fld Z h x "java/lang/String" "value" "[B" (.ref t) ∧ Arv Z h t kb .byte (15 : Int32) [(.int (33 : Int32)), (.int (35 : Int32)), (.int (36 : Int32)), (.int (37 : Int32)), (.int (38 : Int32)), (.int (39 : Int32)), (.int (42 : Int32)), (.int (43 : Int32)), (.int (45 : Int32)), (.int (46 : Int32)), (.int (94 : Int32)), (.int (95 : Int32)), (.int (96 : Int32)), (.int (124 : Int32)), (.int (126 : Int32))] (.int (0 : Int32))
theorem OwnLd.warm {Z s : State} {vm1 : Vm} {h : Heap} (F : OwnLd Z s.vm h) (hW : s.WarmedH vm1) : OwnLd Z vm1 h := by
  rcases F with F | ⟨x, t, kb, L, r⟩
  · exact Or.inl (own_ib F hW)
  · exact Or.inr ⟨x, t, kb, Lit.stays (s := Z) (vm0 := s.vm) (vm1 := vm1) L (own_wide hW), r⟩
theorem OwnLd.ext {Z : State} {vm : Vm} {h h' : Heap} (F : OwnLd Z vm h) (E : Ext h h') : OwnLd Z vm h' := by
  rcases F with F | ⟨x, t, kb, L, a, b, c, d⟩
  · exact Or.inl F
  · exact Or.inr ⟨x, t, kb, L, a.ext E, b.ext E, c.ext E, d.ext E⟩
theorem OwnLd.keep {Z : State} {vm : Vm} {h h' : Heap} (F : OwnLd Z vm h) (K : Keep h h' []) (_ : ∀ x ∈ ([] : List Addr), True) : OwnLd Z vm h' := by
  rcases F with F | ⟨x, t, kb, L, a, b, c, d⟩
  · exact Or.inl F
  · exact Or.inr ⟨x, t, kb, L, a.keep K, b.keep K nin0, c.keep K nin0, d.keep K nin0⟩
theorem w0 {a0 : Array Value} {Z : State} (hw : ∀ d ∈ tables_1, d.before a0 Z = true) : ((Jvm.Cond.methodLink "org/pathbind/HeaderFieldsIsTokenCharacterPinLaw" (13 : Nat) ({ cls := "org/pathbind/HeaderFields", name := "isTokenCharacter", desc := "(I)Z" } : Jvm.MethodName)) : Jvm.Cond).before a0 Z = true := hw _ (List.mem_of_getElem? (i := 0) rfl)
theorem w1 {a0 : Array Value} {Z : State} (hw : ∀ d ∈ tables_1, d.before a0 Z = true) : ((Jvm.Cond.static ({ cls := "org/pathbind/HeaderFields", name := "isTokenCharacter", desc := "(I)Z" } : Jvm.MethodName)) : Jvm.Cond).before a0 Z = true := hw _ (List.mem_of_getElem? (i := 1) rfl)
theorem w2 {a0 : Array Value} {Z : State} (hw : ∀ d ∈ tables_1, d.before a0 Z = true) : ((Jvm.Cond.initialized "org/pathbind/HeaderFields") : Jvm.Cond).before a0 Z = true := hw _ (List.mem_of_getElem? (i := 2) rfl)
theorem w3 {a0 : Array Value} {Z : State} (hw : ∀ d ∈ tables_1, d.before a0 Z = true) : ((Jvm.Cond.code ({ cls := "org/pathbind/HeaderFields", name := "isTokenCharacter", desc := "(I)Z" } : Jvm.MethodName) prog_25_method_7_code (1 : Nat) (Option.some Jvm.ClassFile.FieldType.boolean)) : Jvm.Cond).before a0 Z = true := hw _ (List.mem_of_getElem? (i := 3) rfl)
theorem w4 {a0 : Array Value} {Z : State} (hw : ∀ d ∈ tables_1, d.before a0 Z = true) : ((Jvm.Cond.stringLink "org/pathbind/HeaderFields" (138 : Nat) "!#$%&'*+-.^_`|~") : Jvm.Cond).before a0 Z = true := hw _ (List.mem_of_getElem? (i := 4) rfl)
theorem w5 {a0 : Array Value} {Z : State} (hw : ∀ d ∈ tables_1, d.before a0 Z = true) : ((Jvm.Cond.initialized "java/lang/String") : Jvm.Cond).before a0 Z = true := hw _ (List.mem_of_getElem? (i := 5) rfl)
theorem w12 {a0 : Array Value} {Z : State} (hw : ∀ d ∈ tables_1, d.before a0 Z = true) : ((Jvm.Cond.methodLink "org/pathbind/HeaderFields" (140 : Nat) ({ cls := "java/lang/String", name := "indexOf", desc := "(I)I" } : Jvm.MethodName)) : Jvm.Cond).before a0 Z = true := hw _ (List.mem_of_getElem? (i := 12) rfl)
theorem w13 {a0 : Array Value} {Z : State} (hw : ∀ d ∈ tables_1, d.before a0 Z = true) : ((Jvm.Cond.declares ({ cls := "java/lang/String", name := "indexOf", desc := "(I)I" } : Jvm.MethodName)) : Jvm.Cond).before a0 Z = true := hw _ (List.mem_of_getElem? (i := 13) rfl)
theorem w14 {a0 : Array Value} {Z : State} (hw : ∀ d ∈ tables_1, d.before a0 Z = true) : ((Jvm.Cond.instanceMethod ({ cls := "java/lang/String", name := "indexOf", desc := "(I)I" } : Jvm.MethodName)) : Jvm.Cond).before a0 Z = true := hw _ (List.mem_of_getElem? (i := 14) rfl)
theorem w15 {a0 : Array Value} {Z : State} (hw : ∀ d ∈ tables_1, d.before a0 Z = true) : ((Jvm.Cond.selects "java/lang/String" ({ cls := "java/lang/String", name := "indexOf", desc := "(I)I" } : Jvm.MethodName) ({ cls := "java/lang/String", name := "indexOf", desc := "(I)I" } : Jvm.MethodName)) : Jvm.Cond).before a0 Z = true := hw _ (List.mem_of_getElem? (i := 15) rfl)
theorem w16 {a0 : Array Value} {Z : State} (hw : ∀ d ∈ tables_1, d.before a0 Z = true) : ((Jvm.Cond.code ({ cls := "java/lang/String", name := "indexOf", desc := "(I)I" } : Jvm.MethodName) jdk_42_method_79_code (2 : Nat) (Option.some Jvm.ClassFile.FieldType.int)) : Jvm.Cond).before a0 Z = true := hw _ (List.mem_of_getElem? (i := 16) rfl)
theorem w17 {a0 : Array Value} {Z : State} (hw : ∀ d ∈ tables_1, d.before a0 Z = true) : ((Jvm.Cond.methodLink "java/lang/String" (633 : Nat) ({ cls := "java/lang/String", name := "indexOf", desc := "(II)I" } : Jvm.MethodName)) : Jvm.Cond).before a0 Z = true := hw _ (List.mem_of_getElem? (i := 17) rfl)
theorem w18 {a0 : Array Value} {Z : State} (hw : ∀ d ∈ tables_1, d.before a0 Z = true) : ((Jvm.Cond.declares ({ cls := "java/lang/String", name := "indexOf", desc := "(II)I" } : Jvm.MethodName)) : Jvm.Cond).before a0 Z = true := hw _ (List.mem_of_getElem? (i := 18) rfl)
theorem w19 {a0 : Array Value} {Z : State} (hw : ∀ d ∈ tables_1, d.before a0 Z = true) : ((Jvm.Cond.instanceMethod ({ cls := "java/lang/String", name := "indexOf", desc := "(II)I" } : Jvm.MethodName)) : Jvm.Cond).before a0 Z = true := hw _ (List.mem_of_getElem? (i := 19) rfl)
theorem w20 {a0 : Array Value} {Z : State} (hw : ∀ d ∈ tables_1, d.before a0 Z = true) : ((Jvm.Cond.selects "java/lang/String" ({ cls := "java/lang/String", name := "indexOf", desc := "(II)I" } : Jvm.MethodName) ({ cls := "java/lang/String", name := "indexOf", desc := "(II)I" } : Jvm.MethodName)) : Jvm.Cond).before a0 Z = true := hw _ (List.mem_of_getElem? (i := 20) rfl)
theorem w21 {a0 : Array Value} {Z : State} (hw : ∀ d ∈ tables_1, d.before a0 Z = true) : ((Jvm.Cond.code ({ cls := "java/lang/String", name := "indexOf", desc := "(II)I" } : Jvm.MethodName) jdk_42_method_80_code (3 : Nat) (Option.some Jvm.ClassFile.FieldType.int)) : Jvm.Cond).before a0 Z = true := hw _ (List.mem_of_getElem? (i := 21) rfl)
theorem w22 {a0 : Array Value} {Z : State} (hw : ∀ d ∈ tables_1, d.before a0 Z = true) : ((Jvm.Cond.methodLink "java/lang/String" (492 : Nat) ({ cls := "java/lang/String", name := "isLatin1", desc := "()Z" } : Jvm.MethodName)) : Jvm.Cond).before a0 Z = true := hw _ (List.mem_of_getElem? (i := 22) rfl)
theorem w23 {a0 : Array Value} {Z : State} (hw : ∀ d ∈ tables_1, d.before a0 Z = true) : ((Jvm.Cond.declares ({ cls := "java/lang/String", name := "isLatin1", desc := "()Z" } : Jvm.MethodName)) : Jvm.Cond).before a0 Z = true := hw _ (List.mem_of_getElem? (i := 23) rfl)
theorem w24 {a0 : Array Value} {Z : State} (hw : ∀ d ∈ tables_1, d.before a0 Z = true) : ((Jvm.Cond.instanceMethod ({ cls := "java/lang/String", name := "isLatin1", desc := "()Z" } : Jvm.MethodName)) : Jvm.Cond).before a0 Z = true := hw _ (List.mem_of_getElem? (i := 24) rfl)
theorem w25 {a0 : Array Value} {Z : State} (hw : ∀ d ∈ tables_1, d.before a0 Z = true) : ((Jvm.Cond.selects "java/lang/String" ({ cls := "java/lang/String", name := "isLatin1", desc := "()Z" } : Jvm.MethodName) ({ cls := "java/lang/String", name := "isLatin1", desc := "()Z" } : Jvm.MethodName)) : Jvm.Cond).before a0 Z = true := hw _ (List.mem_of_getElem? (i := 25) rfl)
theorem w26 {a0 : Array Value} {Z : State} (hw : ∀ d ∈ tables_1, d.before a0 Z = true) : ((Jvm.Cond.code ({ cls := "java/lang/String", name := "isLatin1", desc := "()Z" } : Jvm.MethodName) jdk_42_method_154_code (1 : Nat) (Option.some Jvm.ClassFile.FieldType.boolean)) : Jvm.Cond).before a0 Z = true := hw _ (List.mem_of_getElem? (i := 26) rfl)
theorem w27 {a0 : Array Value} {Z : State} (hw : ∀ d ∈ tables_1, d.before a0 Z = true) : ((Jvm.Cond.fieldLink "java/lang/String" (38 : Nat) "java/lang/String" "COMPACT_STRINGS" "Z") : Jvm.Cond).before a0 Z = true := hw _ (List.mem_of_getElem? (i := 27) rfl)
theorem w28 {a0 : Array Value} {Z : State} (hw : ∀ d ∈ tables_1, d.before a0 Z = true) : ((Jvm.Cond.fieldLink "java/lang/String" (15 : Nat) "java/lang/String" "coder" "B") : Jvm.Cond).before a0 Z = true := hw _ (List.mem_of_getElem? (i := 28) rfl)
theorem w29 {a0 : Array Value} {Z : State} (hw : ∀ d ∈ tables_1, d.before a0 Z = true) : ((Jvm.Cond.fieldLink "java/lang/String" (9 : Nat) "java/lang/String" "value" "[B") : Jvm.Cond).before a0 Z = true := hw _ (List.mem_of_getElem? (i := 29) rfl)
theorem w30 {a0 : Array Value} {Z : State} (hw : ∀ d ∈ tables_1, d.before a0 Z = true) : ((Jvm.Cond.methodLink "java/lang/String" (505 : Nat) ({ cls := "java/lang/String", name := "length", desc := "()I" } : Jvm.MethodName)) : Jvm.Cond).before a0 Z = true := hw _ (List.mem_of_getElem? (i := 30) rfl)
theorem w31 {a0 : Array Value} {Z : State} (hw : ∀ d ∈ tables_1, d.before a0 Z = true) : ((Jvm.Cond.declares ({ cls := "java/lang/String", name := "length", desc := "()I" } : Jvm.MethodName)) : Jvm.Cond).before a0 Z = true := hw _ (List.mem_of_getElem? (i := 31) rfl)
theorem w32 {a0 : Array Value} {Z : State} (hw : ∀ d ∈ tables_1, d.before a0 Z = true) : ((Jvm.Cond.instanceMethod ({ cls := "java/lang/String", name := "length", desc := "()I" } : Jvm.MethodName)) : Jvm.Cond).before a0 Z = true := hw _ (List.mem_of_getElem? (i := 32) rfl)
theorem w33 {a0 : Array Value} {Z : State} (hw : ∀ d ∈ tables_1, d.before a0 Z = true) : ((Jvm.Cond.selects "java/lang/String" ({ cls := "java/lang/String", name := "length", desc := "()I" } : Jvm.MethodName) ({ cls := "java/lang/String", name := "length", desc := "()I" } : Jvm.MethodName)) : Jvm.Cond).before a0 Z = true := hw _ (List.mem_of_getElem? (i := 33) rfl)
theorem w34 {a0 : Array Value} {Z : State} (hw : ∀ d ∈ tables_1, d.before a0 Z = true) : ((Jvm.Cond.code ({ cls := "java/lang/String", name := "length", desc := "()I" } : Jvm.MethodName) jdk_42_method_54_code (1 : Nat) (Option.some Jvm.ClassFile.FieldType.int)) : Jvm.Cond).before a0 Z = true := hw _ (List.mem_of_getElem? (i := 34) rfl)
theorem w35 {a0 : Array Value} {Z : State} (hw : ∀ d ∈ tables_1, d.before a0 Z = true) : ((Jvm.Cond.methodLink "java/lang/String" (335 : Nat) ({ cls := "java/lang/String", name := "coder", desc := "()B" } : Jvm.MethodName)) : Jvm.Cond).before a0 Z = true := hw _ (List.mem_of_getElem? (i := 35) rfl)
theorem w36 {a0 : Array Value} {Z : State} (hw : ∀ d ∈ tables_1, d.before a0 Z = true) : ((Jvm.Cond.declares ({ cls := "java/lang/String", name := "coder", desc := "()B" } : Jvm.MethodName)) : Jvm.Cond).before a0 Z = true := hw _ (List.mem_of_getElem? (i := 36) rfl)
theorem w37 {a0 : Array Value} {Z : State} (hw : ∀ d ∈ tables_1, d.before a0 Z = true) : ((Jvm.Cond.instanceMethod ({ cls := "java/lang/String", name := "coder", desc := "()B" } : Jvm.MethodName)) : Jvm.Cond).before a0 Z = true := hw _ (List.mem_of_getElem? (i := 37) rfl)
theorem w38 {a0 : Array Value} {Z : State} (hw : ∀ d ∈ tables_1, d.before a0 Z = true) : ((Jvm.Cond.selects "java/lang/String" ({ cls := "java/lang/String", name := "coder", desc := "()B" } : Jvm.MethodName) ({ cls := "java/lang/String", name := "coder", desc := "()B" } : Jvm.MethodName)) : Jvm.Cond).before a0 Z = true := hw _ (List.mem_of_getElem? (i := 38) rfl)
theorem w39 {a0 : Array Value} {Z : State} (hw : ∀ d ∈ tables_1, d.before a0 Z = true) : ((Jvm.Cond.code ({ cls := "java/lang/String", name := "coder", desc := "()B" } : Jvm.MethodName) jdk_42_method_152_code (1 : Nat) (Option.some Jvm.ClassFile.FieldType.byte)) : Jvm.Cond).before a0 Z = true := hw _ (List.mem_of_getElem? (i := 39) rfl)
theorem w40 {a0 : Array Value} {Z : State} (hw : ∀ d ∈ tables_1, d.before a0 Z = true) : ((Jvm.Cond.methodLink "java/lang/String" (637 : Nat) ({ cls := "java/lang/StringLatin1", name := "indexOf", desc := "([BIII)I" } : Jvm.MethodName)) : Jvm.Cond).before a0 Z = true := hw _ (List.mem_of_getElem? (i := 40) rfl)
theorem w41 {a0 : Array Value} {Z : State} (hw : ∀ d ∈ tables_1, d.before a0 Z = true) : ((Jvm.Cond.static ({ cls := "java/lang/StringLatin1", name := "indexOf", desc := "([BIII)I" } : Jvm.MethodName)) : Jvm.Cond).before a0 Z = true := hw _ (List.mem_of_getElem? (i := 41) rfl)
theorem w42 {a0 : Array Value} {Z : State} (hw : ∀ d ∈ tables_1, d.before a0 Z = true) : ((Jvm.Cond.initialized "java/lang/StringLatin1") : Jvm.Cond).before a0 Z = true := hw _ (List.mem_of_getElem? (i := 42) rfl)
theorem w43 {a0 : Array Value} {Z : State} (hw : ∀ d ∈ tables_1, d.before a0 Z = true) : ((Jvm.Cond.code ({ cls := "java/lang/StringLatin1", name := "indexOf", desc := "([BIII)I" } : Jvm.MethodName) jdk_43_method_22_code (4 : Nat) (Option.some Jvm.ClassFile.FieldType.int)) : Jvm.Cond).before a0 Z = true := hw _ (List.mem_of_getElem? (i := 43) rfl)
theorem w44 {a0 : Array Value} {Z : State} (hw : ∀ d ∈ tables_1, d.before a0 Z = true) : ((Jvm.Cond.methodLink "java/lang/StringLatin1" (88 : Nat) ({ cls := "java/lang/StringLatin1", name := "canEncode", desc := "(I)Z" } : Jvm.MethodName)) : Jvm.Cond).before a0 Z = true := hw _ (List.mem_of_getElem? (i := 44) rfl)
theorem w45 {a0 : Array Value} {Z : State} (hw : ∀ d ∈ tables_1, d.before a0 Z = true) : ((Jvm.Cond.static ({ cls := "java/lang/StringLatin1", name := "canEncode", desc := "(I)Z" } : Jvm.MethodName)) : Jvm.Cond).before a0 Z = true := hw _ (List.mem_of_getElem? (i := 45) rfl)
theorem w46 {a0 : Array Value} {Z : State} (hw : ∀ d ∈ tables_1, d.before a0 Z = true) : ((Jvm.Cond.code ({ cls := "java/lang/StringLatin1", name := "canEncode", desc := "(I)Z" } : Jvm.MethodName) jdk_43_method_4_code (1 : Nat) (Option.some Jvm.ClassFile.FieldType.boolean)) : Jvm.Cond).before a0 Z = true := hw _ (List.mem_of_getElem? (i := 46) rfl)
theorem w47 {a0 : Array Value} {Z : State} (hw : ∀ d ∈ tables_1, d.before a0 Z = true) : ((Jvm.Cond.methodLink "java/lang/StringLatin1" (92 : Nat) ({ cls := "java/lang/Math", name := "max", desc := "(II)I" } : Jvm.MethodName)) : Jvm.Cond).before a0 Z = true := hw _ (List.mem_of_getElem? (i := 47) rfl)
theorem w48 {a0 : Array Value} {Z : State} (hw : ∀ d ∈ tables_1, d.before a0 Z = true) : ((Jvm.Cond.static ({ cls := "java/lang/Math", name := "max", desc := "(II)I" } : Jvm.MethodName)) : Jvm.Cond).before a0 Z = true := hw _ (List.mem_of_getElem? (i := 48) rfl)
theorem w49 {a0 : Array Value} {Z : State} (hw : ∀ d ∈ tables_1, d.before a0 Z = true) : ((Jvm.Cond.initialized "java/lang/Math") : Jvm.Cond).before a0 Z = true := hw _ (List.mem_of_getElem? (i := 49) rfl)
theorem w50 {a0 : Array Value} {Z : State} (hw : ∀ d ∈ tables_1, d.before a0 Z = true) : ((Jvm.Cond.code ({ cls := "java/lang/Math", name := "max", desc := "(II)I" } : Jvm.MethodName) jdk_29_method_65_code (2 : Nat) (Option.some Jvm.ClassFile.FieldType.int)) : Jvm.Cond).before a0 Z = true := hw _ (List.mem_of_getElem? (i := 50) rfl)
theorem w51 {a0 : Array Value} {Z : State} (hw : ∀ d ∈ tables_1, d.before a0 Z = true) : ((Jvm.Cond.methodLink "java/lang/StringLatin1" (38 : Nat) ({ cls := "java/lang/Math", name := "min", desc := "(II)I" } : Jvm.MethodName)) : Jvm.Cond).before a0 Z = true := hw _ (List.mem_of_getElem? (i := 51) rfl)
theorem w52 {a0 : Array Value} {Z : State} (hw : ∀ d ∈ tables_1, d.before a0 Z = true) : ((Jvm.Cond.static ({ cls := "java/lang/Math", name := "min", desc := "(II)I" } : Jvm.MethodName)) : Jvm.Cond).before a0 Z = true := hw _ (List.mem_of_getElem? (i := 52) rfl)
theorem w53 {a0 : Array Value} {Z : State} (hw : ∀ d ∈ tables_1, d.before a0 Z = true) : ((Jvm.Cond.code ({ cls := "java/lang/Math", name := "min", desc := "(II)I" } : Jvm.MethodName) jdk_29_method_69_code (2 : Nat) (Option.some Jvm.ClassFile.FieldType.int)) : Jvm.Cond).before a0 Z = true := hw _ (List.mem_of_getElem? (i := 53) rfl)
theorem w54 {a0 : Array Value} {Z : State} (hw : ∀ d ∈ tables_1, d.before a0 Z = true) : ((Jvm.Cond.methodLink "java/lang/StringLatin1" (95 : Nat) ({ cls := "java/lang/StringLatin1", name := "indexOfChar", desc := "([BIII)I" } : Jvm.MethodName)) : Jvm.Cond).before a0 Z = true := hw _ (List.mem_of_getElem? (i := 54) rfl)
theorem w55 {a0 : Array Value} {Z : State} (hw : ∀ d ∈ tables_1, d.before a0 Z = true) : ((Jvm.Cond.static ({ cls := "java/lang/StringLatin1", name := "indexOfChar", desc := "([BIII)I" } : Jvm.MethodName)) : Jvm.Cond).before a0 Z = true := hw _ (List.mem_of_getElem? (i := 55) rfl)
theorem w56 {a0 : Array Value} {Z : State} (hw : ∀ d ∈ tables_1, d.before a0 Z = true) : ((Jvm.Cond.code ({ cls := "java/lang/StringLatin1", name := "indexOfChar", desc := "([BIII)I" } : Jvm.MethodName) jdk_43_method_23_code (6 : Nat) (Option.some Jvm.ClassFile.FieldType.int)) : Jvm.Cond).before a0 Z = true := hw _ (List.mem_of_getElem? (i := 56) rfl)
theorem w57 {a0 : Array Value} {Z : State} (hw : ∀ d ∈ tables_1, d.before a0 Z = true) : ((Jvm.Cond.methodLink "org/pathbind/HeaderFieldsIsTokenCharacterPinLaw" (18 : Nat) ({ cls := "org/pathbind/HeaderFieldsIsTokenCharacterPinLaw", name := "ref", desc := "(I)Z" } : Jvm.MethodName)) : Jvm.Cond).before a0 Z = true := hw _ (List.mem_of_getElem? (i := 57) rfl)
theorem w58 {a0 : Array Value} {Z : State} (hw : ∀ d ∈ tables_1, d.before a0 Z = true) : ((Jvm.Cond.static ({ cls := "org/pathbind/HeaderFieldsIsTokenCharacterPinLaw", name := "ref", desc := "(I)Z" } : Jvm.MethodName)) : Jvm.Cond).before a0 Z = true := hw _ (List.mem_of_getElem? (i := 58) rfl)
theorem w59 {a0 : Array Value} {Z : State} (hw : ∀ d ∈ tables_1, d.before a0 Z = true) : ((Jvm.Cond.initialized "org/pathbind/HeaderFieldsIsTokenCharacterPinLaw") : Jvm.Cond).before a0 Z = true := hw _ (List.mem_of_getElem? (i := 59) rfl)
theorem w60 {a0 : Array Value} {Z : State} (hw : ∀ d ∈ tables_1, d.before a0 Z = true) : ((Jvm.Cond.code ({ cls := "org/pathbind/HeaderFieldsIsTokenCharacterPinLaw", name := "ref", desc := "(I)Z" } : Jvm.MethodName) method_3_code (1 : Nat) (Option.some Jvm.ClassFile.FieldType.boolean)) : Jvm.Cond).before a0 Z = true := hw _ (List.mem_of_getElem? (i := 60) rfl)
theorem w61 {a0 : Array Value} {Z : State} (hw : ∀ d ∈ tables_1, d.before a0 Z = true) : ((Jvm.Cond.methodLink "org/pathbind/HeaderFieldsIsTokenCharacterPinLaw" (7 : Nat) ({ cls := "org/pathbind/HeaderFieldsIsTokenCharacterPinLaw", name := "isDelimiter", desc := "(I)Z" } : Jvm.MethodName)) : Jvm.Cond).before a0 Z = true := hw _ (List.mem_of_getElem? (i := 61) rfl)
theorem w62 {a0 : Array Value} {Z : State} (hw : ∀ d ∈ tables_1, d.before a0 Z = true) : ((Jvm.Cond.static ({ cls := "org/pathbind/HeaderFieldsIsTokenCharacterPinLaw", name := "isDelimiter", desc := "(I)Z" } : Jvm.MethodName)) : Jvm.Cond).before a0 Z = true := hw _ (List.mem_of_getElem? (i := 62) rfl)
theorem w63 {a0 : Array Value} {Z : State} (hw : ∀ d ∈ tables_1, d.before a0 Z = true) : ((Jvm.Cond.code ({ cls := "org/pathbind/HeaderFieldsIsTokenCharacterPinLaw", name := "isDelimiter", desc := "(I)Z" } : Jvm.MethodName) method_2_code (1 : Nat) (Option.some Jvm.ClassFile.FieldType.boolean)) : Jvm.Cond).before a0 Z = true := hw _ (List.mem_of_getElem? (i := 63) rfl)
theorem d6_0 : decode jdk_42_method_152_code 0 = .ok (.getstatic 38, 3) := by decide +kernel
theorem d6_3 : decode jdk_42_method_152_code 3 = .ok (.ifCond .eq 10, 3) := by decide +kernel
theorem d6_6 : decode jdk_42_method_152_code 6 = .ok (.aload_n 0, 1) := by decide +kernel
theorem d6_7 : decode jdk_42_method_152_code 7 = .ok (.getfield 15, 3) := by decide +kernel
theorem d6_10 : decode jdk_42_method_152_code 10 = .ok (.goto 4, 3) := by decide +kernel
theorem d6_14 : decode jdk_42_method_152_code 14 = .ok (.ireturn, 1) := by decide +kernel
theorem pn_0 : plainName "java/lang/String" = true := by first | (simp [plainName, overriddenIn]; done) | decide +kernel
theorem d4_0 : decode jdk_42_method_154_code 0 = .ok (.getstatic 38, 3) := by decide +kernel
theorem d4_3 : decode jdk_42_method_154_code 3 = .ok (.ifCond .eq 14, 3) := by decide +kernel
theorem d4_6 : decode jdk_42_method_154_code 6 = .ok (.aload_n 0, 1) := by decide +kernel
theorem d4_7 : decode jdk_42_method_154_code 7 = .ok (.getfield 15, 3) := by decide +kernel
theorem d4_10 : decode jdk_42_method_154_code 10 = .ok (.ifCond .ne 7, 3) := by decide +kernel
theorem d4_13 : decode jdk_42_method_154_code 13 = .ok (.iconst 1, 1) := by decide +kernel
theorem d4_14 : decode jdk_42_method_154_code 14 = .ok (.goto 4, 3) := by decide +kernel
theorem d4_18 : decode jdk_42_method_154_code 18 = .ok (.ireturn, 1) := by decide +kernel
theorem d5_0 : decode jdk_42_method_54_code 0 = .ok (.aload_n 0, 1) := by decide +kernel
theorem d5_1 : decode jdk_42_method_54_code 1 = .ok (.getfield 9, 3) := by decide +kernel
theorem d5_4 : decode jdk_42_method_54_code 4 = .ok (.arraylength, 1) := by decide +kernel
theorem d5_5 : decode jdk_42_method_54_code 5 = .ok (.aload_n 0, 1) := by decide +kernel
theorem d5_6 : decode jdk_42_method_54_code 6 = .ok (.invokevirtual 335, 3) := by decide +kernel
theorem pd_0 : parseMethodDescriptor "()B" = some ⟨[], some .byte⟩ := by decide +kernel
theorem d5_9 : decode jdk_42_method_54_code 9 = .ok (.ishr, 1) := by decide +kernel
theorem d5_10 : decode jdk_42_method_54_code 10 = .ok (.ireturn, 1) := by decide +kernel
theorem d8_0 : decode jdk_43_method_4_code 0 = .ok (.iload_n 0, 1) := by decide +kernel
theorem d8_1 : decode jdk_43_method_4_code 1 = .ok (.ifCond .lt 14, 3) := by decide +kernel
theorem d8_15 : decode jdk_43_method_4_code 15 = .ok (.iconst 0, 1) := by decide +kernel
theorem d8_16 : decode jdk_43_method_4_code 16 = .ok (.ireturn, 1) := by decide +kernel
theorem d8_4 : decode jdk_43_method_4_code 4 = .ok (.iload_n 0, 1) := by decide +kernel
theorem d8_5 : decode jdk_43_method_4_code 5 = .ok (.sipush 255, 3) := by decide +kernel
theorem d8_8 : decode jdk_43_method_4_code 8 = .ok (.if_icmp .gt 7, 3) := by decide +kernel
theorem d8_11 : decode jdk_43_method_4_code 11 = .ok (.iconst 1, 1) := by decide +kernel
theorem d8_12 : decode jdk_43_method_4_code 12 = .ok (.goto 4, 3) := by decide +kernel
theorem pn_1 : plainName "java/lang/StringLatin1" = true := by first | (simp [plainName, overriddenIn]; done) | decide +kernel
theorem d9_0 : decode jdk_29_method_65_code 0 = .ok (.iload_n 0, 1) := by decide +kernel
theorem d9_1 : decode jdk_29_method_65_code 1 = .ok (.iload_n 1, 1) := by decide +kernel
theorem d9_2 : decode jdk_29_method_65_code 2 = .ok (.if_icmp .lt 7, 3) := by decide +kernel
theorem d9_5 : decode jdk_29_method_65_code 5 = .ok (.iload_n 0, 1) := by decide +kernel
theorem d9_6 : decode jdk_29_method_65_code 6 = .ok (.goto 4, 3) := by decide +kernel
theorem d9_10 : decode jdk_29_method_65_code 10 = .ok (.ireturn, 1) := by decide +kernel
theorem d10_0 : decode jdk_29_method_69_code 0 = .ok (.iload_n 0, 1) := by decide +kernel
theorem d10_1 : decode jdk_29_method_69_code 1 = .ok (.iload_n 1, 1) := by decide +kernel
theorem d10_2 : decode jdk_29_method_69_code 2 = .ok (.if_icmp .gt 7, 3) := by decide +kernel
theorem d10_5 : decode jdk_29_method_69_code 5 = .ok (.iload_n 0, 1) := by decide +kernel
theorem d10_6 : decode jdk_29_method_69_code 6 = .ok (.goto 4, 3) := by decide +kernel
theorem d10_10 : decode jdk_29_method_69_code 10 = .ok (.ireturn, 1) := by decide +kernel
theorem d11_0 : decode jdk_43_method_23_code 0 = .ok (.iload_n 1, 1) := by decide +kernel
theorem d11_1 : decode jdk_43_method_23_code 1 = .ok (.i2b, 1) := by decide +kernel
theorem d11_2 : decode jdk_43_method_23_code 2 = .ok (.istore 4, 2) := by decide +kernel
theorem d11_4 : decode jdk_43_method_23_code 4 = .ok (.iload_n 2, 1) := by decide +kernel
theorem d11_5 : decode jdk_43_method_23_code 5 = .ok (.istore 5, 2) := by decide +kernel
theorem d11_7 : decode jdk_43_method_23_code 7 = .ok (.iload 5, 2) := by decide +kernel
theorem d11_9 : decode jdk_43_method_23_code 9 = .ok (.iload_n 3, 1) := by decide +kernel
theorem d11_10 : decode jdk_43_method_23_code 10 = .ok (.if_icmp .ge 21, 3) := by decide +kernel
theorem d11_13 : decode jdk_43_method_23_code 13 = .ok (.aload_n 0, 1) := by decide +kernel
theorem d11_14 : decode jdk_43_method_23_code 14 = .ok (.iload 5, 2) := by decide +kernel
theorem d11_16 : decode jdk_43_method_23_code 16 = .ok (.baload, 1) := by decide +kernel
theorem d11_17 : decode jdk_43_method_23_code 17 = .ok (.iload 4, 2) := by decide +kernel
theorem d11_19 : decode jdk_43_method_23_code 19 = .ok (.if_icmp .ne 6, 3) := by decide +kernel
theorem d11_22 : decode jdk_43_method_23_code 22 = .ok (.iload 5, 2) := by decide +kernel
theorem d11_24 : decode jdk_43_method_23_code 24 = .ok (.ireturn, 1) := by decide +kernel
theorem d11_25 : decode jdk_43_method_23_code 25 = .ok (.iinc 5 1, 3) := by decide +kernel
theorem d11_28 : decode jdk_43_method_23_code 28 = .ok (.goto (-21), 3) := by decide +kernel
theorem d11_31 : decode jdk_43_method_23_code 31 = .ok (.iconst (-1), 1) := by decide +kernel
theorem d11_32 : decode jdk_43_method_23_code 32 = .ok (.ireturn, 1) := by decide +kernel
theorem d7_0 : decode jdk_43_method_22_code 0 = .ok (.iload_n 1, 1) := by decide +kernel
theorem d7_1 : decode jdk_43_method_22_code 1 = .ok (.invokestatic 88, 3) := by decide +kernel
theorem pd_1 : parseMethodDescriptor "(I)Z" = some ⟨[.int], some .boolean⟩ := by decide +kernel
theorem d7_4 : decode jdk_43_method_22_code 4 = .ok (.ifCond .ne 5, 3) := by decide +kernel
theorem d7_7 : decode jdk_43_method_22_code 7 = .ok (.iconst (-1), 1) := by decide +kernel
theorem d7_8 : decode jdk_43_method_22_code 8 = .ok (.ireturn, 1) := by decide +kernel
theorem d7_9 : decode jdk_43_method_22_code 9 = .ok (.iload_n 2, 1) := by decide +kernel
theorem d7_10 : decode jdk_43_method_22_code 10 = .ok (.iconst 0, 1) := by decide +kernel
theorem d7_11 : decode jdk_43_method_22_code 11 = .ok (.invokestatic 92, 3) := by decide +kernel
theorem pd_2 : parseMethodDescriptor "(II)I" = some ⟨[.int, .int], some .int⟩ := by decide +kernel
theorem d7_14 : decode jdk_43_method_22_code 14 = .ok (.istore_n 2, 1) := by decide +kernel
theorem d7_15 : decode jdk_43_method_22_code 15 = .ok (.iload_n 3, 1) := by decide +kernel
theorem d7_16 : decode jdk_43_method_22_code 16 = .ok (.aload_n 0, 1) := by decide +kernel
theorem d7_17 : decode jdk_43_method_22_code 17 = .ok (.arraylength, 1) := by decide +kernel
theorem d7_18 : decode jdk_43_method_22_code 18 = .ok (.invokestatic 38, 3) := by decide +kernel
theorem d7_21 : decode jdk_43_method_22_code 21 = .ok (.istore_n 3, 1) := by decide +kernel
theorem d7_22 : decode jdk_43_method_22_code 22 = .ok (.iload_n 2, 1) := by decide +kernel
theorem d7_23 : decode jdk_43_method_22_code 23 = .ok (.iload_n 3, 1) := by decide +kernel
theorem d7_24 : decode jdk_43_method_22_code 24 = .ok (.if_icmp .lt 5, 3) := by decide +kernel
theorem d7_29 : decode jdk_43_method_22_code 29 = .ok (.aload_n 0, 1) := by decide +kernel
theorem d7_30 : decode jdk_43_method_22_code 30 = .ok (.iload_n 1, 1) := by decide +kernel
theorem d7_31 : decode jdk_43_method_22_code 31 = .ok (.iload_n 2, 1) := by decide +kernel
theorem d7_32 : decode jdk_43_method_22_code 32 = .ok (.iload_n 3, 1) := by decide +kernel
theorem d7_33 : decode jdk_43_method_22_code 33 = .ok (.invokestatic 95, 3) := by decide +kernel
theorem pd_3 : parseMethodDescriptor "([BIII)I" = some ⟨[(.array .byte), .int, .int, .int], some .int⟩ := by decide +kernel
theorem d7_36 : decode jdk_43_method_22_code 36 = .ok (.ireturn, 1) := by decide +kernel
theorem d3_0 : decode jdk_42_method_80_code 0 = .ok (.aload_n 0, 1) := by decide +kernel
theorem d3_1 : decode jdk_42_method_80_code 1 = .ok (.invokevirtual 492, 3) := by decide +kernel
theorem pd_4 : parseMethodDescriptor "()Z" = some ⟨[], some .boolean⟩ := by decide +kernel
theorem d3_4 : decode jdk_42_method_80_code 4 = .ok (.ifCond .eq 19, 3) := by decide +kernel
theorem d3_7 : decode jdk_42_method_80_code 7 = .ok (.aload_n 0, 1) := by decide +kernel
theorem d3_8 : decode jdk_42_method_80_code 8 = .ok (.getfield 9, 3) := by decide +kernel
theorem d3_11 : decode jdk_42_method_80_code 11 = .ok (.iload_n 1, 1) := by decide +kernel
theorem d3_12 : decode jdk_42_method_80_code 12 = .ok (.iload_n 2, 1) := by decide +kernel
theorem d3_13 : decode jdk_42_method_80_code 13 = .ok (.aload_n 0, 1) := by decide +kernel
theorem d3_14 : decode jdk_42_method_80_code 14 = .ok (.invokevirtual 505, 3) := by decide +kernel
theorem pd_5 : parseMethodDescriptor "()I" = some ⟨[], some .int⟩ := by decide +kernel
theorem d3_17 : decode jdk_42_method_80_code 17 = .ok (.invokestatic 637, 3) := by decide +kernel
theorem d3_20 : decode jdk_42_method_80_code 20 = .ok (.goto 16, 3) := by decide +kernel
theorem d3_36 : decode jdk_42_method_80_code 36 = .ok (.ireturn, 1) := by decide +kernel
theorem d2_0 : decode jdk_42_method_79_code 0 = .ok (.aload_n 0, 1) := by decide +kernel
theorem d2_1 : decode jdk_42_method_79_code 1 = .ok (.iload_n 1, 1) := by decide +kernel
theorem d2_2 : decode jdk_42_method_79_code 2 = .ok (.iconst 0, 1) := by decide +kernel
theorem d2_3 : decode jdk_42_method_79_code 3 = .ok (.invokevirtual 633, 3) := by decide +kernel
theorem d2_6 : decode jdk_42_method_79_code 6 = .ok (.ireturn, 1) := by decide +kernel
theorem d13_0 : decode method_2_code 0 = .ok (.iload_n 0, 1) := by decide +kernel
theorem d13_1 : decode method_2_code 1 = .ok (.bipush 34, 2) := by decide +kernel
theorem d13_3 : decode method_2_code 3 = .ok (.if_icmp .eq 99, 3) := by decide +kernel
theorem d13_102 : decode method_2_code 102 = .ok (.iconst 1, 1) := by decide +kernel
theorem d13_103 : decode method_2_code 103 = .ok (.goto 4, 3) := by decide +kernel
theorem d13_107 : decode method_2_code 107 = .ok (.ireturn, 1) := by decide +kernel
theorem d13_6 : decode method_2_code 6 = .ok (.iload_n 0, 1) := by decide +kernel
theorem d13_7 : decode method_2_code 7 = .ok (.bipush 40, 2) := by decide +kernel
theorem d13_9 : decode method_2_code 9 = .ok (.if_icmp .eq 93, 3) := by decide +kernel
theorem d13_12 : decode method_2_code 12 = .ok (.iload_n 0, 1) := by decide +kernel
theorem d13_13 : decode method_2_code 13 = .ok (.bipush 41, 2) := by decide +kernel
theorem d13_15 : decode method_2_code 15 = .ok (.if_icmp .eq 87, 3) := by decide +kernel
theorem d13_18 : decode method_2_code 18 = .ok (.iload_n 0, 1) := by decide +kernel
theorem d13_19 : decode method_2_code 19 = .ok (.bipush 44, 2) := by decide +kernel
theorem d13_21 : decode method_2_code 21 = .ok (.if_icmp .eq 81, 3) := by decide +kernel
theorem d13_24 : decode method_2_code 24 = .ok (.iload_n 0, 1) := by decide +kernel
theorem d13_25 : decode method_2_code 25 = .ok (.bipush 47, 2) := by decide +kernel
theorem d13_27 : decode method_2_code 27 = .ok (.if_icmp .eq 75, 3) := by decide +kernel
theorem d13_30 : decode method_2_code 30 = .ok (.iload_n 0, 1) := by decide +kernel
theorem d13_31 : decode method_2_code 31 = .ok (.bipush 58, 2) := by decide +kernel
theorem d13_33 : decode method_2_code 33 = .ok (.if_icmp .eq 69, 3) := by decide +kernel
theorem d13_36 : decode method_2_code 36 = .ok (.iload_n 0, 1) := by decide +kernel
theorem d13_37 : decode method_2_code 37 = .ok (.bipush 59, 2) := by decide +kernel
theorem d13_39 : decode method_2_code 39 = .ok (.if_icmp .eq 63, 3) := by decide +kernel
theorem d13_42 : decode method_2_code 42 = .ok (.iload_n 0, 1) := by decide +kernel
theorem d13_43 : decode method_2_code 43 = .ok (.bipush 60, 2) := by decide +kernel
theorem d13_45 : decode method_2_code 45 = .ok (.if_icmp .eq 57, 3) := by decide +kernel
theorem d13_48 : decode method_2_code 48 = .ok (.iload_n 0, 1) := by decide +kernel
theorem d13_49 : decode method_2_code 49 = .ok (.bipush 61, 2) := by decide +kernel
theorem d13_51 : decode method_2_code 51 = .ok (.if_icmp .eq 51, 3) := by decide +kernel
theorem d13_54 : decode method_2_code 54 = .ok (.iload_n 0, 1) := by decide +kernel
theorem d13_55 : decode method_2_code 55 = .ok (.bipush 62, 2) := by decide +kernel
theorem d13_57 : decode method_2_code 57 = .ok (.if_icmp .eq 45, 3) := by decide +kernel
theorem d13_60 : decode method_2_code 60 = .ok (.iload_n 0, 1) := by decide +kernel
theorem d13_61 : decode method_2_code 61 = .ok (.bipush 63, 2) := by decide +kernel
theorem d13_63 : decode method_2_code 63 = .ok (.if_icmp .eq 39, 3) := by decide +kernel
theorem d13_66 : decode method_2_code 66 = .ok (.iload_n 0, 1) := by decide +kernel
theorem d13_67 : decode method_2_code 67 = .ok (.bipush 64, 2) := by decide +kernel
theorem d13_69 : decode method_2_code 69 = .ok (.if_icmp .eq 33, 3) := by decide +kernel
theorem d13_72 : decode method_2_code 72 = .ok (.iload_n 0, 1) := by decide +kernel
theorem d13_73 : decode method_2_code 73 = .ok (.bipush 91, 2) := by decide +kernel
theorem d13_75 : decode method_2_code 75 = .ok (.if_icmp .eq 27, 3) := by decide +kernel
theorem d13_78 : decode method_2_code 78 = .ok (.iload_n 0, 1) := by decide +kernel
theorem d13_79 : decode method_2_code 79 = .ok (.bipush 92, 2) := by decide +kernel
theorem d13_81 : decode method_2_code 81 = .ok (.if_icmp .eq 21, 3) := by decide +kernel
theorem d13_84 : decode method_2_code 84 = .ok (.iload_n 0, 1) := by decide +kernel
theorem d13_85 : decode method_2_code 85 = .ok (.bipush 93, 2) := by decide +kernel
theorem d13_87 : decode method_2_code 87 = .ok (.if_icmp .eq 15, 3) := by decide +kernel
theorem d13_90 : decode method_2_code 90 = .ok (.iload_n 0, 1) := by decide +kernel
theorem d13_91 : decode method_2_code 91 = .ok (.bipush 123, 2) := by decide +kernel
theorem d13_93 : decode method_2_code 93 = .ok (.if_icmp .eq 9, 3) := by decide +kernel
theorem d13_96 : decode method_2_code 96 = .ok (.iload_n 0, 1) := by decide +kernel
theorem d13_97 : decode method_2_code 97 = .ok (.bipush 125, 2) := by decide +kernel
theorem d13_99 : decode method_2_code 99 = .ok (.if_icmp .ne 7, 3) := by decide +kernel
theorem d13_106 : decode method_2_code 106 = .ok (.iconst 0, 1) := by decide +kernel
theorem pn_2 : plainName "org/pathbind/HeaderFieldsIsTokenCharacterPinLaw" = true := by first | (simp [plainName, overriddenIn]; done) | decide +kernel
theorem d12_0 : decode method_3_code 0 = .ok (.iload_n 0, 1) := by decide +kernel
theorem d12_1 : decode method_3_code 1 = .ok (.bipush 32, 2) := by decide +kernel
theorem d12_3 : decode method_3_code 3 = .ok (.if_icmp .le 9, 3) := by decide +kernel
theorem d12_6 : decode method_3_code 6 = .ok (.iload_n 0, 1) := by decide +kernel
theorem d12_7 : decode method_3_code 7 = .ok (.bipush 127, 2) := by decide +kernel
theorem d12_9 : decode method_3_code 9 = .ok (.if_icmp .lt 5, 3) := by decide +kernel
theorem d12_14 : decode method_3_code 14 = .ok (.iload_n 0, 1) := by decide +kernel
theorem d12_15 : decode method_3_code 15 = .ok (.invokestatic 7, 3) := by decide +kernel
theorem d12_18 : decode method_3_code 18 = .ok (.ifCond .ne 7, 3) := by decide +kernel
theorem d12_21 : decode method_3_code 21 = .ok (.iconst 1, 1) := by decide +kernel
theorem d12_22 : decode method_3_code 22 = .ok (.goto 4, 3) := by decide +kernel
theorem d12_26 : decode method_3_code 26 = .ok (.ireturn, 1) := by decide +kernel
theorem d12_25 : decode method_3_code 25 = .ok (.iconst 0, 1) := by decide +kernel
theorem d12_12 : decode method_3_code 12 = .ok (.iconst 0, 1) := by decide +kernel
theorem d12_13 : decode method_3_code 13 = .ok (.ireturn, 1) := by decide +kernel
theorem d1_36 : decode prog_25_method_7_code 36 = .ok (.ldc 138, 2) := by decide +kernel
theorem d1_38 : decode prog_25_method_7_code 38 = .ok (.iload_n 0, 1) := by decide +kernel
theorem d1_39 : decode prog_25_method_7_code 39 = .ok (.invokevirtual 140, 3) := by decide +kernel
theorem pd_6 : parseMethodDescriptor "(I)I" = some ⟨[.int], some .int⟩ := by decide +kernel
theorem d1_42 : decode prog_25_method_7_code 42 = .ok (.ifCond .lt 7, 3) := by decide +kernel
theorem d1_49 : decode prog_25_method_7_code 49 = .ok (.iconst 0, 1) := by decide +kernel
theorem d1_50 : decode prog_25_method_7_code 50 = .ok (.ireturn, 1) := by decide +kernel
theorem d1_45 : decode prog_25_method_7_code 45 = .ok (.iconst 1, 1) := by decide +kernel
theorem d1_46 : decode prog_25_method_7_code 46 = .ok (.goto 4, 3) := by decide +kernel
theorem d1_0 : decode prog_25_method_7_code 0 = .ok (.iload_n 0, 1) := by decide +kernel
theorem d1_1 : decode prog_25_method_7_code 1 = .ok (.bipush 97, 2) := by decide +kernel
theorem d1_3 : decode prog_25_method_7_code 3 = .ok (.if_icmp .lt 9, 3) := by decide +kernel
theorem d1_12 : decode prog_25_method_7_code 12 = .ok (.iload_n 0, 1) := by decide +kernel
theorem d1_13 : decode prog_25_method_7_code 13 = .ok (.bipush 65, 2) := by decide +kernel
theorem d1_15 : decode prog_25_method_7_code 15 = .ok (.if_icmp .lt 9, 3) := by decide +kernel
theorem d1_24 : decode prog_25_method_7_code 24 = .ok (.iload_n 0, 1) := by decide +kernel
theorem d1_25 : decode prog_25_method_7_code 25 = .ok (.bipush 48, 2) := by decide +kernel
theorem d1_27 : decode prog_25_method_7_code 27 = .ok (.if_icmp .lt 9, 3) := by decide +kernel
theorem d1_30 : decode prog_25_method_7_code 30 = .ok (.iload_n 0, 1) := by decide +kernel
theorem d1_31 : decode prog_25_method_7_code 31 = .ok (.bipush 57, 2) := by decide +kernel
theorem d1_33 : decode prog_25_method_7_code 33 = .ok (.if_icmp .le 12, 3) := by decide +kernel
theorem d1_18 : decode prog_25_method_7_code 18 = .ok (.iload_n 0, 1) := by decide +kernel
theorem d1_19 : decode prog_25_method_7_code 19 = .ok (.bipush 90, 2) := by decide +kernel
theorem d1_21 : decode prog_25_method_7_code 21 = .ok (.if_icmp .le 24, 3) := by decide +kernel
theorem d1_6 : decode prog_25_method_7_code 6 = .ok (.iload_n 0, 1) := by decide +kernel
theorem d1_7 : decode prog_25_method_7_code 7 = .ok (.bipush 122, 2) := by decide +kernel
theorem d1_9 : decode prog_25_method_7_code 9 = .ok (.if_icmp .le 36, 3) := by decide +kernel
theorem pn_3 : plainName "org/pathbind/HeaderFields" = true := by first | (simp [plainName, overriddenIn]; done) | decide +kernel
theorem ef_6 (m : MethodId) (a : Addr)  : entryFrame m #[(.ref a)] 1 = mkF m 0 #[.val (.ref a)] [] := by first | (simp [entryFrame, mkF, argsToLocals, Value.category]; done) | rfl
def Q6 (Z : State) (a : Addr) (cs : Int32) (h0 : Heap) (n0 : Nat) (v_ : Option Value) (h_ : Heap) (L_ : List Loc) : Prop := v_ = some (.int (0 : Int32)) ∧ Fr n0 L_ ∧ h_ = h0
set_option maxRecDepth 65536 in
set_option maxHeartbeats 40000000 in
theorem rm6 (l : Launch) (Z : State) (a0 : Array Value) (hw : ∀ d ∈ tables_1, d.before a0 Z = true) (ws : List Jvm.Cond) (a : Addr) (cs : Int32) (h0 : Heap) (n0 : Nat) (Z0 : n0 ≤ h0.size) (P0 : Old Z n0 h0) (P1 : Sta Z Z.heap "java/lang/String" "COMPACT_STRINGS" "Z" (.int cs)) (P2 : ¬ (cs = (0 : Int32))) (P3 : Fld Z h0 a "java/lang/String" "coder" "B" (.int (0 : Int32))) :
    MetFree l (⟨"java/lang/String", "coder", "()B"⟩ : MethodName) (head1 (Jvm.Cond.code (⟨"java/lang/String", "coder", "()B"⟩ : MethodName) jdk_42_method_152_code 1 (some .byte) :: ws) ({ frames := 0, cells := 0, slots := 0, locals := 0 } : Room)) (fun A_ U => A_ = #[(.ref a)] ∧ Z.Warmed39 U.vm ∧ U.heap = h0) (fun _ _ _ _ _ => True) (fun _ U_ o_ U'_ => ∃ v_ L_, o_ = .returned v_ ∧ Q6 Z a cs h0 n0 v_ U'_.heap L_ ∧ FrameEnd U_ o_ U'_ L_ ({ frames := 0, cells := 0, slots := 0, locals := 0 } : Room).cells ({ frames := 0, cells := 0, slots := 0, locals := 0 } : Room).slots) := by
  refine MetFree.of_bodySF (plainFor_of_name pn_0) hisR ?_
  intro p e s m args below meth c s₁ Bd hml0 hP hK
  obtain ⟨rfl, hZ, hh⟩ := hP
  have hx := Bd.exec
  have hby := Bd.bytes
  have hml : c.maxLocals = 1 := hml0
  have hown : s.vm.findClass "java/lang/String" = some m.cls := findClass_of_methodNamed Bd.named
  have hnm := (name_of_methodNamed Bd.named Bd.method).1
  have hlk : meth.locks = false := Bd.notSynchronized
  have X0 : Stand p l e ({ frames := 0, cells := 0, slots := 0, locals := 0 } : Room) s m #[(.ref a)] below meth c s₁ [] 0 0 := Stand.of_body Bd
  have e0 : s₁.heap = h0 := by rw [← hh, Bd.state]; rfl
  have N0 := Fr.nil n0
  have K0 : Keep h0 h0 [] := Keep.refl _ _
  refine own_cast (ef_6 m a) ?_
  show OwnGo p e below s (Q6 Z a cs h0 n0) ({ frames := 0, cells := 0, slots := 0, locals := 0 } : Room).cells ({ frames := 0, cells := 0, slots := 0, locals := 0 } : Room).slots (s₁.setTop (mkF m 0 #[.val (.ref a)] []))
  obtain ⟨T1, X1, e1, st1⟩ := getS2 X0 hx hZ hown (host := "") (Or.inl (w27 hw)) Via.refl e0 (P1.ext P0.2) (g := (mkF m 0 #[.val (.ref a)] [])) rfl (hb hby d6_0)
  refine own_on st1 ?_
  show OwnGo p e below s _ _ _ (T1.setTop (mkF m 3 #[.val (.ref a)] [(.int cs)]))
  refine own_on (fun t_ k_ => XS.ifNo X1.here hx rfl (hb hby d6_3) rfl ((if0 _ _).trans (feq P2).1) k_) ?_
  show OwnGo p e below s _ _ _ (T1.setTop (mkF m 6 #[.val (.ref a)] []))
  refine own_on (fun t_ k_ => XS.aloadN X1.here hx rfl (hb hby d6_6) rfl rfl k_) ?_
  show OwnGo p e below s _ _ _ (T1.setTop (mkF m 7 #[.val (.ref a)] [(.ref a)]))
  obtain ⟨T2, X2, e2, st2⟩ := getF X1 hx hZ hown (host := "") (Or.inl (w28 hw)) Via.refl e1 P3 (g := (mkF m 7 #[.val (.ref a)] [(.ref a)])) rfl rfl (hb hby d6_7)
  refine own_on st2 ?_
  show OwnGo p e below s _ _ _ (T2.setTop (mkF m 10 #[.val (.ref a)] [(.int (0 : Int32))]))
  refine own_on (fun t_ k_ => XS.goto X2.here hx rfl (pc0 := 10) (pc' := 14) rfl (hb hby d6_10) (by decide) (by decide) k_) ?_
  show OwnGo p e below s _ _ _ (T2.setTop (mkF m 14 #[.val (.ref a)] [(.int (0 : Int32))]))
  exact own_retN X2 hx hlk (t := .byte) Bd.returns (by simp) (hb hby d6_14) e2 ⟨rfl, N0, rfl⟩ (by decide) (by decide)
theorem ef_4 (m : MethodId) (a : Addr)  : entryFrame m #[(.ref a)] 1 = mkF m 0 #[.val (.ref a)] [] := by first | (simp [entryFrame, mkF, argsToLocals, Value.category]; done) | rfl
def Q4 (Z : State) (a : Addr) (cs : Int32) (h0 : Heap) (n0 : Nat) (v_ : Option Value) (h_ : Heap) (L_ : List Loc) : Prop := v_ = some (.int (1 : Int32)) ∧ Fr n0 L_ ∧ h_ = h0
set_option maxRecDepth 65536 in
set_option maxHeartbeats 40000000 in
theorem rm4 (l : Launch) (Z : State) (a0 : Array Value) (hw : ∀ d ∈ tables_1, d.before a0 Z = true) (ws : List Jvm.Cond) (a : Addr) (cs : Int32) (h0 : Heap) (n0 : Nat) (Z0 : n0 ≤ h0.size) (P0 : Old Z n0 h0) (P1 : Sta Z Z.heap "java/lang/String" "COMPACT_STRINGS" "Z" (.int cs)) (P2 : ¬ (cs = (0 : Int32))) (P3 : Fld Z h0 a "java/lang/String" "coder" "B" (.int (0 : Int32))) :
    MetFree l (⟨"java/lang/String", "isLatin1", "()Z"⟩ : MethodName) (head1 (Jvm.Cond.code (⟨"java/lang/String", "isLatin1", "()Z"⟩ : MethodName) jdk_42_method_154_code 1 (some .boolean) :: ws) ({ frames := 0, cells := 0, slots := 0, locals := 0 } : Room)) (fun A_ U => A_ = #[(.ref a)] ∧ Z.Warmed39 U.vm ∧ U.heap = h0) (fun _ _ _ _ _ => True) (fun _ U_ o_ U'_ => ∃ v_ L_, o_ = .returned v_ ∧ Q4 Z a cs h0 n0 v_ U'_.heap L_ ∧ FrameEnd U_ o_ U'_ L_ ({ frames := 0, cells := 0, slots := 0, locals := 0 } : Room).cells ({ frames := 0, cells := 0, slots := 0, locals := 0 } : Room).slots) := by
  refine MetFree.of_bodySF (plainFor_of_name pn_0) hisR ?_
  intro p e s m args below meth c s₁ Bd hml0 hP hK
  obtain ⟨rfl, hZ, hh⟩ := hP
  have hx := Bd.exec
  have hby := Bd.bytes
  have hml : c.maxLocals = 1 := hml0
  have hown : s.vm.findClass "java/lang/String" = some m.cls := findClass_of_methodNamed Bd.named
  have hnm := (name_of_methodNamed Bd.named Bd.method).1
  have hlk : meth.locks = false := Bd.notSynchronized
  have X0 : Stand p l e ({ frames := 0, cells := 0, slots := 0, locals := 0 } : Room) s m #[(.ref a)] below meth c s₁ [] 0 0 := Stand.of_body Bd
  have e0 : s₁.heap = h0 := by rw [← hh, Bd.state]; rfl
  have N0 := Fr.nil n0
  have K0 : Keep h0 h0 [] := Keep.refl _ _
  refine own_cast (ef_4 m a) ?_
  show OwnGo p e below s (Q4 Z a cs h0 n0) ({ frames := 0, cells := 0, slots := 0, locals := 0 } : Room).cells ({ frames := 0, cells := 0, slots := 0, locals := 0 } : Room).slots (s₁.setTop (mkF m 0 #[.val (.ref a)] []))
  obtain ⟨T1, X1, e1, st1⟩ := getS2 X0 hx hZ hown (host := "") (Or.inl (w27 hw)) Via.refl e0 (P1.ext P0.2) (g := (mkF m 0 #[.val (.ref a)] [])) rfl (hb hby d4_0)
  refine own_on st1 ?_
  show OwnGo p e below s _ _ _ (T1.setTop (mkF m 3 #[.val (.ref a)] [(.int cs)]))
  refine own_on (fun t_ k_ => XS.ifNo X1.here hx rfl (hb hby d4_3) rfl ((if0 _ _).trans (feq P2).1) k_) ?_
  show OwnGo p e below s _ _ _ (T1.setTop (mkF m 6 #[.val (.ref a)] []))
  refine own_on (fun t_ k_ => XS.aloadN X1.here hx rfl (hb hby d4_6) rfl rfl k_) ?_
  show OwnGo p e below s _ _ _ (T1.setTop (mkF m 7 #[.val (.ref a)] [(.ref a)]))
  obtain ⟨T2, X2, e2, st2⟩ := getF X1 hx hZ hown (host := "") (Or.inl (w28 hw)) Via.refl e1 P3 (g := (mkF m 7 #[.val (.ref a)] [(.ref a)])) rfl rfl (hb hby d4_7)
  refine own_on st2 ?_
  show OwnGo p e below s _ _ _ (T2.setTop (mkF m 10 #[.val (.ref a)] [(.int (0 : Int32))]))
  refine own_on (fun t_ k_ => XS.ifNo X2.here hx rfl (hb hby d4_10) rfl ((if0 _ _).trans (teq (by decide : (0 : Int32) = (0 : Int32))).2) k_) ?_
  show OwnGo p e below s _ _ _ (T2.setTop (mkF m 13 #[.val (.ref a)] []))
  refine own_on (fun t_ k_ => XS.iconst X2.here hx rfl (hb hby d4_13) k_) ?_
  show OwnGo p e below s _ _ _ (T2.setTop (mkF m 14 #[.val (.ref a)] [(.int (1 : Int32))]))
  refine own_on (fun t_ k_ => XS.goto X2.here hx rfl (pc0 := 14) (pc' := 18) rfl (hb hby d4_14) (by decide) (by decide) k_) ?_
  show OwnGo p e below s _ _ _ (T2.setTop (mkF m 18 #[.val (.ref a)] [(.int (1 : Int32))]))
  exact own_retN X2 hx hlk (t := .boolean) Bd.returns (by simp) (hb hby d4_18) e2 ⟨rfl, N0, rfl⟩ (by decide) (by decide)
theorem ef_5 (m : MethodId) (a : Addr)  : entryFrame m #[(.ref a)] 1 = mkF m 0 #[.val (.ref a)] [] := by first | (simp [entryFrame, mkF, argsToLocals, Value.category]; done) | rfl
def Q5 (Z : State) (a : Addr) (cs : Int32) (bt : Addr) (kb : ClassId) (zz : Int32) (vs : List Value) (dv : Value) (h0 : Heap) (n0 : Nat) (v_ : Option Value) (h_ : Heap) (L_ : List Loc) : Prop := v_ = some (.int zz) ∧ Fr n0 L_ ∧ h_ = h0
set_option maxRecDepth 65536 in
set_option maxHeartbeats 40000000 in
theorem rm5 (l : Launch) (Z : State) (a0 : Array Value) (hw : ∀ d ∈ tables_1, d.before a0 Z = true) (ws : List Jvm.Cond) (a : Addr) (cs : Int32) (bt : Addr) (kb : ClassId) (zz : Int32) (vs : List Value) (dv : Value) (h0 : Heap) (n0 : Nat) (Z0 : n0 ≤ h0.size) (P0 : Old Z n0 h0) (P1 : Sta Z Z.heap "java/lang/String" "COMPACT_STRINGS" "Z" (.int cs)) (P2 : ¬ (cs = (0 : Int32))) (P3 : Exa Z h0 a "java/lang/String") (P4 : Fld Z h0 a "java/lang/String" "coder" "B" (.int (0 : Int32))) (P5 : Fld Z h0 a "java/lang/String" "value" "[B" (.ref bt)) (P6 : Arv Z h0 bt kb .byte zz vs dv) :
    MetFree l (⟨"java/lang/String", "length", "()I"⟩ : MethodName) (head1 (Jvm.Cond.code (⟨"java/lang/String", "length", "()I"⟩ : MethodName) jdk_42_method_54_code 1 (some .int) :: ws) ({ frames := 1, cells := 0, slots := 0, locals := 13 } : Room)) (fun A_ U => A_ = #[(.ref a)] ∧ Z.Warmed39 U.vm ∧ U.heap = h0) (fun _ _ _ _ _ => True) (fun _ U_ o_ U'_ => ∃ v_ L_, o_ = .returned v_ ∧ Q5 Z a cs bt kb zz vs dv h0 n0 v_ U'_.heap L_ ∧ FrameEnd U_ o_ U'_ L_ ({ frames := 1, cells := 0, slots := 0, locals := 13 } : Room).cells ({ frames := 1, cells := 0, slots := 0, locals := 13 } : Room).slots) := by
  refine MetFree.of_bodySF (plainFor_of_name pn_0) hisR ?_
  intro p e s m args below meth c s₁ Bd hml0 hP hK
  obtain ⟨rfl, hZ, hh⟩ := hP
  have hx := Bd.exec
  have hby := Bd.bytes
  have hml : c.maxLocals = 1 := hml0
  have hown : s.vm.findClass "java/lang/String" = some m.cls := findClass_of_methodNamed Bd.named
  have hnm := (name_of_methodNamed Bd.named Bd.method).1
  have hlk : meth.locks = false := Bd.notSynchronized
  have X0 : Stand p l e ({ frames := 1, cells := 0, slots := 0, locals := 13 } : Room) s m #[(.ref a)] below meth c s₁ [] 0 0 := Stand.of_body Bd
  have e0 : s₁.heap = h0 := by rw [← hh, Bd.state]; rfl
  have N0 := Fr.nil n0
  have K0 : Keep h0 h0 [] := Keep.refl _ _
  refine own_cast (ef_5 m a) ?_
  show OwnGo p e below s (Q5 Z a cs bt kb zz vs dv h0 n0) ({ frames := 1, cells := 0, slots := 0, locals := 13 } : Room).cells ({ frames := 1, cells := 0, slots := 0, locals := 13 } : Room).slots (s₁.setTop (mkF m 0 #[.val (.ref a)] []))
  refine own_on (fun t_ k_ => XS.aloadN X0.here hx rfl (hb hby d5_0) rfl rfl k_) ?_
  show OwnGo p e below s _ _ _ (s₁.setTop (mkF m 1 #[.val (.ref a)] [(.ref a)]))
  obtain ⟨T1, X1, e1, st1⟩ := getF X0 hx hZ hown (host := "") (Or.inl (w29 hw)) Via.refl e0 P5 (g := (mkF m 1 #[.val (.ref a)] [(.ref a)])) rfl rfl (hb hby d5_1)
  refine own_on st1 ?_
  show OwnGo p e below s _ _ _ (T1.setTop (mkF m 4 #[.val (.ref a)] [(.ref bt)]))
  obtain ⟨cl2, Ar2, q2, S2, M2, H2, G2⟩ := id P6
  refine own_on (X1.arraylength hx (by rw [e1]; exact Ar2.1) (State.isArrayOf_alike hZ.alike Ar2.2.1) (g := (mkF m 4 #[.val (.ref a)] [(.ref bt)])) rfl rfl (hb hby d5_4)) ?_
  rw [len_of S2 M2]
  show OwnGo p e below s _ _ _ (T1.setTop (mkF m 5 #[.val (.ref a)] [(.int zz)]))
  refine own_on (fun t_ k_ => XS.aloadN X1.here hx rfl (hb hby d5_5) rfl rfl k_) ?_
  show OwnGo p e below s _ _ _ (T1.setTop (mkF m 6 #[.val (.ref a)] [(.ref a), (.int zz)]))
  obtain ⟨cq3, kq3, q3a, q3b, q3c⟩ := isOf hZ e1 P3
  obtain ⟨_, _, ⟨T3, L3, k3, n3⟩, -, X3, ⟨Lc3, hQ3, l3, y3, z3⟩, st3⟩ := X1.virtualBack hx (y := (⟨"java/lang/String", "coder", "()B"⟩ : MethodName)) (z := (⟨"java/lang/String", "coder", "()B"⟩ : MethodName)) hown (mvT hZ (w35 hw)) (mvT hZ (w36 hw)) (notFace_of_selects (args := #[]) (mvT hZ (w38 hw))) (mvT hZ (w38 hw)) (mvT hZ (w37 hw)) (by decide) (backOf (W := 1) (rm6 l Z a0 hw [] a cs h0 n0 Z0 P0 P1 P2 P4) hZ (w39 hw) (w5 hw) (by decide) (by decide)) q3a q3c (g := (mkF m 6 #[.val (.ref a)] [(.ref a), (.int zz)])) rfl (by rw [hml]; rfl) (Steps.refl _) (argsL := []) (rest := [(.int zz)]) (lenOf pd_0 rfl) rfl (by show 2 * 0 + _ ≤ _; exact Nat.le_of_eq rfl) (hb hby d5_6) (fun _ hWx => ⟨rfl, e1, (by decide : 0 + 0 ≤ _), (by decide : 0 + 0 ≤ _)⟩)
  dsimp only [Pt.U, Pt.locs, Pt.cells, Pt.slots] at X3 l3 y3 z3 st3 hQ3
  replace X3 := own_num (c' := 0) (n' := 0) X3 l3 (y3.trans rfl) (z3.trans rfl)
  obtain ⟨rfl, N3q, e3⟩ := hQ3
  have N3 := Fr.app N0 N3q
  refine own_tr st3 ?_
  show OwnGo p e below s _ _ _ (T3.setTop (mkF m 9 #[.val (.ref a)] [(.int (0 : Int32)), (.int zz)]))
  refine own_on (fun t_ k_ => XS.ishr X3.here hx rfl (hb hby d5_9) rfl k_) ?_
  show OwnGo p e below s _ _ _ (T3.setTop (mkF m 10 #[.val (.ref a)] [(.int (zz >>> ((0 : Int32) &&& 31)))]))
  exact own_retI X3 hx hlk Bd.returns (hb hby d5_10) e3 ⟨(by rw [own_shr0]), N3, rfl⟩ (by decide) (by decide)
theorem ef_8 (m : MethodId) (k : Int32)  : entryFrame m #[(.int k)] 1 = mkF m 0 #[.val (.int k)] [] := by first | (simp [entryFrame, mkF, argsToLocals, Value.category]; done) | rfl
def Q8 (Z : State) (k : Int32) (h0 : Heap) (n0 : Nat) (v_ : Option Value) (h_ : Heap) (L_ : List Loc) : Prop := v_ = some (.int (own_ce k)) ∧ Fr n0 L_ ∧ h_ = h0
set_option maxRecDepth 65536 in
set_option maxHeartbeats 40000000 in
theorem rm8 (l : Launch) (Z : State) (a0 : Array Value) (hw : ∀ d ∈ tables_1, d.before a0 Z = true) (ws : List Jvm.Cond) (k : Int32) (h0 : Heap) (n0 : Nat) (Z0 : n0 ≤ h0.size)  :
    MetFree l (⟨"java/lang/StringLatin1", "canEncode", "(I)Z"⟩ : MethodName) (head1 (Jvm.Cond.code (⟨"java/lang/StringLatin1", "canEncode", "(I)Z"⟩ : MethodName) jdk_43_method_4_code 1 (some .boolean) :: ws) ({ frames := 0, cells := 0, slots := 0, locals := 0 } : Room)) (fun A_ U => A_ = #[(.int k)] ∧ Z.Warmed39 U.vm ∧ U.heap = h0) (fun _ _ _ _ _ => True) (fun _ U_ o_ U'_ => ∃ v_ L_, o_ = .returned v_ ∧ Q8 Z k h0 n0 v_ U'_.heap L_ ∧ FrameEnd U_ o_ U'_ L_ ({ frames := 0, cells := 0, slots := 0, locals := 0 } : Room).cells ({ frames := 0, cells := 0, slots := 0, locals := 0 } : Room).slots) := by
  refine MetFree.of_bodySF (plainFor_of_name pn_1) hisR ?_
  intro p e s m args below meth c s₁ Bd hml0 hP hK
  obtain ⟨rfl, hZ, hh⟩ := hP
  have hx := Bd.exec
  have hby := Bd.bytes
  have hml : c.maxLocals = 1 := hml0
  have hown : s.vm.findClass "java/lang/StringLatin1" = some m.cls := findClass_of_methodNamed Bd.named
  have hnm := (name_of_methodNamed Bd.named Bd.method).1
  have hlk : meth.locks = false := Bd.notSynchronized
  have X0 : Stand p l e ({ frames := 0, cells := 0, slots := 0, locals := 0 } : Room) s m #[(.int k)] below meth c s₁ [] 0 0 := Stand.of_body Bd
  have e0 : s₁.heap = h0 := by rw [← hh, Bd.state]; rfl
  have N0 := Fr.nil n0
  have K0 : Keep h0 h0 [] := Keep.refl _ _
  refine own_cast (ef_8 m k) ?_
  show OwnGo p e below s (Q8 Z k h0 n0) ({ frames := 0, cells := 0, slots := 0, locals := 0 } : Room).cells ({ frames := 0, cells := 0, slots := 0, locals := 0 } : Room).slots (s₁.setTop (mkF m 0 #[.val (.int k)] []))
  refine own_on (fun t_ k_ => XS.iloadN X0.here hx rfl (hb hby d8_0) rfl k_) ?_
  show OwnGo p e below s _ _ _ (s₁.setTop (mkF m 1 #[.val (.int k)] [(.int k)]))
  by_cases q0 : k < (0 : Int32)
  · refine own_on (fun t_ k_ => XS.ifYes X0.here hx rfl (pc0 := 1) (pc' := 15) rfl (hb hby d8_1) rfl ((if0 _ _).trans (tlt q0).1) (by decide) (by decide) k_) ?_
    show OwnGo p e below s _ _ _ (s₁.setTop (mkF m 15 #[.val (.int k)] []))
    refine own_on (fun t_ k_ => XS.iconst X0.here hx rfl (hb hby d8_15) k_) ?_
    show OwnGo p e below s _ _ _ (s₁.setTop (mkF m 16 #[.val (.int k)] [(.int (0 : Int32))]))
    exact own_retN X0 hx hlk (t := .boolean) Bd.returns (by simp) (hb hby d8_16) e0 ⟨(congrArg (fun z => some (Value.int z)) (by simp [own_ce, nar, *])), N0, rfl⟩ (by decide) (by decide)
  · refine own_on (fun t_ k_ => XS.ifNo X0.here hx rfl (hb hby d8_1) rfl ((if0 _ _).trans (flt q0).1) k_) ?_
    show OwnGo p e below s _ _ _ (s₁.setTop (mkF m 4 #[.val (.int k)] []))
    refine own_on (fun t_ k_ => XS.iloadN X0.here hx rfl (hb hby d8_4) rfl k_) ?_
    show OwnGo p e below s _ _ _ (s₁.setTop (mkF m 5 #[.val (.int k)] [(.int k)]))
    refine own_on (fun t_ k_ => XS.sipush X0.here hx rfl (hb hby d8_5) k_) ?_
    show OwnGo p e below s _ _ _ (s₁.setTop (mkF m 8 #[.val (.int k)] [(.int (255 : Int32)), (.int k)]))
    by_cases q1 : (255 : Int32) < k
    · refine own_on (fun t_ k_ => XS.icmpYes X0.here hx rfl (pc0 := 8) (pc' := 15) rfl (hb hby d8_8) rfl (tlt q1).2.2.1 (by decide) (by decide) k_) ?_
      show OwnGo p e below s _ _ _ (s₁.setTop (mkF m 15 #[.val (.int k)] []))
      refine own_on (fun t_ k_ => XS.iconst X0.here hx rfl (hb hby d8_15) k_) ?_
      show OwnGo p e below s _ _ _ (s₁.setTop (mkF m 16 #[.val (.int k)] [(.int (0 : Int32))]))
      exact own_retN X0 hx hlk (t := .boolean) Bd.returns (by simp) (hb hby d8_16) e0 ⟨(congrArg (fun z => some (Value.int z)) (by simp [own_ce, nar, *])), N0, rfl⟩ (by decide) (by decide)
    · refine own_on (fun t_ k_ => XS.icmpNo X0.here hx rfl (hb hby d8_8) rfl (flt q1).2.2.1 k_) ?_
      show OwnGo p e below s _ _ _ (s₁.setTop (mkF m 11 #[.val (.int k)] []))
      refine own_on (fun t_ k_ => XS.iconst X0.here hx rfl (hb hby d8_11) k_) ?_
      show OwnGo p e below s _ _ _ (s₁.setTop (mkF m 12 #[.val (.int k)] [(.int (1 : Int32))]))
      refine own_on (fun t_ k_ => XS.goto X0.here hx rfl (pc0 := 12) (pc' := 16) rfl (hb hby d8_12) (by decide) (by decide) k_) ?_
      show OwnGo p e below s _ _ _ (s₁.setTop (mkF m 16 #[.val (.int k)] [(.int (1 : Int32))]))
      exact own_retN X0 hx hlk (t := .boolean) Bd.returns (by simp) (hb hby d8_16) e0 ⟨(congrArg (fun z => some (Value.int z)) (by simp [own_ce, nar, *])), N0, rfl⟩ (by decide) (by decide)
theorem ef_9 (m : MethodId)   : entryFrame m #[(.int (0 : Int32)), (.int (0 : Int32))] 2 = mkF m 0 #[.val (.int (0 : Int32)), .val (.int (0 : Int32))] [] := by first | (simp [entryFrame, mkF, argsToLocals, Value.category]; done) | rfl
def Q9 (Z : State)  (h0 : Heap) (n0 : Nat) (v_ : Option Value) (h_ : Heap) (L_ : List Loc) : Prop := v_ = some (.int (0 : Int32)) ∧ Fr n0 L_ ∧ h_ = h0
set_option maxRecDepth 65536 in
set_option maxHeartbeats 40000000 in
theorem rm9 (l : Launch) (Z : State) (a0 : Array Value) (hw : ∀ d ∈ tables_1, d.before a0 Z = true) (ws : List Jvm.Cond)  (h0 : Heap) (n0 : Nat) (Z0 : n0 ≤ h0.size)  :
    MetFree l (⟨"java/lang/Math", "max", "(II)I"⟩ : MethodName) (head1 (Jvm.Cond.code (⟨"java/lang/Math", "max", "(II)I"⟩ : MethodName) jdk_29_method_65_code 2 (some .int) :: ws) ({ frames := 0, cells := 0, slots := 0, locals := 0 } : Room)) (fun A_ U => A_ = #[(.int (0 : Int32)), (.int (0 : Int32))] ∧ Z.Warmed39 U.vm ∧ U.heap = h0) (fun _ _ _ _ _ => True) (fun _ U_ o_ U'_ => ∃ v_ L_, o_ = .returned v_ ∧ Q9 Z h0 n0 v_ U'_.heap L_ ∧ FrameEnd U_ o_ U'_ L_ ({ frames := 0, cells := 0, slots := 0, locals := 0 } : Room).cells ({ frames := 0, cells := 0, slots := 0, locals := 0 } : Room).slots) := by
  refine MetFree.of_bodySF (by decide +kernel) hisR ?_
  intro p e s m args below meth c s₁ Bd hml0 hP hK
  obtain ⟨rfl, hZ, hh⟩ := hP
  have hx := Bd.exec
  have hby := Bd.bytes
  have hml : c.maxLocals = 2 := hml0
  have hown : s.vm.findClass "java/lang/Math" = some m.cls := findClass_of_methodNamed Bd.named
  have hnm := (name_of_methodNamed Bd.named Bd.method).1
  have hlk : meth.locks = false := Bd.notSynchronized
  have X0 : Stand p l e ({ frames := 0, cells := 0, slots := 0, locals := 0 } : Room) s m #[(.int (0 : Int32)), (.int (0 : Int32))] below meth c s₁ [] 0 0 := Stand.of_body Bd
  have e0 : s₁.heap = h0 := by rw [← hh, Bd.state]; rfl
  have N0 := Fr.nil n0
  have K0 : Keep h0 h0 [] := Keep.refl _ _
  refine own_cast (ef_9 m ) ?_
  show OwnGo p e below s (Q9 Z h0 n0) ({ frames := 0, cells := 0, slots := 0, locals := 0 } : Room).cells ({ frames := 0, cells := 0, slots := 0, locals := 0 } : Room).slots (s₁.setTop (mkF m 0 #[.val (.int (0 : Int32)), .val (.int (0 : Int32))] []))
  refine own_on (fun t_ k_ => XS.iloadN X0.here hx rfl (hb hby d9_0) rfl k_) ?_
  show OwnGo p e below s _ _ _ (s₁.setTop (mkF m 1 #[.val (.int (0 : Int32)), .val (.int (0 : Int32))] [(.int (0 : Int32))]))
  refine own_on (fun t_ k_ => XS.iloadN X0.here hx rfl (hb hby d9_1) rfl k_) ?_
  show OwnGo p e below s _ _ _ (s₁.setTop (mkF m 2 #[.val (.int (0 : Int32)), .val (.int (0 : Int32))] [(.int (0 : Int32)), (.int (0 : Int32))]))
  refine own_on (fun t_ k_ => XS.icmpNo X0.here hx rfl (hb hby d9_2) rfl (flt (by decide : ¬ ((0 : Int32) < (0 : Int32)))).1 k_) ?_
  show OwnGo p e below s _ _ _ (s₁.setTop (mkF m 5 #[.val (.int (0 : Int32)), .val (.int (0 : Int32))] []))
  refine own_on (fun t_ k_ => XS.iloadN X0.here hx rfl (hb hby d9_5) rfl k_) ?_
  show OwnGo p e below s _ _ _ (s₁.setTop (mkF m 6 #[.val (.int (0 : Int32)), .val (.int (0 : Int32))] [(.int (0 : Int32))]))
  refine own_on (fun t_ k_ => XS.goto X0.here hx rfl (pc0 := 6) (pc' := 10) rfl (hb hby d9_6) (by decide) (by decide) k_) ?_
  show OwnGo p e below s _ _ _ (s₁.setTop (mkF m 10 #[.val (.int (0 : Int32)), .val (.int (0 : Int32))] [(.int (0 : Int32))]))
  exact own_retI X0 hx hlk Bd.returns (hb hby d9_10) e0 ⟨rfl, N0, rfl⟩ (by decide) (by decide)
theorem ef_10 (m : MethodId)   : entryFrame m #[(.int (15 : Int32)), (.int (15 : Int32))] 2 = mkF m 0 #[.val (.int (15 : Int32)), .val (.int (15 : Int32))] [] := by first | (simp [entryFrame, mkF, argsToLocals, Value.category]; done) | rfl
def Q10 (Z : State)  (h0 : Heap) (n0 : Nat) (v_ : Option Value) (h_ : Heap) (L_ : List Loc) : Prop := v_ = some (.int (15 : Int32)) ∧ Fr n0 L_ ∧ h_ = h0
set_option maxRecDepth 65536 in
set_option maxHeartbeats 40000000 in
theorem rm10 (l : Launch) (Z : State) (a0 : Array Value) (hw : ∀ d ∈ tables_1, d.before a0 Z = true) (ws : List Jvm.Cond)  (h0 : Heap) (n0 : Nat) (Z0 : n0 ≤ h0.size)  :
    MetFree l (⟨"java/lang/Math", "min", "(II)I"⟩ : MethodName) (head1 (Jvm.Cond.code (⟨"java/lang/Math", "min", "(II)I"⟩ : MethodName) jdk_29_method_69_code 2 (some .int) :: ws) ({ frames := 0, cells := 0, slots := 0, locals := 0 } : Room)) (fun A_ U => A_ = #[(.int (15 : Int32)), (.int (15 : Int32))] ∧ Z.Warmed39 U.vm ∧ U.heap = h0) (fun _ _ _ _ _ => True) (fun _ U_ o_ U'_ => ∃ v_ L_, o_ = .returned v_ ∧ Q10 Z h0 n0 v_ U'_.heap L_ ∧ FrameEnd U_ o_ U'_ L_ ({ frames := 0, cells := 0, slots := 0, locals := 0 } : Room).cells ({ frames := 0, cells := 0, slots := 0, locals := 0 } : Room).slots) := by
  refine MetFree.of_bodySF (by decide +kernel) hisR ?_
  intro p e s m args below meth c s₁ Bd hml0 hP hK
  obtain ⟨rfl, hZ, hh⟩ := hP
  have hx := Bd.exec
  have hby := Bd.bytes
  have hml : c.maxLocals = 2 := hml0
  have hown : s.vm.findClass "java/lang/Math" = some m.cls := findClass_of_methodNamed Bd.named
  have hnm := (name_of_methodNamed Bd.named Bd.method).1
  have hlk : meth.locks = false := Bd.notSynchronized
  have X0 : Stand p l e ({ frames := 0, cells := 0, slots := 0, locals := 0 } : Room) s m #[(.int (15 : Int32)), (.int (15 : Int32))] below meth c s₁ [] 0 0 := Stand.of_body Bd
  have e0 : s₁.heap = h0 := by rw [← hh, Bd.state]; rfl
  have N0 := Fr.nil n0
  have K0 : Keep h0 h0 [] := Keep.refl _ _
  refine own_cast (ef_10 m ) ?_
  show OwnGo p e below s (Q10 Z h0 n0) ({ frames := 0, cells := 0, slots := 0, locals := 0 } : Room).cells ({ frames := 0, cells := 0, slots := 0, locals := 0 } : Room).slots (s₁.setTop (mkF m 0 #[.val (.int (15 : Int32)), .val (.int (15 : Int32))] []))
  refine own_on (fun t_ k_ => XS.iloadN X0.here hx rfl (hb hby d10_0) rfl k_) ?_
  show OwnGo p e below s _ _ _ (s₁.setTop (mkF m 1 #[.val (.int (15 : Int32)), .val (.int (15 : Int32))] [(.int (15 : Int32))]))
  refine own_on (fun t_ k_ => XS.iloadN X0.here hx rfl (hb hby d10_1) rfl k_) ?_
  show OwnGo p e below s _ _ _ (s₁.setTop (mkF m 2 #[.val (.int (15 : Int32)), .val (.int (15 : Int32))] [(.int (15 : Int32)), (.int (15 : Int32))]))
  refine own_on (fun t_ k_ => XS.icmpNo X0.here hx rfl (hb hby d10_2) rfl (flt (by decide : ¬ ((15 : Int32) < (15 : Int32)))).2.2.1 k_) ?_
  show OwnGo p e below s _ _ _ (s₁.setTop (mkF m 5 #[.val (.int (15 : Int32)), .val (.int (15 : Int32))] []))
  refine own_on (fun t_ k_ => XS.iloadN X0.here hx rfl (hb hby d10_5) rfl k_) ?_
  show OwnGo p e below s _ _ _ (s₁.setTop (mkF m 6 #[.val (.int (15 : Int32)), .val (.int (15 : Int32))] [(.int (15 : Int32))]))
  refine own_on (fun t_ k_ => XS.goto X0.here hx rfl (pc0 := 6) (pc' := 10) rfl (hb hby d10_6) (by decide) (by decide) k_) ?_
  show OwnGo p e below s _ _ _ (s₁.setTop (mkF m 10 #[.val (.int (15 : Int32)), .val (.int (15 : Int32))] [(.int (15 : Int32))]))
  exact own_retI X0 hx hlk Bd.returns (hb hby d10_10) e0 ⟨rfl, N0, rfl⟩ (by decide) (by decide)
theorem ef_11 (m : MethodId) (bt : Addr) (k : Int32)  : entryFrame m #[(.ref bt), (.int k), (.int (0 : Int32)), (.int (15 : Int32))] 6 = mkF m 0 #[.val (.ref bt), .val (.int k), .val (.int (0 : Int32)), .val (.int (15 : Int32)), .unset, .unset] [] := by first | (simp [entryFrame, mkF, argsToLocals, Value.category]; done) | rfl
def Q11 (Z : State) (bt : Addr) (k : Int32) (kb : ClassId) (h0 : Heap) (n0 : Nat) (v_ : Option Value) (h_ : Heap) (L_ : List Loc) : Prop := v_ = some (.int (own_ix (k.toInt8.toInt32))) ∧ Fr n0 L_ ∧ h_ = h0
set_option maxRecDepth 65536 in
set_option maxHeartbeats 40000000 in
theorem rm11 (l : Launch) (Z : State) (a0 : Array Value) (hw : ∀ d ∈ tables_1, d.before a0 Z = true) (ws : List Jvm.Cond) (bt : Addr) (k : Int32) (kb : ClassId) (h0 : Heap) (n0 : Nat) (Z0 : n0 ≤ h0.size) (P0 : Arv Z h0 bt kb .byte (15 : Int32) [(.int (33 : Int32)), (.int (35 : Int32)), (.int (36 : Int32)), (.int (37 : Int32)), (.int (38 : Int32)), (.int (39 : Int32)), (.int (42 : Int32)), (.int (43 : Int32)), (.int (45 : Int32)), (.int (46 : Int32)), (.int (94 : Int32)), (.int (95 : Int32)), (.int (96 : Int32)), (.int (124 : Int32)), (.int (126 : Int32))] (.int (0 : Int32))) :
    MetFree l (⟨"java/lang/StringLatin1", "indexOfChar", "([BIII)I"⟩ : MethodName) (head1 (Jvm.Cond.code (⟨"java/lang/StringLatin1", "indexOfChar", "([BIII)I"⟩ : MethodName) jdk_43_method_23_code 6 (some .int) :: ws) ({ frames := 0, cells := 0, slots := 0, locals := 0 } : Room)) (fun A_ U => A_ = #[(.ref bt), (.int k), (.int (0 : Int32)), (.int (15 : Int32))] ∧ Z.Warmed39 U.vm ∧ U.heap = h0) (fun _ _ _ _ _ => True) (fun _ U_ o_ U'_ => ∃ v_ L_, o_ = .returned v_ ∧ Q11 Z bt k kb h0 n0 v_ U'_.heap L_ ∧ FrameEnd U_ o_ U'_ L_ ({ frames := 0, cells := 0, slots := 0, locals := 0 } : Room).cells ({ frames := 0, cells := 0, slots := 0, locals := 0 } : Room).slots) := by
  refine MetFree.of_bodySF (plainFor_of_name pn_1) hisR ?_
  intro p e s m args below meth c s₁ Bd hml0 hP hK
  obtain ⟨rfl, hZ, hh⟩ := hP
  have hx := Bd.exec
  have hby := Bd.bytes
  have hml : c.maxLocals = 6 := hml0
  have hown : s.vm.findClass "java/lang/StringLatin1" = some m.cls := findClass_of_methodNamed Bd.named
  have hnm := (name_of_methodNamed Bd.named Bd.method).1
  have hlk : meth.locks = false := Bd.notSynchronized
  have X0 : Stand p l e ({ frames := 0, cells := 0, slots := 0, locals := 0 } : Room) s m #[(.ref bt), (.int k), (.int (0 : Int32)), (.int (15 : Int32))] below meth c s₁ [] 0 0 := Stand.of_body Bd
  have e0 : s₁.heap = h0 := by rw [← hh, Bd.state]; rfl
  have N0 := Fr.nil n0
  have K0 : Keep h0 h0 [] := Keep.refl _ _
  refine own_cast (ef_11 m bt k) ?_
  show OwnGo p e below s (Q11 Z bt k kb h0 n0) ({ frames := 0, cells := 0, slots := 0, locals := 0 } : Room).cells ({ frames := 0, cells := 0, slots := 0, locals := 0 } : Room).slots (s₁.setTop (mkF m 0 #[.val (.ref bt), .val (.int k), .val (.int (0 : Int32)), .val (.int (15 : Int32)), .unset, .unset] []))
  refine own_on (fun t_ k_ => XS.iloadN X0.here hx rfl (hb hby d11_0) rfl k_) ?_
  show OwnGo p e below s _ _ _ (s₁.setTop (mkF m 1 #[.val (.ref bt), .val (.int k), .val (.int (0 : Int32)), .val (.int (15 : Int32)), .unset, .unset] [(.int k)]))
  refine own_on (fun t_ k_ => XS.i2b X0.here hx rfl (hb hby d11_1) rfl k_) ?_
  show OwnGo p e below s _ _ _ (s₁.setTop (mkF m 2 #[.val (.ref bt), .val (.int k), .val (.int (0 : Int32)), .val (.int (15 : Int32)), .unset, .unset] [(.int (k.toInt8.toInt32))]))
  refine own_on (fun t_ k_ => XS.istore X0.here hx rfl (hb hby d11_2) rfl (l' := #[.val (.ref bt), .val (.int k), .val (.int (0 : Int32)), .val (.int (15 : Int32)), .val (.int (k.toInt8.toInt32)), .unset]) rfl k_) ?_
  show OwnGo p e below s _ _ _ (s₁.setTop (mkF m 4 #[.val (.ref bt), .val (.int k), .val (.int (0 : Int32)), .val (.int (15 : Int32)), .val (.int (k.toInt8.toInt32)), .unset] []))
  refine own_on (fun t_ k_ => XS.iloadN X0.here hx rfl (hb hby d11_4) rfl k_) ?_
  show OwnGo p e below s _ _ _ (s₁.setTop (mkF m 5 #[.val (.ref bt), .val (.int k), .val (.int (0 : Int32)), .val (.int (15 : Int32)), .val (.int (k.toInt8.toInt32)), .unset] [(.int (0 : Int32))]))
  refine own_on (fun t_ k_ => XS.istore X0.here hx rfl (hb hby d11_5) rfl (l' := #[.val (.ref bt), .val (.int k), .val (.int (0 : Int32)), .val (.int (15 : Int32)), .val (.int (k.toInt8.toInt32)), .val (.int (0 : Int32))]) rfl k_) ?_
  show OwnGo p e below s _ _ _ (s₁.setTop (mkF m 7 #[.val (.ref bt), .val (.int k), .val (.int (0 : Int32)), .val (.int (15 : Int32)), .val (.int (k.toInt8.toInt32)), .val (.int (0 : Int32))] []))
  refine own_on (fun t_ k_ => XS.iload X0.here hx rfl (hb hby d11_7) rfl k_) ?_
  show OwnGo p e below s _ _ _ (s₁.setTop (mkF m 9 #[.val (.ref bt), .val (.int k), .val (.int (0 : Int32)), .val (.int (15 : Int32)), .val (.int (k.toInt8.toInt32)), .val (.int (0 : Int32))] [(.int (0 : Int32))]))
  refine own_on (fun t_ k_ => XS.iloadN X0.here hx rfl (hb hby d11_9) rfl k_) ?_
  show OwnGo p e below s _ _ _ (s₁.setTop (mkF m 10 #[.val (.ref bt), .val (.int k), .val (.int (0 : Int32)), .val (.int (15 : Int32)), .val (.int (k.toInt8.toInt32)), .val (.int (0 : Int32))] [(.int (15 : Int32)), (.int (0 : Int32))]))
  refine own_on (fun t_ k_ => XS.icmpNo X0.here hx rfl (hb hby d11_10) rfl (tlt (by decide : (0 : Int32) < (15 : Int32))).2.1 k_) ?_
  show OwnGo p e below s _ _ _ (s₁.setTop (mkF m 13 #[.val (.ref bt), .val (.int k), .val (.int (0 : Int32)), .val (.int (15 : Int32)), .val (.int (k.toInt8.toInt32)), .val (.int (0 : Int32))] []))
  refine own_on (fun t_ k_ => XS.aloadN X0.here hx rfl (hb hby d11_13) rfl rfl k_) ?_
  show OwnGo p e below s _ _ _ (s₁.setTop (mkF m 14 #[.val (.ref bt), .val (.int k), .val (.int (0 : Int32)), .val (.int (15 : Int32)), .val (.int (k.toInt8.toInt32)), .val (.int (0 : Int32))] [(.ref bt)]))
  refine own_on (fun t_ k_ => XS.iload X0.here hx rfl (hb hby d11_14) rfl k_) ?_
  show OwnGo p e below s _ _ _ (s₁.setTop (mkF m 16 #[.val (.ref bt), .val (.int k), .val (.int (0 : Int32)), .val (.int (15 : Int32)), .val (.int (k.toInt8.toInt32)), .val (.int (0 : Int32))] [(.int (0 : Int32)), (.ref bt)]))
  obtain ⟨cl1, Ar1, q1, S1, M1, H1, G1⟩ := id P0
  have hin1 : ¬ ((0 : Int32) < 0 ∨ cl1.slots.size ≤ ((0 : Int32)).toNatClampNeg) := inb_of S1 ⟨by decide, by decide⟩
  have hat1 : cl1.slots[((0 : Int32)).toNatClampNeg]? = some (.int (33 : Int32)) := Has.at H1 hin1 rfl
  refine own_on (X0.baloadBytes hx (j := (0 : Int32)) (v := (.int (33 : Int32))) (by rw [e0]; exact Ar1.1) (State.isArrayOf_alike hZ.alike Ar1.2.1) Ar1.2.2 hin1 hat1 (g := (mkF m 16 #[.val (.ref bt), .val (.int k), .val (.int (0 : Int32)), .val (.int (15 : Int32)), .val (.int (k.toInt8.toInt32)), .val (.int (0 : Int32))] [(.int (0 : Int32)), (.ref bt)])) rfl rfl (hb hby d11_16)) ?_
  show OwnGo p e below s _ _ _ (s₁.setTop (mkF m 17 #[.val (.ref bt), .val (.int k), .val (.int (0 : Int32)), .val (.int (15 : Int32)), .val (.int (k.toInt8.toInt32)), .val (.int (0 : Int32))] [(.int (33 : Int32))]))
  refine own_on (fun t_ k_ => XS.iload X0.here hx rfl (hb hby d11_17) rfl k_) ?_
  show OwnGo p e below s _ _ _ (s₁.setTop (mkF m 19 #[.val (.ref bt), .val (.int k), .val (.int (0 : Int32)), .val (.int (15 : Int32)), .val (.int (k.toInt8.toInt32)), .val (.int (0 : Int32))] [(.int (k.toInt8.toInt32)), (.int (33 : Int32))]))
  by_cases q0 : (33 : Int32) = (k.toInt8.toInt32)
  · refine own_on (fun t_ k_ => XS.icmpNo X0.here hx rfl (hb hby d11_19) rfl (teq q0).2 k_) ?_
    show OwnGo p e below s _ _ _ (s₁.setTop (mkF m 22 #[.val (.ref bt), .val (.int k), .val (.int (0 : Int32)), .val (.int (15 : Int32)), .val (.int (k.toInt8.toInt32)), .val (.int (0 : Int32))] []))
    refine own_on (fun t_ k_ => XS.iload X0.here hx rfl (hb hby d11_22) rfl k_) ?_
    show OwnGo p e below s _ _ _ (s₁.setTop (mkF m 24 #[.val (.ref bt), .val (.int k), .val (.int (0 : Int32)), .val (.int (15 : Int32)), .val (.int (k.toInt8.toInt32)), .val (.int (0 : Int32))] [(.int (0 : Int32))]))
    exact own_retI X0 hx hlk Bd.returns (hb hby d11_24) e0 ⟨(congrArg (fun z => some (Value.int z)) (by simp only [own_ix]; rw [if_pos q0])), N0, rfl⟩ (by decide) (by decide)
  · refine own_on (fun t_ k_ => XS.icmpYes X0.here hx rfl (pc0 := 19) (pc' := 25) rfl (hb hby d11_19) rfl (feq q0).2 (by decide) (by decide) k_) ?_
    show OwnGo p e below s _ _ _ (s₁.setTop (mkF m 25 #[.val (.ref bt), .val (.int k), .val (.int (0 : Int32)), .val (.int (15 : Int32)), .val (.int (k.toInt8.toInt32)), .val (.int (0 : Int32))] []))
    refine own_on (fun t_ k_ => XS.iinc X0.here hx rfl (hb hby d11_25) rfl (l' := #[.val (.ref bt), .val (.int k), .val (.int (0 : Int32)), .val (.int (15 : Int32)), .val (.int (k.toInt8.toInt32)), .val (.int (1 : Int32))]) rfl k_) ?_
    show OwnGo p e below s _ _ _ (s₁.setTop (mkF m 28 #[.val (.ref bt), .val (.int k), .val (.int (0 : Int32)), .val (.int (15 : Int32)), .val (.int (k.toInt8.toInt32)), .val (.int (1 : Int32))] []))
    refine own_on (fun t_ k_ => XS.goto X0.here hx rfl (pc0 := 28) (pc' := 7) rfl (hb hby d11_28) (by decide) (by decide) k_) ?_
    show OwnGo p e below s _ _ _ (s₁.setTop (mkF m 7 #[.val (.ref bt), .val (.int k), .val (.int (0 : Int32)), .val (.int (15 : Int32)), .val (.int (k.toInt8.toInt32)), .val (.int (1 : Int32))] []))
    refine own_on (fun t_ k_ => XS.iload X0.here hx rfl (hb hby d11_7) rfl k_) ?_
    show OwnGo p e below s _ _ _ (s₁.setTop (mkF m 9 #[.val (.ref bt), .val (.int k), .val (.int (0 : Int32)), .val (.int (15 : Int32)), .val (.int (k.toInt8.toInt32)), .val (.int (1 : Int32))] [(.int (1 : Int32))]))
    refine own_on (fun t_ k_ => XS.iloadN X0.here hx rfl (hb hby d11_9) rfl k_) ?_
    show OwnGo p e below s _ _ _ (s₁.setTop (mkF m 10 #[.val (.ref bt), .val (.int k), .val (.int (0 : Int32)), .val (.int (15 : Int32)), .val (.int (k.toInt8.toInt32)), .val (.int (1 : Int32))] [(.int (15 : Int32)), (.int (1 : Int32))]))
    refine own_on (fun t_ k_ => XS.icmpNo X0.here hx rfl (hb hby d11_10) rfl (tlt (by decide : (1 : Int32) < (15 : Int32))).2.1 k_) ?_
    show OwnGo p e below s _ _ _ (s₁.setTop (mkF m 13 #[.val (.ref bt), .val (.int k), .val (.int (0 : Int32)), .val (.int (15 : Int32)), .val (.int (k.toInt8.toInt32)), .val (.int (1 : Int32))] []))
    refine own_on (fun t_ k_ => XS.aloadN X0.here hx rfl (hb hby d11_13) rfl rfl k_) ?_
    show OwnGo p e below s _ _ _ (s₁.setTop (mkF m 14 #[.val (.ref bt), .val (.int k), .val (.int (0 : Int32)), .val (.int (15 : Int32)), .val (.int (k.toInt8.toInt32)), .val (.int (1 : Int32))] [(.ref bt)]))
    refine own_on (fun t_ k_ => XS.iload X0.here hx rfl (hb hby d11_14) rfl k_) ?_
    show OwnGo p e below s _ _ _ (s₁.setTop (mkF m 16 #[.val (.ref bt), .val (.int k), .val (.int (0 : Int32)), .val (.int (15 : Int32)), .val (.int (k.toInt8.toInt32)), .val (.int (1 : Int32))] [(.int (1 : Int32)), (.ref bt)]))
    obtain ⟨cl2, Ar2, q2, S2, M2, H2, G2⟩ := id P0
    have hin2 : ¬ ((1 : Int32) < 0 ∨ cl2.slots.size ≤ ((1 : Int32)).toNatClampNeg) := inb_of S2 ⟨by decide, by decide⟩
    have hat2 : cl2.slots[((1 : Int32)).toNatClampNeg]? = some (.int (35 : Int32)) := Has.at H2 hin2 rfl
    refine own_on (X0.baloadBytes hx (j := (1 : Int32)) (v := (.int (35 : Int32))) (by rw [e0]; exact Ar2.1) (State.isArrayOf_alike hZ.alike Ar2.2.1) Ar2.2.2 hin2 hat2 (g := (mkF m 16 #[.val (.ref bt), .val (.int k), .val (.int (0 : Int32)), .val (.int (15 : Int32)), .val (.int (k.toInt8.toInt32)), .val (.int (1 : Int32))] [(.int (1 : Int32)), (.ref bt)])) rfl rfl (hb hby d11_16)) ?_
    show OwnGo p e below s _ _ _ (s₁.setTop (mkF m 17 #[.val (.ref bt), .val (.int k), .val (.int (0 : Int32)), .val (.int (15 : Int32)), .val (.int (k.toInt8.toInt32)), .val (.int (1 : Int32))] [(.int (35 : Int32))]))
    refine own_on (fun t_ k_ => XS.iload X0.here hx rfl (hb hby d11_17) rfl k_) ?_
    show OwnGo p e below s _ _ _ (s₁.setTop (mkF m 19 #[.val (.ref bt), .val (.int k), .val (.int (0 : Int32)), .val (.int (15 : Int32)), .val (.int (k.toInt8.toInt32)), .val (.int (1 : Int32))] [(.int (k.toInt8.toInt32)), (.int (35 : Int32))]))
    by_cases q1 : (35 : Int32) = (k.toInt8.toInt32)
    · refine own_on (fun t_ k_ => XS.icmpNo X0.here hx rfl (hb hby d11_19) rfl (teq q1).2 k_) ?_
      show OwnGo p e below s _ _ _ (s₁.setTop (mkF m 22 #[.val (.ref bt), .val (.int k), .val (.int (0 : Int32)), .val (.int (15 : Int32)), .val (.int (k.toInt8.toInt32)), .val (.int (1 : Int32))] []))
      refine own_on (fun t_ k_ => XS.iload X0.here hx rfl (hb hby d11_22) rfl k_) ?_
      show OwnGo p e below s _ _ _ (s₁.setTop (mkF m 24 #[.val (.ref bt), .val (.int k), .val (.int (0 : Int32)), .val (.int (15 : Int32)), .val (.int (k.toInt8.toInt32)), .val (.int (1 : Int32))] [(.int (1 : Int32))]))
      exact own_retI X0 hx hlk Bd.returns (hb hby d11_24) e0 ⟨(congrArg (fun z => some (Value.int z)) (by simp only [own_ix]; rw [if_neg q0, if_pos q1])), N0, rfl⟩ (by decide) (by decide)
    · refine own_on (fun t_ k_ => XS.icmpYes X0.here hx rfl (pc0 := 19) (pc' := 25) rfl (hb hby d11_19) rfl (feq q1).2 (by decide) (by decide) k_) ?_
      show OwnGo p e below s _ _ _ (s₁.setTop (mkF m 25 #[.val (.ref bt), .val (.int k), .val (.int (0 : Int32)), .val (.int (15 : Int32)), .val (.int (k.toInt8.toInt32)), .val (.int (1 : Int32))] []))
      refine own_on (fun t_ k_ => XS.iinc X0.here hx rfl (hb hby d11_25) rfl (l' := #[.val (.ref bt), .val (.int k), .val (.int (0 : Int32)), .val (.int (15 : Int32)), .val (.int (k.toInt8.toInt32)), .val (.int (2 : Int32))]) rfl k_) ?_
      show OwnGo p e below s _ _ _ (s₁.setTop (mkF m 28 #[.val (.ref bt), .val (.int k), .val (.int (0 : Int32)), .val (.int (15 : Int32)), .val (.int (k.toInt8.toInt32)), .val (.int (2 : Int32))] []))
      refine own_on (fun t_ k_ => XS.goto X0.here hx rfl (pc0 := 28) (pc' := 7) rfl (hb hby d11_28) (by decide) (by decide) k_) ?_
      show OwnGo p e below s _ _ _ (s₁.setTop (mkF m 7 #[.val (.ref bt), .val (.int k), .val (.int (0 : Int32)), .val (.int (15 : Int32)), .val (.int (k.toInt8.toInt32)), .val (.int (2 : Int32))] []))
      refine own_on (fun t_ k_ => XS.iload X0.here hx rfl (hb hby d11_7) rfl k_) ?_
      show OwnGo p e below s _ _ _ (s₁.setTop (mkF m 9 #[.val (.ref bt), .val (.int k), .val (.int (0 : Int32)), .val (.int (15 : Int32)), .val (.int (k.toInt8.toInt32)), .val (.int (2 : Int32))] [(.int (2 : Int32))]))
      refine own_on (fun t_ k_ => XS.iloadN X0.here hx rfl (hb hby d11_9) rfl k_) ?_
      show OwnGo p e below s _ _ _ (s₁.setTop (mkF m 10 #[.val (.ref bt), .val (.int k), .val (.int (0 : Int32)), .val (.int (15 : Int32)), .val (.int (k.toInt8.toInt32)), .val (.int (2 : Int32))] [(.int (15 : Int32)), (.int (2 : Int32))]))
      refine own_on (fun t_ k_ => XS.icmpNo X0.here hx rfl (hb hby d11_10) rfl (tlt (by decide : (2 : Int32) < (15 : Int32))).2.1 k_) ?_
      show OwnGo p e below s _ _ _ (s₁.setTop (mkF m 13 #[.val (.ref bt), .val (.int k), .val (.int (0 : Int32)), .val (.int (15 : Int32)), .val (.int (k.toInt8.toInt32)), .val (.int (2 : Int32))] []))
      refine own_on (fun t_ k_ => XS.aloadN X0.here hx rfl (hb hby d11_13) rfl rfl k_) ?_
      show OwnGo p e below s _ _ _ (s₁.setTop (mkF m 14 #[.val (.ref bt), .val (.int k), .val (.int (0 : Int32)), .val (.int (15 : Int32)), .val (.int (k.toInt8.toInt32)), .val (.int (2 : Int32))] [(.ref bt)]))
      refine own_on (fun t_ k_ => XS.iload X0.here hx rfl (hb hby d11_14) rfl k_) ?_
      show OwnGo p e below s _ _ _ (s₁.setTop (mkF m 16 #[.val (.ref bt), .val (.int k), .val (.int (0 : Int32)), .val (.int (15 : Int32)), .val (.int (k.toInt8.toInt32)), .val (.int (2 : Int32))] [(.int (2 : Int32)), (.ref bt)]))
      obtain ⟨cl3, Ar3, q3, S3, M3, H3, G3⟩ := id P0
      have hin3 : ¬ ((2 : Int32) < 0 ∨ cl3.slots.size ≤ ((2 : Int32)).toNatClampNeg) := inb_of S3 ⟨by decide, by decide⟩
      have hat3 : cl3.slots[((2 : Int32)).toNatClampNeg]? = some (.int (36 : Int32)) := Has.at H3 hin3 rfl
      refine own_on (X0.baloadBytes hx (j := (2 : Int32)) (v := (.int (36 : Int32))) (by rw [e0]; exact Ar3.1) (State.isArrayOf_alike hZ.alike Ar3.2.1) Ar3.2.2 hin3 hat3 (g := (mkF m 16 #[.val (.ref bt), .val (.int k), .val (.int (0 : Int32)), .val (.int (15 : Int32)), .val (.int (k.toInt8.toInt32)), .val (.int (2 : Int32))] [(.int (2 : Int32)), (.ref bt)])) rfl rfl (hb hby d11_16)) ?_
      show OwnGo p e below s _ _ _ (s₁.setTop (mkF m 17 #[.val (.ref bt), .val (.int k), .val (.int (0 : Int32)), .val (.int (15 : Int32)), .val (.int (k.toInt8.toInt32)), .val (.int (2 : Int32))] [(.int (36 : Int32))]))
      refine own_on (fun t_ k_ => XS.iload X0.here hx rfl (hb hby d11_17) rfl k_) ?_
      show OwnGo p e below s _ _ _ (s₁.setTop (mkF m 19 #[.val (.ref bt), .val (.int k), .val (.int (0 : Int32)), .val (.int (15 : Int32)), .val (.int (k.toInt8.toInt32)), .val (.int (2 : Int32))] [(.int (k.toInt8.toInt32)), (.int (36 : Int32))]))
      by_cases q2 : (36 : Int32) = (k.toInt8.toInt32)
      · refine own_on (fun t_ k_ => XS.icmpNo X0.here hx rfl (hb hby d11_19) rfl (teq q2).2 k_) ?_
        show OwnGo p e below s _ _ _ (s₁.setTop (mkF m 22 #[.val (.ref bt), .val (.int k), .val (.int (0 : Int32)), .val (.int (15 : Int32)), .val (.int (k.toInt8.toInt32)), .val (.int (2 : Int32))] []))
        refine own_on (fun t_ k_ => XS.iload X0.here hx rfl (hb hby d11_22) rfl k_) ?_
        show OwnGo p e below s _ _ _ (s₁.setTop (mkF m 24 #[.val (.ref bt), .val (.int k), .val (.int (0 : Int32)), .val (.int (15 : Int32)), .val (.int (k.toInt8.toInt32)), .val (.int (2 : Int32))] [(.int (2 : Int32))]))
        exact own_retI X0 hx hlk Bd.returns (hb hby d11_24) e0 ⟨(congrArg (fun z => some (Value.int z)) (by simp only [own_ix]; rw [if_neg q0, if_neg q1, if_pos q2])), N0, rfl⟩ (by decide) (by decide)
      · refine own_on (fun t_ k_ => XS.icmpYes X0.here hx rfl (pc0 := 19) (pc' := 25) rfl (hb hby d11_19) rfl (feq q2).2 (by decide) (by decide) k_) ?_
        show OwnGo p e below s _ _ _ (s₁.setTop (mkF m 25 #[.val (.ref bt), .val (.int k), .val (.int (0 : Int32)), .val (.int (15 : Int32)), .val (.int (k.toInt8.toInt32)), .val (.int (2 : Int32))] []))
        refine own_on (fun t_ k_ => XS.iinc X0.here hx rfl (hb hby d11_25) rfl (l' := #[.val (.ref bt), .val (.int k), .val (.int (0 : Int32)), .val (.int (15 : Int32)), .val (.int (k.toInt8.toInt32)), .val (.int (3 : Int32))]) rfl k_) ?_
        show OwnGo p e below s _ _ _ (s₁.setTop (mkF m 28 #[.val (.ref bt), .val (.int k), .val (.int (0 : Int32)), .val (.int (15 : Int32)), .val (.int (k.toInt8.toInt32)), .val (.int (3 : Int32))] []))
        refine own_on (fun t_ k_ => XS.goto X0.here hx rfl (pc0 := 28) (pc' := 7) rfl (hb hby d11_28) (by decide) (by decide) k_) ?_
        show OwnGo p e below s _ _ _ (s₁.setTop (mkF m 7 #[.val (.ref bt), .val (.int k), .val (.int (0 : Int32)), .val (.int (15 : Int32)), .val (.int (k.toInt8.toInt32)), .val (.int (3 : Int32))] []))
        refine own_on (fun t_ k_ => XS.iload X0.here hx rfl (hb hby d11_7) rfl k_) ?_
        show OwnGo p e below s _ _ _ (s₁.setTop (mkF m 9 #[.val (.ref bt), .val (.int k), .val (.int (0 : Int32)), .val (.int (15 : Int32)), .val (.int (k.toInt8.toInt32)), .val (.int (3 : Int32))] [(.int (3 : Int32))]))
        refine own_on (fun t_ k_ => XS.iloadN X0.here hx rfl (hb hby d11_9) rfl k_) ?_
        show OwnGo p e below s _ _ _ (s₁.setTop (mkF m 10 #[.val (.ref bt), .val (.int k), .val (.int (0 : Int32)), .val (.int (15 : Int32)), .val (.int (k.toInt8.toInt32)), .val (.int (3 : Int32))] [(.int (15 : Int32)), (.int (3 : Int32))]))
        refine own_on (fun t_ k_ => XS.icmpNo X0.here hx rfl (hb hby d11_10) rfl (tlt (by decide : (3 : Int32) < (15 : Int32))).2.1 k_) ?_
        show OwnGo p e below s _ _ _ (s₁.setTop (mkF m 13 #[.val (.ref bt), .val (.int k), .val (.int (0 : Int32)), .val (.int (15 : Int32)), .val (.int (k.toInt8.toInt32)), .val (.int (3 : Int32))] []))
        refine own_on (fun t_ k_ => XS.aloadN X0.here hx rfl (hb hby d11_13) rfl rfl k_) ?_
        show OwnGo p e below s _ _ _ (s₁.setTop (mkF m 14 #[.val (.ref bt), .val (.int k), .val (.int (0 : Int32)), .val (.int (15 : Int32)), .val (.int (k.toInt8.toInt32)), .val (.int (3 : Int32))] [(.ref bt)]))
        refine own_on (fun t_ k_ => XS.iload X0.here hx rfl (hb hby d11_14) rfl k_) ?_
        show OwnGo p e below s _ _ _ (s₁.setTop (mkF m 16 #[.val (.ref bt), .val (.int k), .val (.int (0 : Int32)), .val (.int (15 : Int32)), .val (.int (k.toInt8.toInt32)), .val (.int (3 : Int32))] [(.int (3 : Int32)), (.ref bt)]))
        obtain ⟨cl4, Ar4, q4, S4, M4, H4, G4⟩ := id P0
        have hin4 : ¬ ((3 : Int32) < 0 ∨ cl4.slots.size ≤ ((3 : Int32)).toNatClampNeg) := inb_of S4 ⟨by decide, by decide⟩
        have hat4 : cl4.slots[((3 : Int32)).toNatClampNeg]? = some (.int (37 : Int32)) := Has.at H4 hin4 rfl
        refine own_on (X0.baloadBytes hx (j := (3 : Int32)) (v := (.int (37 : Int32))) (by rw [e0]; exact Ar4.1) (State.isArrayOf_alike hZ.alike Ar4.2.1) Ar4.2.2 hin4 hat4 (g := (mkF m 16 #[.val (.ref bt), .val (.int k), .val (.int (0 : Int32)), .val (.int (15 : Int32)), .val (.int (k.toInt8.toInt32)), .val (.int (3 : Int32))] [(.int (3 : Int32)), (.ref bt)])) rfl rfl (hb hby d11_16)) ?_
        show OwnGo p e below s _ _ _ (s₁.setTop (mkF m 17 #[.val (.ref bt), .val (.int k), .val (.int (0 : Int32)), .val (.int (15 : Int32)), .val (.int (k.toInt8.toInt32)), .val (.int (3 : Int32))] [(.int (37 : Int32))]))
        refine own_on (fun t_ k_ => XS.iload X0.here hx rfl (hb hby d11_17) rfl k_) ?_
        show OwnGo p e below s _ _ _ (s₁.setTop (mkF m 19 #[.val (.ref bt), .val (.int k), .val (.int (0 : Int32)), .val (.int (15 : Int32)), .val (.int (k.toInt8.toInt32)), .val (.int (3 : Int32))] [(.int (k.toInt8.toInt32)), (.int (37 : Int32))]))
        by_cases q3 : (37 : Int32) = (k.toInt8.toInt32)
        · refine own_on (fun t_ k_ => XS.icmpNo X0.here hx rfl (hb hby d11_19) rfl (teq q3).2 k_) ?_
          show OwnGo p e below s _ _ _ (s₁.setTop (mkF m 22 #[.val (.ref bt), .val (.int k), .val (.int (0 : Int32)), .val (.int (15 : Int32)), .val (.int (k.toInt8.toInt32)), .val (.int (3 : Int32))] []))
          refine own_on (fun t_ k_ => XS.iload X0.here hx rfl (hb hby d11_22) rfl k_) ?_
          show OwnGo p e below s _ _ _ (s₁.setTop (mkF m 24 #[.val (.ref bt), .val (.int k), .val (.int (0 : Int32)), .val (.int (15 : Int32)), .val (.int (k.toInt8.toInt32)), .val (.int (3 : Int32))] [(.int (3 : Int32))]))
          exact own_retI X0 hx hlk Bd.returns (hb hby d11_24) e0 ⟨(congrArg (fun z => some (Value.int z)) (by simp only [own_ix]; rw [if_neg q0, if_neg q1, if_neg q2, if_pos q3])), N0, rfl⟩ (by decide) (by decide)
        · refine own_on (fun t_ k_ => XS.icmpYes X0.here hx rfl (pc0 := 19) (pc' := 25) rfl (hb hby d11_19) rfl (feq q3).2 (by decide) (by decide) k_) ?_
          show OwnGo p e below s _ _ _ (s₁.setTop (mkF m 25 #[.val (.ref bt), .val (.int k), .val (.int (0 : Int32)), .val (.int (15 : Int32)), .val (.int (k.toInt8.toInt32)), .val (.int (3 : Int32))] []))
          refine own_on (fun t_ k_ => XS.iinc X0.here hx rfl (hb hby d11_25) rfl (l' := #[.val (.ref bt), .val (.int k), .val (.int (0 : Int32)), .val (.int (15 : Int32)), .val (.int (k.toInt8.toInt32)), .val (.int (4 : Int32))]) rfl k_) ?_
          show OwnGo p e below s _ _ _ (s₁.setTop (mkF m 28 #[.val (.ref bt), .val (.int k), .val (.int (0 : Int32)), .val (.int (15 : Int32)), .val (.int (k.toInt8.toInt32)), .val (.int (4 : Int32))] []))
          refine own_on (fun t_ k_ => XS.goto X0.here hx rfl (pc0 := 28) (pc' := 7) rfl (hb hby d11_28) (by decide) (by decide) k_) ?_
          show OwnGo p e below s _ _ _ (s₁.setTop (mkF m 7 #[.val (.ref bt), .val (.int k), .val (.int (0 : Int32)), .val (.int (15 : Int32)), .val (.int (k.toInt8.toInt32)), .val (.int (4 : Int32))] []))
          refine own_on (fun t_ k_ => XS.iload X0.here hx rfl (hb hby d11_7) rfl k_) ?_
          show OwnGo p e below s _ _ _ (s₁.setTop (mkF m 9 #[.val (.ref bt), .val (.int k), .val (.int (0 : Int32)), .val (.int (15 : Int32)), .val (.int (k.toInt8.toInt32)), .val (.int (4 : Int32))] [(.int (4 : Int32))]))
          refine own_on (fun t_ k_ => XS.iloadN X0.here hx rfl (hb hby d11_9) rfl k_) ?_
          show OwnGo p e below s _ _ _ (s₁.setTop (mkF m 10 #[.val (.ref bt), .val (.int k), .val (.int (0 : Int32)), .val (.int (15 : Int32)), .val (.int (k.toInt8.toInt32)), .val (.int (4 : Int32))] [(.int (15 : Int32)), (.int (4 : Int32))]))
          refine own_on (fun t_ k_ => XS.icmpNo X0.here hx rfl (hb hby d11_10) rfl (tlt (by decide : (4 : Int32) < (15 : Int32))).2.1 k_) ?_
          show OwnGo p e below s _ _ _ (s₁.setTop (mkF m 13 #[.val (.ref bt), .val (.int k), .val (.int (0 : Int32)), .val (.int (15 : Int32)), .val (.int (k.toInt8.toInt32)), .val (.int (4 : Int32))] []))
          refine own_on (fun t_ k_ => XS.aloadN X0.here hx rfl (hb hby d11_13) rfl rfl k_) ?_
          show OwnGo p e below s _ _ _ (s₁.setTop (mkF m 14 #[.val (.ref bt), .val (.int k), .val (.int (0 : Int32)), .val (.int (15 : Int32)), .val (.int (k.toInt8.toInt32)), .val (.int (4 : Int32))] [(.ref bt)]))
          refine own_on (fun t_ k_ => XS.iload X0.here hx rfl (hb hby d11_14) rfl k_) ?_
          show OwnGo p e below s _ _ _ (s₁.setTop (mkF m 16 #[.val (.ref bt), .val (.int k), .val (.int (0 : Int32)), .val (.int (15 : Int32)), .val (.int (k.toInt8.toInt32)), .val (.int (4 : Int32))] [(.int (4 : Int32)), (.ref bt)]))
          obtain ⟨cl5, Ar5, q5, S5, M5, H5, G5⟩ := id P0
          have hin5 : ¬ ((4 : Int32) < 0 ∨ cl5.slots.size ≤ ((4 : Int32)).toNatClampNeg) := inb_of S5 ⟨by decide, by decide⟩
          have hat5 : cl5.slots[((4 : Int32)).toNatClampNeg]? = some (.int (38 : Int32)) := Has.at H5 hin5 rfl
          refine own_on (X0.baloadBytes hx (j := (4 : Int32)) (v := (.int (38 : Int32))) (by rw [e0]; exact Ar5.1) (State.isArrayOf_alike hZ.alike Ar5.2.1) Ar5.2.2 hin5 hat5 (g := (mkF m 16 #[.val (.ref bt), .val (.int k), .val (.int (0 : Int32)), .val (.int (15 : Int32)), .val (.int (k.toInt8.toInt32)), .val (.int (4 : Int32))] [(.int (4 : Int32)), (.ref bt)])) rfl rfl (hb hby d11_16)) ?_
          show OwnGo p e below s _ _ _ (s₁.setTop (mkF m 17 #[.val (.ref bt), .val (.int k), .val (.int (0 : Int32)), .val (.int (15 : Int32)), .val (.int (k.toInt8.toInt32)), .val (.int (4 : Int32))] [(.int (38 : Int32))]))
          refine own_on (fun t_ k_ => XS.iload X0.here hx rfl (hb hby d11_17) rfl k_) ?_
          show OwnGo p e below s _ _ _ (s₁.setTop (mkF m 19 #[.val (.ref bt), .val (.int k), .val (.int (0 : Int32)), .val (.int (15 : Int32)), .val (.int (k.toInt8.toInt32)), .val (.int (4 : Int32))] [(.int (k.toInt8.toInt32)), (.int (38 : Int32))]))
          by_cases q4 : (38 : Int32) = (k.toInt8.toInt32)
          · refine own_on (fun t_ k_ => XS.icmpNo X0.here hx rfl (hb hby d11_19) rfl (teq q4).2 k_) ?_
            show OwnGo p e below s _ _ _ (s₁.setTop (mkF m 22 #[.val (.ref bt), .val (.int k), .val (.int (0 : Int32)), .val (.int (15 : Int32)), .val (.int (k.toInt8.toInt32)), .val (.int (4 : Int32))] []))
            refine own_on (fun t_ k_ => XS.iload X0.here hx rfl (hb hby d11_22) rfl k_) ?_
            show OwnGo p e below s _ _ _ (s₁.setTop (mkF m 24 #[.val (.ref bt), .val (.int k), .val (.int (0 : Int32)), .val (.int (15 : Int32)), .val (.int (k.toInt8.toInt32)), .val (.int (4 : Int32))] [(.int (4 : Int32))]))
            exact own_retI X0 hx hlk Bd.returns (hb hby d11_24) e0 ⟨(congrArg (fun z => some (Value.int z)) (by simp only [own_ix]; rw [if_neg q0, if_neg q1, if_neg q2, if_neg q3, if_pos q4])), N0, rfl⟩ (by decide) (by decide)
          · refine own_on (fun t_ k_ => XS.icmpYes X0.here hx rfl (pc0 := 19) (pc' := 25) rfl (hb hby d11_19) rfl (feq q4).2 (by decide) (by decide) k_) ?_
            show OwnGo p e below s _ _ _ (s₁.setTop (mkF m 25 #[.val (.ref bt), .val (.int k), .val (.int (0 : Int32)), .val (.int (15 : Int32)), .val (.int (k.toInt8.toInt32)), .val (.int (4 : Int32))] []))
            refine own_on (fun t_ k_ => XS.iinc X0.here hx rfl (hb hby d11_25) rfl (l' := #[.val (.ref bt), .val (.int k), .val (.int (0 : Int32)), .val (.int (15 : Int32)), .val (.int (k.toInt8.toInt32)), .val (.int (5 : Int32))]) rfl k_) ?_
            show OwnGo p e below s _ _ _ (s₁.setTop (mkF m 28 #[.val (.ref bt), .val (.int k), .val (.int (0 : Int32)), .val (.int (15 : Int32)), .val (.int (k.toInt8.toInt32)), .val (.int (5 : Int32))] []))
            refine own_on (fun t_ k_ => XS.goto X0.here hx rfl (pc0 := 28) (pc' := 7) rfl (hb hby d11_28) (by decide) (by decide) k_) ?_
            show OwnGo p e below s _ _ _ (s₁.setTop (mkF m 7 #[.val (.ref bt), .val (.int k), .val (.int (0 : Int32)), .val (.int (15 : Int32)), .val (.int (k.toInt8.toInt32)), .val (.int (5 : Int32))] []))
            refine own_on (fun t_ k_ => XS.iload X0.here hx rfl (hb hby d11_7) rfl k_) ?_
            show OwnGo p e below s _ _ _ (s₁.setTop (mkF m 9 #[.val (.ref bt), .val (.int k), .val (.int (0 : Int32)), .val (.int (15 : Int32)), .val (.int (k.toInt8.toInt32)), .val (.int (5 : Int32))] [(.int (5 : Int32))]))
            refine own_on (fun t_ k_ => XS.iloadN X0.here hx rfl (hb hby d11_9) rfl k_) ?_
            show OwnGo p e below s _ _ _ (s₁.setTop (mkF m 10 #[.val (.ref bt), .val (.int k), .val (.int (0 : Int32)), .val (.int (15 : Int32)), .val (.int (k.toInt8.toInt32)), .val (.int (5 : Int32))] [(.int (15 : Int32)), (.int (5 : Int32))]))
            refine own_on (fun t_ k_ => XS.icmpNo X0.here hx rfl (hb hby d11_10) rfl (tlt (by decide : (5 : Int32) < (15 : Int32))).2.1 k_) ?_
            show OwnGo p e below s _ _ _ (s₁.setTop (mkF m 13 #[.val (.ref bt), .val (.int k), .val (.int (0 : Int32)), .val (.int (15 : Int32)), .val (.int (k.toInt8.toInt32)), .val (.int (5 : Int32))] []))
            refine own_on (fun t_ k_ => XS.aloadN X0.here hx rfl (hb hby d11_13) rfl rfl k_) ?_
            show OwnGo p e below s _ _ _ (s₁.setTop (mkF m 14 #[.val (.ref bt), .val (.int k), .val (.int (0 : Int32)), .val (.int (15 : Int32)), .val (.int (k.toInt8.toInt32)), .val (.int (5 : Int32))] [(.ref bt)]))
            refine own_on (fun t_ k_ => XS.iload X0.here hx rfl (hb hby d11_14) rfl k_) ?_
            show OwnGo p e below s _ _ _ (s₁.setTop (mkF m 16 #[.val (.ref bt), .val (.int k), .val (.int (0 : Int32)), .val (.int (15 : Int32)), .val (.int (k.toInt8.toInt32)), .val (.int (5 : Int32))] [(.int (5 : Int32)), (.ref bt)]))
            obtain ⟨cl6, Ar6, q6, S6, M6, H6, G6⟩ := id P0
            have hin6 : ¬ ((5 : Int32) < 0 ∨ cl6.slots.size ≤ ((5 : Int32)).toNatClampNeg) := inb_of S6 ⟨by decide, by decide⟩
            have hat6 : cl6.slots[((5 : Int32)).toNatClampNeg]? = some (.int (39 : Int32)) := Has.at H6 hin6 rfl
            refine own_on (X0.baloadBytes hx (j := (5 : Int32)) (v := (.int (39 : Int32))) (by rw [e0]; exact Ar6.1) (State.isArrayOf_alike hZ.alike Ar6.2.1) Ar6.2.2 hin6 hat6 (g := (mkF m 16 #[.val (.ref bt), .val (.int k), .val (.int (0 : Int32)), .val (.int (15 : Int32)), .val (.int (k.toInt8.toInt32)), .val (.int (5 : Int32))] [(.int (5 : Int32)), (.ref bt)])) rfl rfl (hb hby d11_16)) ?_
            show OwnGo p e below s _ _ _ (s₁.setTop (mkF m 17 #[.val (.ref bt), .val (.int k), .val (.int (0 : Int32)), .val (.int (15 : Int32)), .val (.int (k.toInt8.toInt32)), .val (.int (5 : Int32))] [(.int (39 : Int32))]))
            refine own_on (fun t_ k_ => XS.iload X0.here hx rfl (hb hby d11_17) rfl k_) ?_
            show OwnGo p e below s _ _ _ (s₁.setTop (mkF m 19 #[.val (.ref bt), .val (.int k), .val (.int (0 : Int32)), .val (.int (15 : Int32)), .val (.int (k.toInt8.toInt32)), .val (.int (5 : Int32))] [(.int (k.toInt8.toInt32)), (.int (39 : Int32))]))
            by_cases q5 : (39 : Int32) = (k.toInt8.toInt32)
            · refine own_on (fun t_ k_ => XS.icmpNo X0.here hx rfl (hb hby d11_19) rfl (teq q5).2 k_) ?_
              show OwnGo p e below s _ _ _ (s₁.setTop (mkF m 22 #[.val (.ref bt), .val (.int k), .val (.int (0 : Int32)), .val (.int (15 : Int32)), .val (.int (k.toInt8.toInt32)), .val (.int (5 : Int32))] []))
              refine own_on (fun t_ k_ => XS.iload X0.here hx rfl (hb hby d11_22) rfl k_) ?_
              show OwnGo p e below s _ _ _ (s₁.setTop (mkF m 24 #[.val (.ref bt), .val (.int k), .val (.int (0 : Int32)), .val (.int (15 : Int32)), .val (.int (k.toInt8.toInt32)), .val (.int (5 : Int32))] [(.int (5 : Int32))]))
              exact own_retI X0 hx hlk Bd.returns (hb hby d11_24) e0 ⟨(congrArg (fun z => some (Value.int z)) (by simp only [own_ix]; rw [if_neg q0, if_neg q1, if_neg q2, if_neg q3, if_neg q4, if_pos q5])), N0, rfl⟩ (by decide) (by decide)
            · refine own_on (fun t_ k_ => XS.icmpYes X0.here hx rfl (pc0 := 19) (pc' := 25) rfl (hb hby d11_19) rfl (feq q5).2 (by decide) (by decide) k_) ?_
              show OwnGo p e below s _ _ _ (s₁.setTop (mkF m 25 #[.val (.ref bt), .val (.int k), .val (.int (0 : Int32)), .val (.int (15 : Int32)), .val (.int (k.toInt8.toInt32)), .val (.int (5 : Int32))] []))
              refine own_on (fun t_ k_ => XS.iinc X0.here hx rfl (hb hby d11_25) rfl (l' := #[.val (.ref bt), .val (.int k), .val (.int (0 : Int32)), .val (.int (15 : Int32)), .val (.int (k.toInt8.toInt32)), .val (.int (6 : Int32))]) rfl k_) ?_
              show OwnGo p e below s _ _ _ (s₁.setTop (mkF m 28 #[.val (.ref bt), .val (.int k), .val (.int (0 : Int32)), .val (.int (15 : Int32)), .val (.int (k.toInt8.toInt32)), .val (.int (6 : Int32))] []))
              refine own_on (fun t_ k_ => XS.goto X0.here hx rfl (pc0 := 28) (pc' := 7) rfl (hb hby d11_28) (by decide) (by decide) k_) ?_
              show OwnGo p e below s _ _ _ (s₁.setTop (mkF m 7 #[.val (.ref bt), .val (.int k), .val (.int (0 : Int32)), .val (.int (15 : Int32)), .val (.int (k.toInt8.toInt32)), .val (.int (6 : Int32))] []))
              refine own_on (fun t_ k_ => XS.iload X0.here hx rfl (hb hby d11_7) rfl k_) ?_
              show OwnGo p e below s _ _ _ (s₁.setTop (mkF m 9 #[.val (.ref bt), .val (.int k), .val (.int (0 : Int32)), .val (.int (15 : Int32)), .val (.int (k.toInt8.toInt32)), .val (.int (6 : Int32))] [(.int (6 : Int32))]))
              refine own_on (fun t_ k_ => XS.iloadN X0.here hx rfl (hb hby d11_9) rfl k_) ?_
              show OwnGo p e below s _ _ _ (s₁.setTop (mkF m 10 #[.val (.ref bt), .val (.int k), .val (.int (0 : Int32)), .val (.int (15 : Int32)), .val (.int (k.toInt8.toInt32)), .val (.int (6 : Int32))] [(.int (15 : Int32)), (.int (6 : Int32))]))
              refine own_on (fun t_ k_ => XS.icmpNo X0.here hx rfl (hb hby d11_10) rfl (tlt (by decide : (6 : Int32) < (15 : Int32))).2.1 k_) ?_
              show OwnGo p e below s _ _ _ (s₁.setTop (mkF m 13 #[.val (.ref bt), .val (.int k), .val (.int (0 : Int32)), .val (.int (15 : Int32)), .val (.int (k.toInt8.toInt32)), .val (.int (6 : Int32))] []))
              refine own_on (fun t_ k_ => XS.aloadN X0.here hx rfl (hb hby d11_13) rfl rfl k_) ?_
              show OwnGo p e below s _ _ _ (s₁.setTop (mkF m 14 #[.val (.ref bt), .val (.int k), .val (.int (0 : Int32)), .val (.int (15 : Int32)), .val (.int (k.toInt8.toInt32)), .val (.int (6 : Int32))] [(.ref bt)]))
              refine own_on (fun t_ k_ => XS.iload X0.here hx rfl (hb hby d11_14) rfl k_) ?_
              show OwnGo p e below s _ _ _ (s₁.setTop (mkF m 16 #[.val (.ref bt), .val (.int k), .val (.int (0 : Int32)), .val (.int (15 : Int32)), .val (.int (k.toInt8.toInt32)), .val (.int (6 : Int32))] [(.int (6 : Int32)), (.ref bt)]))
              obtain ⟨cl7, Ar7, q7, S7, M7, H7, G7⟩ := id P0
              have hin7 : ¬ ((6 : Int32) < 0 ∨ cl7.slots.size ≤ ((6 : Int32)).toNatClampNeg) := inb_of S7 ⟨by decide, by decide⟩
              have hat7 : cl7.slots[((6 : Int32)).toNatClampNeg]? = some (.int (42 : Int32)) := Has.at H7 hin7 rfl
              refine own_on (X0.baloadBytes hx (j := (6 : Int32)) (v := (.int (42 : Int32))) (by rw [e0]; exact Ar7.1) (State.isArrayOf_alike hZ.alike Ar7.2.1) Ar7.2.2 hin7 hat7 (g := (mkF m 16 #[.val (.ref bt), .val (.int k), .val (.int (0 : Int32)), .val (.int (15 : Int32)), .val (.int (k.toInt8.toInt32)), .val (.int (6 : Int32))] [(.int (6 : Int32)), (.ref bt)])) rfl rfl (hb hby d11_16)) ?_
              show OwnGo p e below s _ _ _ (s₁.setTop (mkF m 17 #[.val (.ref bt), .val (.int k), .val (.int (0 : Int32)), .val (.int (15 : Int32)), .val (.int (k.toInt8.toInt32)), .val (.int (6 : Int32))] [(.int (42 : Int32))]))
              refine own_on (fun t_ k_ => XS.iload X0.here hx rfl (hb hby d11_17) rfl k_) ?_
              show OwnGo p e below s _ _ _ (s₁.setTop (mkF m 19 #[.val (.ref bt), .val (.int k), .val (.int (0 : Int32)), .val (.int (15 : Int32)), .val (.int (k.toInt8.toInt32)), .val (.int (6 : Int32))] [(.int (k.toInt8.toInt32)), (.int (42 : Int32))]))
              by_cases q6 : (42 : Int32) = (k.toInt8.toInt32)
              · refine own_on (fun t_ k_ => XS.icmpNo X0.here hx rfl (hb hby d11_19) rfl (teq q6).2 k_) ?_
                show OwnGo p e below s _ _ _ (s₁.setTop (mkF m 22 #[.val (.ref bt), .val (.int k), .val (.int (0 : Int32)), .val (.int (15 : Int32)), .val (.int (k.toInt8.toInt32)), .val (.int (6 : Int32))] []))
                refine own_on (fun t_ k_ => XS.iload X0.here hx rfl (hb hby d11_22) rfl k_) ?_
                show OwnGo p e below s _ _ _ (s₁.setTop (mkF m 24 #[.val (.ref bt), .val (.int k), .val (.int (0 : Int32)), .val (.int (15 : Int32)), .val (.int (k.toInt8.toInt32)), .val (.int (6 : Int32))] [(.int (6 : Int32))]))
                exact own_retI X0 hx hlk Bd.returns (hb hby d11_24) e0 ⟨(congrArg (fun z => some (Value.int z)) (by simp only [own_ix]; rw [if_neg q0, if_neg q1, if_neg q2, if_neg q3, if_neg q4, if_neg q5, if_pos q6])), N0, rfl⟩ (by decide) (by decide)
              · refine own_on (fun t_ k_ => XS.icmpYes X0.here hx rfl (pc0 := 19) (pc' := 25) rfl (hb hby d11_19) rfl (feq q6).2 (by decide) (by decide) k_) ?_
                show OwnGo p e below s _ _ _ (s₁.setTop (mkF m 25 #[.val (.ref bt), .val (.int k), .val (.int (0 : Int32)), .val (.int (15 : Int32)), .val (.int (k.toInt8.toInt32)), .val (.int (6 : Int32))] []))
                refine own_on (fun t_ k_ => XS.iinc X0.here hx rfl (hb hby d11_25) rfl (l' := #[.val (.ref bt), .val (.int k), .val (.int (0 : Int32)), .val (.int (15 : Int32)), .val (.int (k.toInt8.toInt32)), .val (.int (7 : Int32))]) rfl k_) ?_
                show OwnGo p e below s _ _ _ (s₁.setTop (mkF m 28 #[.val (.ref bt), .val (.int k), .val (.int (0 : Int32)), .val (.int (15 : Int32)), .val (.int (k.toInt8.toInt32)), .val (.int (7 : Int32))] []))
                refine own_on (fun t_ k_ => XS.goto X0.here hx rfl (pc0 := 28) (pc' := 7) rfl (hb hby d11_28) (by decide) (by decide) k_) ?_
                show OwnGo p e below s _ _ _ (s₁.setTop (mkF m 7 #[.val (.ref bt), .val (.int k), .val (.int (0 : Int32)), .val (.int (15 : Int32)), .val (.int (k.toInt8.toInt32)), .val (.int (7 : Int32))] []))
                refine own_on (fun t_ k_ => XS.iload X0.here hx rfl (hb hby d11_7) rfl k_) ?_
                show OwnGo p e below s _ _ _ (s₁.setTop (mkF m 9 #[.val (.ref bt), .val (.int k), .val (.int (0 : Int32)), .val (.int (15 : Int32)), .val (.int (k.toInt8.toInt32)), .val (.int (7 : Int32))] [(.int (7 : Int32))]))
                refine own_on (fun t_ k_ => XS.iloadN X0.here hx rfl (hb hby d11_9) rfl k_) ?_
                show OwnGo p e below s _ _ _ (s₁.setTop (mkF m 10 #[.val (.ref bt), .val (.int k), .val (.int (0 : Int32)), .val (.int (15 : Int32)), .val (.int (k.toInt8.toInt32)), .val (.int (7 : Int32))] [(.int (15 : Int32)), (.int (7 : Int32))]))
                refine own_on (fun t_ k_ => XS.icmpNo X0.here hx rfl (hb hby d11_10) rfl (tlt (by decide : (7 : Int32) < (15 : Int32))).2.1 k_) ?_
                show OwnGo p e below s _ _ _ (s₁.setTop (mkF m 13 #[.val (.ref bt), .val (.int k), .val (.int (0 : Int32)), .val (.int (15 : Int32)), .val (.int (k.toInt8.toInt32)), .val (.int (7 : Int32))] []))
                refine own_on (fun t_ k_ => XS.aloadN X0.here hx rfl (hb hby d11_13) rfl rfl k_) ?_
                show OwnGo p e below s _ _ _ (s₁.setTop (mkF m 14 #[.val (.ref bt), .val (.int k), .val (.int (0 : Int32)), .val (.int (15 : Int32)), .val (.int (k.toInt8.toInt32)), .val (.int (7 : Int32))] [(.ref bt)]))
                refine own_on (fun t_ k_ => XS.iload X0.here hx rfl (hb hby d11_14) rfl k_) ?_
                show OwnGo p e below s _ _ _ (s₁.setTop (mkF m 16 #[.val (.ref bt), .val (.int k), .val (.int (0 : Int32)), .val (.int (15 : Int32)), .val (.int (k.toInt8.toInt32)), .val (.int (7 : Int32))] [(.int (7 : Int32)), (.ref bt)]))
                obtain ⟨cl8, Ar8, q8, S8, M8, H8, G8⟩ := id P0
                have hin8 : ¬ ((7 : Int32) < 0 ∨ cl8.slots.size ≤ ((7 : Int32)).toNatClampNeg) := inb_of S8 ⟨by decide, by decide⟩
                have hat8 : cl8.slots[((7 : Int32)).toNatClampNeg]? = some (.int (43 : Int32)) := Has.at H8 hin8 rfl
                refine own_on (X0.baloadBytes hx (j := (7 : Int32)) (v := (.int (43 : Int32))) (by rw [e0]; exact Ar8.1) (State.isArrayOf_alike hZ.alike Ar8.2.1) Ar8.2.2 hin8 hat8 (g := (mkF m 16 #[.val (.ref bt), .val (.int k), .val (.int (0 : Int32)), .val (.int (15 : Int32)), .val (.int (k.toInt8.toInt32)), .val (.int (7 : Int32))] [(.int (7 : Int32)), (.ref bt)])) rfl rfl (hb hby d11_16)) ?_
                show OwnGo p e below s _ _ _ (s₁.setTop (mkF m 17 #[.val (.ref bt), .val (.int k), .val (.int (0 : Int32)), .val (.int (15 : Int32)), .val (.int (k.toInt8.toInt32)), .val (.int (7 : Int32))] [(.int (43 : Int32))]))
                refine own_on (fun t_ k_ => XS.iload X0.here hx rfl (hb hby d11_17) rfl k_) ?_
                show OwnGo p e below s _ _ _ (s₁.setTop (mkF m 19 #[.val (.ref bt), .val (.int k), .val (.int (0 : Int32)), .val (.int (15 : Int32)), .val (.int (k.toInt8.toInt32)), .val (.int (7 : Int32))] [(.int (k.toInt8.toInt32)), (.int (43 : Int32))]))
                by_cases q7 : (43 : Int32) = (k.toInt8.toInt32)
                · refine own_on (fun t_ k_ => XS.icmpNo X0.here hx rfl (hb hby d11_19) rfl (teq q7).2 k_) ?_
                  show OwnGo p e below s _ _ _ (s₁.setTop (mkF m 22 #[.val (.ref bt), .val (.int k), .val (.int (0 : Int32)), .val (.int (15 : Int32)), .val (.int (k.toInt8.toInt32)), .val (.int (7 : Int32))] []))
                  refine own_on (fun t_ k_ => XS.iload X0.here hx rfl (hb hby d11_22) rfl k_) ?_
                  show OwnGo p e below s _ _ _ (s₁.setTop (mkF m 24 #[.val (.ref bt), .val (.int k), .val (.int (0 : Int32)), .val (.int (15 : Int32)), .val (.int (k.toInt8.toInt32)), .val (.int (7 : Int32))] [(.int (7 : Int32))]))
                  exact own_retI X0 hx hlk Bd.returns (hb hby d11_24) e0 ⟨(congrArg (fun z => some (Value.int z)) (by simp only [own_ix]; rw [if_neg q0, if_neg q1, if_neg q2, if_neg q3, if_neg q4, if_neg q5, if_neg q6, if_pos q7])), N0, rfl⟩ (by decide) (by decide)
                · refine own_on (fun t_ k_ => XS.icmpYes X0.here hx rfl (pc0 := 19) (pc' := 25) rfl (hb hby d11_19) rfl (feq q7).2 (by decide) (by decide) k_) ?_
                  show OwnGo p e below s _ _ _ (s₁.setTop (mkF m 25 #[.val (.ref bt), .val (.int k), .val (.int (0 : Int32)), .val (.int (15 : Int32)), .val (.int (k.toInt8.toInt32)), .val (.int (7 : Int32))] []))
                  refine own_on (fun t_ k_ => XS.iinc X0.here hx rfl (hb hby d11_25) rfl (l' := #[.val (.ref bt), .val (.int k), .val (.int (0 : Int32)), .val (.int (15 : Int32)), .val (.int (k.toInt8.toInt32)), .val (.int (8 : Int32))]) rfl k_) ?_
                  show OwnGo p e below s _ _ _ (s₁.setTop (mkF m 28 #[.val (.ref bt), .val (.int k), .val (.int (0 : Int32)), .val (.int (15 : Int32)), .val (.int (k.toInt8.toInt32)), .val (.int (8 : Int32))] []))
                  refine own_on (fun t_ k_ => XS.goto X0.here hx rfl (pc0 := 28) (pc' := 7) rfl (hb hby d11_28) (by decide) (by decide) k_) ?_
                  show OwnGo p e below s _ _ _ (s₁.setTop (mkF m 7 #[.val (.ref bt), .val (.int k), .val (.int (0 : Int32)), .val (.int (15 : Int32)), .val (.int (k.toInt8.toInt32)), .val (.int (8 : Int32))] []))
                  refine own_on (fun t_ k_ => XS.iload X0.here hx rfl (hb hby d11_7) rfl k_) ?_
                  show OwnGo p e below s _ _ _ (s₁.setTop (mkF m 9 #[.val (.ref bt), .val (.int k), .val (.int (0 : Int32)), .val (.int (15 : Int32)), .val (.int (k.toInt8.toInt32)), .val (.int (8 : Int32))] [(.int (8 : Int32))]))
                  refine own_on (fun t_ k_ => XS.iloadN X0.here hx rfl (hb hby d11_9) rfl k_) ?_
                  show OwnGo p e below s _ _ _ (s₁.setTop (mkF m 10 #[.val (.ref bt), .val (.int k), .val (.int (0 : Int32)), .val (.int (15 : Int32)), .val (.int (k.toInt8.toInt32)), .val (.int (8 : Int32))] [(.int (15 : Int32)), (.int (8 : Int32))]))
                  refine own_on (fun t_ k_ => XS.icmpNo X0.here hx rfl (hb hby d11_10) rfl (tlt (by decide : (8 : Int32) < (15 : Int32))).2.1 k_) ?_
                  show OwnGo p e below s _ _ _ (s₁.setTop (mkF m 13 #[.val (.ref bt), .val (.int k), .val (.int (0 : Int32)), .val (.int (15 : Int32)), .val (.int (k.toInt8.toInt32)), .val (.int (8 : Int32))] []))
                  refine own_on (fun t_ k_ => XS.aloadN X0.here hx rfl (hb hby d11_13) rfl rfl k_) ?_
                  show OwnGo p e below s _ _ _ (s₁.setTop (mkF m 14 #[.val (.ref bt), .val (.int k), .val (.int (0 : Int32)), .val (.int (15 : Int32)), .val (.int (k.toInt8.toInt32)), .val (.int (8 : Int32))] [(.ref bt)]))
                  refine own_on (fun t_ k_ => XS.iload X0.here hx rfl (hb hby d11_14) rfl k_) ?_
                  show OwnGo p e below s _ _ _ (s₁.setTop (mkF m 16 #[.val (.ref bt), .val (.int k), .val (.int (0 : Int32)), .val (.int (15 : Int32)), .val (.int (k.toInt8.toInt32)), .val (.int (8 : Int32))] [(.int (8 : Int32)), (.ref bt)]))
                  obtain ⟨cl9, Ar9, q9, S9, M9, H9, G9⟩ := id P0
                  have hin9 : ¬ ((8 : Int32) < 0 ∨ cl9.slots.size ≤ ((8 : Int32)).toNatClampNeg) := inb_of S9 ⟨by decide, by decide⟩
                  have hat9 : cl9.slots[((8 : Int32)).toNatClampNeg]? = some (.int (45 : Int32)) := Has.at H9 hin9 rfl
                  refine own_on (X0.baloadBytes hx (j := (8 : Int32)) (v := (.int (45 : Int32))) (by rw [e0]; exact Ar9.1) (State.isArrayOf_alike hZ.alike Ar9.2.1) Ar9.2.2 hin9 hat9 (g := (mkF m 16 #[.val (.ref bt), .val (.int k), .val (.int (0 : Int32)), .val (.int (15 : Int32)), .val (.int (k.toInt8.toInt32)), .val (.int (8 : Int32))] [(.int (8 : Int32)), (.ref bt)])) rfl rfl (hb hby d11_16)) ?_
                  show OwnGo p e below s _ _ _ (s₁.setTop (mkF m 17 #[.val (.ref bt), .val (.int k), .val (.int (0 : Int32)), .val (.int (15 : Int32)), .val (.int (k.toInt8.toInt32)), .val (.int (8 : Int32))] [(.int (45 : Int32))]))
                  refine own_on (fun t_ k_ => XS.iload X0.here hx rfl (hb hby d11_17) rfl k_) ?_
                  show OwnGo p e below s _ _ _ (s₁.setTop (mkF m 19 #[.val (.ref bt), .val (.int k), .val (.int (0 : Int32)), .val (.int (15 : Int32)), .val (.int (k.toInt8.toInt32)), .val (.int (8 : Int32))] [(.int (k.toInt8.toInt32)), (.int (45 : Int32))]))
                  by_cases q8 : (45 : Int32) = (k.toInt8.toInt32)
                  · refine own_on (fun t_ k_ => XS.icmpNo X0.here hx rfl (hb hby d11_19) rfl (teq q8).2 k_) ?_
                    show OwnGo p e below s _ _ _ (s₁.setTop (mkF m 22 #[.val (.ref bt), .val (.int k), .val (.int (0 : Int32)), .val (.int (15 : Int32)), .val (.int (k.toInt8.toInt32)), .val (.int (8 : Int32))] []))
                    refine own_on (fun t_ k_ => XS.iload X0.here hx rfl (hb hby d11_22) rfl k_) ?_
                    show OwnGo p e below s _ _ _ (s₁.setTop (mkF m 24 #[.val (.ref bt), .val (.int k), .val (.int (0 : Int32)), .val (.int (15 : Int32)), .val (.int (k.toInt8.toInt32)), .val (.int (8 : Int32))] [(.int (8 : Int32))]))
                    exact own_retI X0 hx hlk Bd.returns (hb hby d11_24) e0 ⟨(congrArg (fun z => some (Value.int z)) (by simp only [own_ix]; rw [if_neg q0, if_neg q1, if_neg q2, if_neg q3, if_neg q4, if_neg q5, if_neg q6, if_neg q7, if_pos q8])), N0, rfl⟩ (by decide) (by decide)
                  · refine own_on (fun t_ k_ => XS.icmpYes X0.here hx rfl (pc0 := 19) (pc' := 25) rfl (hb hby d11_19) rfl (feq q8).2 (by decide) (by decide) k_) ?_
                    show OwnGo p e below s _ _ _ (s₁.setTop (mkF m 25 #[.val (.ref bt), .val (.int k), .val (.int (0 : Int32)), .val (.int (15 : Int32)), .val (.int (k.toInt8.toInt32)), .val (.int (8 : Int32))] []))
                    refine own_on (fun t_ k_ => XS.iinc X0.here hx rfl (hb hby d11_25) rfl (l' := #[.val (.ref bt), .val (.int k), .val (.int (0 : Int32)), .val (.int (15 : Int32)), .val (.int (k.toInt8.toInt32)), .val (.int (9 : Int32))]) rfl k_) ?_
                    show OwnGo p e below s _ _ _ (s₁.setTop (mkF m 28 #[.val (.ref bt), .val (.int k), .val (.int (0 : Int32)), .val (.int (15 : Int32)), .val (.int (k.toInt8.toInt32)), .val (.int (9 : Int32))] []))
                    refine own_on (fun t_ k_ => XS.goto X0.here hx rfl (pc0 := 28) (pc' := 7) rfl (hb hby d11_28) (by decide) (by decide) k_) ?_
                    show OwnGo p e below s _ _ _ (s₁.setTop (mkF m 7 #[.val (.ref bt), .val (.int k), .val (.int (0 : Int32)), .val (.int (15 : Int32)), .val (.int (k.toInt8.toInt32)), .val (.int (9 : Int32))] []))
                    refine own_on (fun t_ k_ => XS.iload X0.here hx rfl (hb hby d11_7) rfl k_) ?_
                    show OwnGo p e below s _ _ _ (s₁.setTop (mkF m 9 #[.val (.ref bt), .val (.int k), .val (.int (0 : Int32)), .val (.int (15 : Int32)), .val (.int (k.toInt8.toInt32)), .val (.int (9 : Int32))] [(.int (9 : Int32))]))
                    refine own_on (fun t_ k_ => XS.iloadN X0.here hx rfl (hb hby d11_9) rfl k_) ?_
                    show OwnGo p e below s _ _ _ (s₁.setTop (mkF m 10 #[.val (.ref bt), .val (.int k), .val (.int (0 : Int32)), .val (.int (15 : Int32)), .val (.int (k.toInt8.toInt32)), .val (.int (9 : Int32))] [(.int (15 : Int32)), (.int (9 : Int32))]))
                    refine own_on (fun t_ k_ => XS.icmpNo X0.here hx rfl (hb hby d11_10) rfl (tlt (by decide : (9 : Int32) < (15 : Int32))).2.1 k_) ?_
                    show OwnGo p e below s _ _ _ (s₁.setTop (mkF m 13 #[.val (.ref bt), .val (.int k), .val (.int (0 : Int32)), .val (.int (15 : Int32)), .val (.int (k.toInt8.toInt32)), .val (.int (9 : Int32))] []))
                    refine own_on (fun t_ k_ => XS.aloadN X0.here hx rfl (hb hby d11_13) rfl rfl k_) ?_
                    show OwnGo p e below s _ _ _ (s₁.setTop (mkF m 14 #[.val (.ref bt), .val (.int k), .val (.int (0 : Int32)), .val (.int (15 : Int32)), .val (.int (k.toInt8.toInt32)), .val (.int (9 : Int32))] [(.ref bt)]))
                    refine own_on (fun t_ k_ => XS.iload X0.here hx rfl (hb hby d11_14) rfl k_) ?_
                    show OwnGo p e below s _ _ _ (s₁.setTop (mkF m 16 #[.val (.ref bt), .val (.int k), .val (.int (0 : Int32)), .val (.int (15 : Int32)), .val (.int (k.toInt8.toInt32)), .val (.int (9 : Int32))] [(.int (9 : Int32)), (.ref bt)]))
                    obtain ⟨cl10, Ar10, q10, S10, M10, H10, G10⟩ := id P0
                    have hin10 : ¬ ((9 : Int32) < 0 ∨ cl10.slots.size ≤ ((9 : Int32)).toNatClampNeg) := inb_of S10 ⟨by decide, by decide⟩
                    have hat10 : cl10.slots[((9 : Int32)).toNatClampNeg]? = some (.int (46 : Int32)) := Has.at H10 hin10 rfl
                    refine own_on (X0.baloadBytes hx (j := (9 : Int32)) (v := (.int (46 : Int32))) (by rw [e0]; exact Ar10.1) (State.isArrayOf_alike hZ.alike Ar10.2.1) Ar10.2.2 hin10 hat10 (g := (mkF m 16 #[.val (.ref bt), .val (.int k), .val (.int (0 : Int32)), .val (.int (15 : Int32)), .val (.int (k.toInt8.toInt32)), .val (.int (9 : Int32))] [(.int (9 : Int32)), (.ref bt)])) rfl rfl (hb hby d11_16)) ?_
                    show OwnGo p e below s _ _ _ (s₁.setTop (mkF m 17 #[.val (.ref bt), .val (.int k), .val (.int (0 : Int32)), .val (.int (15 : Int32)), .val (.int (k.toInt8.toInt32)), .val (.int (9 : Int32))] [(.int (46 : Int32))]))
                    refine own_on (fun t_ k_ => XS.iload X0.here hx rfl (hb hby d11_17) rfl k_) ?_
                    show OwnGo p e below s _ _ _ (s₁.setTop (mkF m 19 #[.val (.ref bt), .val (.int k), .val (.int (0 : Int32)), .val (.int (15 : Int32)), .val (.int (k.toInt8.toInt32)), .val (.int (9 : Int32))] [(.int (k.toInt8.toInt32)), (.int (46 : Int32))]))
                    by_cases q9 : (46 : Int32) = (k.toInt8.toInt32)
                    · refine own_on (fun t_ k_ => XS.icmpNo X0.here hx rfl (hb hby d11_19) rfl (teq q9).2 k_) ?_
                      show OwnGo p e below s _ _ _ (s₁.setTop (mkF m 22 #[.val (.ref bt), .val (.int k), .val (.int (0 : Int32)), .val (.int (15 : Int32)), .val (.int (k.toInt8.toInt32)), .val (.int (9 : Int32))] []))
                      refine own_on (fun t_ k_ => XS.iload X0.here hx rfl (hb hby d11_22) rfl k_) ?_
                      show OwnGo p e below s _ _ _ (s₁.setTop (mkF m 24 #[.val (.ref bt), .val (.int k), .val (.int (0 : Int32)), .val (.int (15 : Int32)), .val (.int (k.toInt8.toInt32)), .val (.int (9 : Int32))] [(.int (9 : Int32))]))
                      exact own_retI X0 hx hlk Bd.returns (hb hby d11_24) e0 ⟨(congrArg (fun z => some (Value.int z)) (by simp only [own_ix]; rw [if_neg q0, if_neg q1, if_neg q2, if_neg q3, if_neg q4, if_neg q5, if_neg q6, if_neg q7, if_neg q8, if_pos q9])), N0, rfl⟩ (by decide) (by decide)
                    · refine own_on (fun t_ k_ => XS.icmpYes X0.here hx rfl (pc0 := 19) (pc' := 25) rfl (hb hby d11_19) rfl (feq q9).2 (by decide) (by decide) k_) ?_
                      show OwnGo p e below s _ _ _ (s₁.setTop (mkF m 25 #[.val (.ref bt), .val (.int k), .val (.int (0 : Int32)), .val (.int (15 : Int32)), .val (.int (k.toInt8.toInt32)), .val (.int (9 : Int32))] []))
                      refine own_on (fun t_ k_ => XS.iinc X0.here hx rfl (hb hby d11_25) rfl (l' := #[.val (.ref bt), .val (.int k), .val (.int (0 : Int32)), .val (.int (15 : Int32)), .val (.int (k.toInt8.toInt32)), .val (.int (10 : Int32))]) rfl k_) ?_
                      show OwnGo p e below s _ _ _ (s₁.setTop (mkF m 28 #[.val (.ref bt), .val (.int k), .val (.int (0 : Int32)), .val (.int (15 : Int32)), .val (.int (k.toInt8.toInt32)), .val (.int (10 : Int32))] []))
                      refine own_on (fun t_ k_ => XS.goto X0.here hx rfl (pc0 := 28) (pc' := 7) rfl (hb hby d11_28) (by decide) (by decide) k_) ?_
                      show OwnGo p e below s _ _ _ (s₁.setTop (mkF m 7 #[.val (.ref bt), .val (.int k), .val (.int (0 : Int32)), .val (.int (15 : Int32)), .val (.int (k.toInt8.toInt32)), .val (.int (10 : Int32))] []))
                      refine own_on (fun t_ k_ => XS.iload X0.here hx rfl (hb hby d11_7) rfl k_) ?_
                      show OwnGo p e below s _ _ _ (s₁.setTop (mkF m 9 #[.val (.ref bt), .val (.int k), .val (.int (0 : Int32)), .val (.int (15 : Int32)), .val (.int (k.toInt8.toInt32)), .val (.int (10 : Int32))] [(.int (10 : Int32))]))
                      refine own_on (fun t_ k_ => XS.iloadN X0.here hx rfl (hb hby d11_9) rfl k_) ?_
                      show OwnGo p e below s _ _ _ (s₁.setTop (mkF m 10 #[.val (.ref bt), .val (.int k), .val (.int (0 : Int32)), .val (.int (15 : Int32)), .val (.int (k.toInt8.toInt32)), .val (.int (10 : Int32))] [(.int (15 : Int32)), (.int (10 : Int32))]))
                      refine own_on (fun t_ k_ => XS.icmpNo X0.here hx rfl (hb hby d11_10) rfl (tlt (by decide : (10 : Int32) < (15 : Int32))).2.1 k_) ?_
                      show OwnGo p e below s _ _ _ (s₁.setTop (mkF m 13 #[.val (.ref bt), .val (.int k), .val (.int (0 : Int32)), .val (.int (15 : Int32)), .val (.int (k.toInt8.toInt32)), .val (.int (10 : Int32))] []))
                      refine own_on (fun t_ k_ => XS.aloadN X0.here hx rfl (hb hby d11_13) rfl rfl k_) ?_
                      show OwnGo p e below s _ _ _ (s₁.setTop (mkF m 14 #[.val (.ref bt), .val (.int k), .val (.int (0 : Int32)), .val (.int (15 : Int32)), .val (.int (k.toInt8.toInt32)), .val (.int (10 : Int32))] [(.ref bt)]))
                      refine own_on (fun t_ k_ => XS.iload X0.here hx rfl (hb hby d11_14) rfl k_) ?_
                      show OwnGo p e below s _ _ _ (s₁.setTop (mkF m 16 #[.val (.ref bt), .val (.int k), .val (.int (0 : Int32)), .val (.int (15 : Int32)), .val (.int (k.toInt8.toInt32)), .val (.int (10 : Int32))] [(.int (10 : Int32)), (.ref bt)]))
                      obtain ⟨cl11, Ar11, q11, S11, M11, H11, G11⟩ := id P0
                      have hin11 : ¬ ((10 : Int32) < 0 ∨ cl11.slots.size ≤ ((10 : Int32)).toNatClampNeg) := inb_of S11 ⟨by decide, by decide⟩
                      have hat11 : cl11.slots[((10 : Int32)).toNatClampNeg]? = some (.int (94 : Int32)) := Has.at H11 hin11 rfl
                      refine own_on (X0.baloadBytes hx (j := (10 : Int32)) (v := (.int (94 : Int32))) (by rw [e0]; exact Ar11.1) (State.isArrayOf_alike hZ.alike Ar11.2.1) Ar11.2.2 hin11 hat11 (g := (mkF m 16 #[.val (.ref bt), .val (.int k), .val (.int (0 : Int32)), .val (.int (15 : Int32)), .val (.int (k.toInt8.toInt32)), .val (.int (10 : Int32))] [(.int (10 : Int32)), (.ref bt)])) rfl rfl (hb hby d11_16)) ?_
                      show OwnGo p e below s _ _ _ (s₁.setTop (mkF m 17 #[.val (.ref bt), .val (.int k), .val (.int (0 : Int32)), .val (.int (15 : Int32)), .val (.int (k.toInt8.toInt32)), .val (.int (10 : Int32))] [(.int (94 : Int32))]))
                      refine own_on (fun t_ k_ => XS.iload X0.here hx rfl (hb hby d11_17) rfl k_) ?_
                      show OwnGo p e below s _ _ _ (s₁.setTop (mkF m 19 #[.val (.ref bt), .val (.int k), .val (.int (0 : Int32)), .val (.int (15 : Int32)), .val (.int (k.toInt8.toInt32)), .val (.int (10 : Int32))] [(.int (k.toInt8.toInt32)), (.int (94 : Int32))]))
                      by_cases q10 : (94 : Int32) = (k.toInt8.toInt32)
                      · refine own_on (fun t_ k_ => XS.icmpNo X0.here hx rfl (hb hby d11_19) rfl (teq q10).2 k_) ?_
                        show OwnGo p e below s _ _ _ (s₁.setTop (mkF m 22 #[.val (.ref bt), .val (.int k), .val (.int (0 : Int32)), .val (.int (15 : Int32)), .val (.int (k.toInt8.toInt32)), .val (.int (10 : Int32))] []))
                        refine own_on (fun t_ k_ => XS.iload X0.here hx rfl (hb hby d11_22) rfl k_) ?_
                        show OwnGo p e below s _ _ _ (s₁.setTop (mkF m 24 #[.val (.ref bt), .val (.int k), .val (.int (0 : Int32)), .val (.int (15 : Int32)), .val (.int (k.toInt8.toInt32)), .val (.int (10 : Int32))] [(.int (10 : Int32))]))
                        exact own_retI X0 hx hlk Bd.returns (hb hby d11_24) e0 ⟨(congrArg (fun z => some (Value.int z)) (by simp only [own_ix]; rw [if_neg q0, if_neg q1, if_neg q2, if_neg q3, if_neg q4, if_neg q5, if_neg q6, if_neg q7, if_neg q8, if_neg q9, if_pos q10])), N0, rfl⟩ (by decide) (by decide)
                      · refine own_on (fun t_ k_ => XS.icmpYes X0.here hx rfl (pc0 := 19) (pc' := 25) rfl (hb hby d11_19) rfl (feq q10).2 (by decide) (by decide) k_) ?_
                        show OwnGo p e below s _ _ _ (s₁.setTop (mkF m 25 #[.val (.ref bt), .val (.int k), .val (.int (0 : Int32)), .val (.int (15 : Int32)), .val (.int (k.toInt8.toInt32)), .val (.int (10 : Int32))] []))
                        refine own_on (fun t_ k_ => XS.iinc X0.here hx rfl (hb hby d11_25) rfl (l' := #[.val (.ref bt), .val (.int k), .val (.int (0 : Int32)), .val (.int (15 : Int32)), .val (.int (k.toInt8.toInt32)), .val (.int (11 : Int32))]) rfl k_) ?_
                        show OwnGo p e below s _ _ _ (s₁.setTop (mkF m 28 #[.val (.ref bt), .val (.int k), .val (.int (0 : Int32)), .val (.int (15 : Int32)), .val (.int (k.toInt8.toInt32)), .val (.int (11 : Int32))] []))
                        refine own_on (fun t_ k_ => XS.goto X0.here hx rfl (pc0 := 28) (pc' := 7) rfl (hb hby d11_28) (by decide) (by decide) k_) ?_
                        show OwnGo p e below s _ _ _ (s₁.setTop (mkF m 7 #[.val (.ref bt), .val (.int k), .val (.int (0 : Int32)), .val (.int (15 : Int32)), .val (.int (k.toInt8.toInt32)), .val (.int (11 : Int32))] []))
                        refine own_on (fun t_ k_ => XS.iload X0.here hx rfl (hb hby d11_7) rfl k_) ?_
                        show OwnGo p e below s _ _ _ (s₁.setTop (mkF m 9 #[.val (.ref bt), .val (.int k), .val (.int (0 : Int32)), .val (.int (15 : Int32)), .val (.int (k.toInt8.toInt32)), .val (.int (11 : Int32))] [(.int (11 : Int32))]))
                        refine own_on (fun t_ k_ => XS.iloadN X0.here hx rfl (hb hby d11_9) rfl k_) ?_
                        show OwnGo p e below s _ _ _ (s₁.setTop (mkF m 10 #[.val (.ref bt), .val (.int k), .val (.int (0 : Int32)), .val (.int (15 : Int32)), .val (.int (k.toInt8.toInt32)), .val (.int (11 : Int32))] [(.int (15 : Int32)), (.int (11 : Int32))]))
                        refine own_on (fun t_ k_ => XS.icmpNo X0.here hx rfl (hb hby d11_10) rfl (tlt (by decide : (11 : Int32) < (15 : Int32))).2.1 k_) ?_
                        show OwnGo p e below s _ _ _ (s₁.setTop (mkF m 13 #[.val (.ref bt), .val (.int k), .val (.int (0 : Int32)), .val (.int (15 : Int32)), .val (.int (k.toInt8.toInt32)), .val (.int (11 : Int32))] []))
                        refine own_on (fun t_ k_ => XS.aloadN X0.here hx rfl (hb hby d11_13) rfl rfl k_) ?_
                        show OwnGo p e below s _ _ _ (s₁.setTop (mkF m 14 #[.val (.ref bt), .val (.int k), .val (.int (0 : Int32)), .val (.int (15 : Int32)), .val (.int (k.toInt8.toInt32)), .val (.int (11 : Int32))] [(.ref bt)]))
                        refine own_on (fun t_ k_ => XS.iload X0.here hx rfl (hb hby d11_14) rfl k_) ?_
                        show OwnGo p e below s _ _ _ (s₁.setTop (mkF m 16 #[.val (.ref bt), .val (.int k), .val (.int (0 : Int32)), .val (.int (15 : Int32)), .val (.int (k.toInt8.toInt32)), .val (.int (11 : Int32))] [(.int (11 : Int32)), (.ref bt)]))
                        obtain ⟨cl12, Ar12, q12, S12, M12, H12, G12⟩ := id P0
                        have hin12 : ¬ ((11 : Int32) < 0 ∨ cl12.slots.size ≤ ((11 : Int32)).toNatClampNeg) := inb_of S12 ⟨by decide, by decide⟩
                        have hat12 : cl12.slots[((11 : Int32)).toNatClampNeg]? = some (.int (95 : Int32)) := Has.at H12 hin12 rfl
                        refine own_on (X0.baloadBytes hx (j := (11 : Int32)) (v := (.int (95 : Int32))) (by rw [e0]; exact Ar12.1) (State.isArrayOf_alike hZ.alike Ar12.2.1) Ar12.2.2 hin12 hat12 (g := (mkF m 16 #[.val (.ref bt), .val (.int k), .val (.int (0 : Int32)), .val (.int (15 : Int32)), .val (.int (k.toInt8.toInt32)), .val (.int (11 : Int32))] [(.int (11 : Int32)), (.ref bt)])) rfl rfl (hb hby d11_16)) ?_
                        show OwnGo p e below s _ _ _ (s₁.setTop (mkF m 17 #[.val (.ref bt), .val (.int k), .val (.int (0 : Int32)), .val (.int (15 : Int32)), .val (.int (k.toInt8.toInt32)), .val (.int (11 : Int32))] [(.int (95 : Int32))]))
                        refine own_on (fun t_ k_ => XS.iload X0.here hx rfl (hb hby d11_17) rfl k_) ?_
                        show OwnGo p e below s _ _ _ (s₁.setTop (mkF m 19 #[.val (.ref bt), .val (.int k), .val (.int (0 : Int32)), .val (.int (15 : Int32)), .val (.int (k.toInt8.toInt32)), .val (.int (11 : Int32))] [(.int (k.toInt8.toInt32)), (.int (95 : Int32))]))
                        by_cases q11 : (95 : Int32) = (k.toInt8.toInt32)
                        · refine own_on (fun t_ k_ => XS.icmpNo X0.here hx rfl (hb hby d11_19) rfl (teq q11).2 k_) ?_
                          show OwnGo p e below s _ _ _ (s₁.setTop (mkF m 22 #[.val (.ref bt), .val (.int k), .val (.int (0 : Int32)), .val (.int (15 : Int32)), .val (.int (k.toInt8.toInt32)), .val (.int (11 : Int32))] []))
                          refine own_on (fun t_ k_ => XS.iload X0.here hx rfl (hb hby d11_22) rfl k_) ?_
                          show OwnGo p e below s _ _ _ (s₁.setTop (mkF m 24 #[.val (.ref bt), .val (.int k), .val (.int (0 : Int32)), .val (.int (15 : Int32)), .val (.int (k.toInt8.toInt32)), .val (.int (11 : Int32))] [(.int (11 : Int32))]))
                          exact own_retI X0 hx hlk Bd.returns (hb hby d11_24) e0 ⟨(congrArg (fun z => some (Value.int z)) (by simp only [own_ix]; rw [if_neg q0, if_neg q1, if_neg q2, if_neg q3, if_neg q4, if_neg q5, if_neg q6, if_neg q7, if_neg q8, if_neg q9, if_neg q10, if_pos q11])), N0, rfl⟩ (by decide) (by decide)
                        · refine own_on (fun t_ k_ => XS.icmpYes X0.here hx rfl (pc0 := 19) (pc' := 25) rfl (hb hby d11_19) rfl (feq q11).2 (by decide) (by decide) k_) ?_
                          show OwnGo p e below s _ _ _ (s₁.setTop (mkF m 25 #[.val (.ref bt), .val (.int k), .val (.int (0 : Int32)), .val (.int (15 : Int32)), .val (.int (k.toInt8.toInt32)), .val (.int (11 : Int32))] []))
                          refine own_on (fun t_ k_ => XS.iinc X0.here hx rfl (hb hby d11_25) rfl (l' := #[.val (.ref bt), .val (.int k), .val (.int (0 : Int32)), .val (.int (15 : Int32)), .val (.int (k.toInt8.toInt32)), .val (.int (12 : Int32))]) rfl k_) ?_
                          show OwnGo p e below s _ _ _ (s₁.setTop (mkF m 28 #[.val (.ref bt), .val (.int k), .val (.int (0 : Int32)), .val (.int (15 : Int32)), .val (.int (k.toInt8.toInt32)), .val (.int (12 : Int32))] []))
                          refine own_on (fun t_ k_ => XS.goto X0.here hx rfl (pc0 := 28) (pc' := 7) rfl (hb hby d11_28) (by decide) (by decide) k_) ?_
                          show OwnGo p e below s _ _ _ (s₁.setTop (mkF m 7 #[.val (.ref bt), .val (.int k), .val (.int (0 : Int32)), .val (.int (15 : Int32)), .val (.int (k.toInt8.toInt32)), .val (.int (12 : Int32))] []))
                          refine own_on (fun t_ k_ => XS.iload X0.here hx rfl (hb hby d11_7) rfl k_) ?_
                          show OwnGo p e below s _ _ _ (s₁.setTop (mkF m 9 #[.val (.ref bt), .val (.int k), .val (.int (0 : Int32)), .val (.int (15 : Int32)), .val (.int (k.toInt8.toInt32)), .val (.int (12 : Int32))] [(.int (12 : Int32))]))
                          refine own_on (fun t_ k_ => XS.iloadN X0.here hx rfl (hb hby d11_9) rfl k_) ?_
                          show OwnGo p e below s _ _ _ (s₁.setTop (mkF m 10 #[.val (.ref bt), .val (.int k), .val (.int (0 : Int32)), .val (.int (15 : Int32)), .val (.int (k.toInt8.toInt32)), .val (.int (12 : Int32))] [(.int (15 : Int32)), (.int (12 : Int32))]))
                          refine own_on (fun t_ k_ => XS.icmpNo X0.here hx rfl (hb hby d11_10) rfl (tlt (by decide : (12 : Int32) < (15 : Int32))).2.1 k_) ?_
                          show OwnGo p e below s _ _ _ (s₁.setTop (mkF m 13 #[.val (.ref bt), .val (.int k), .val (.int (0 : Int32)), .val (.int (15 : Int32)), .val (.int (k.toInt8.toInt32)), .val (.int (12 : Int32))] []))
                          refine own_on (fun t_ k_ => XS.aloadN X0.here hx rfl (hb hby d11_13) rfl rfl k_) ?_
                          show OwnGo p e below s _ _ _ (s₁.setTop (mkF m 14 #[.val (.ref bt), .val (.int k), .val (.int (0 : Int32)), .val (.int (15 : Int32)), .val (.int (k.toInt8.toInt32)), .val (.int (12 : Int32))] [(.ref bt)]))
                          refine own_on (fun t_ k_ => XS.iload X0.here hx rfl (hb hby d11_14) rfl k_) ?_
                          show OwnGo p e below s _ _ _ (s₁.setTop (mkF m 16 #[.val (.ref bt), .val (.int k), .val (.int (0 : Int32)), .val (.int (15 : Int32)), .val (.int (k.toInt8.toInt32)), .val (.int (12 : Int32))] [(.int (12 : Int32)), (.ref bt)]))
                          obtain ⟨cl13, Ar13, q13, S13, M13, H13, G13⟩ := id P0
                          have hin13 : ¬ ((12 : Int32) < 0 ∨ cl13.slots.size ≤ ((12 : Int32)).toNatClampNeg) := inb_of S13 ⟨by decide, by decide⟩
                          have hat13 : cl13.slots[((12 : Int32)).toNatClampNeg]? = some (.int (96 : Int32)) := Has.at H13 hin13 rfl
                          refine own_on (X0.baloadBytes hx (j := (12 : Int32)) (v := (.int (96 : Int32))) (by rw [e0]; exact Ar13.1) (State.isArrayOf_alike hZ.alike Ar13.2.1) Ar13.2.2 hin13 hat13 (g := (mkF m 16 #[.val (.ref bt), .val (.int k), .val (.int (0 : Int32)), .val (.int (15 : Int32)), .val (.int (k.toInt8.toInt32)), .val (.int (12 : Int32))] [(.int (12 : Int32)), (.ref bt)])) rfl rfl (hb hby d11_16)) ?_
                          show OwnGo p e below s _ _ _ (s₁.setTop (mkF m 17 #[.val (.ref bt), .val (.int k), .val (.int (0 : Int32)), .val (.int (15 : Int32)), .val (.int (k.toInt8.toInt32)), .val (.int (12 : Int32))] [(.int (96 : Int32))]))
                          refine own_on (fun t_ k_ => XS.iload X0.here hx rfl (hb hby d11_17) rfl k_) ?_
                          show OwnGo p e below s _ _ _ (s₁.setTop (mkF m 19 #[.val (.ref bt), .val (.int k), .val (.int (0 : Int32)), .val (.int (15 : Int32)), .val (.int (k.toInt8.toInt32)), .val (.int (12 : Int32))] [(.int (k.toInt8.toInt32)), (.int (96 : Int32))]))
                          by_cases q12 : (96 : Int32) = (k.toInt8.toInt32)
                          · refine own_on (fun t_ k_ => XS.icmpNo X0.here hx rfl (hb hby d11_19) rfl (teq q12).2 k_) ?_
                            show OwnGo p e below s _ _ _ (s₁.setTop (mkF m 22 #[.val (.ref bt), .val (.int k), .val (.int (0 : Int32)), .val (.int (15 : Int32)), .val (.int (k.toInt8.toInt32)), .val (.int (12 : Int32))] []))
                            refine own_on (fun t_ k_ => XS.iload X0.here hx rfl (hb hby d11_22) rfl k_) ?_
                            show OwnGo p e below s _ _ _ (s₁.setTop (mkF m 24 #[.val (.ref bt), .val (.int k), .val (.int (0 : Int32)), .val (.int (15 : Int32)), .val (.int (k.toInt8.toInt32)), .val (.int (12 : Int32))] [(.int (12 : Int32))]))
                            exact own_retI X0 hx hlk Bd.returns (hb hby d11_24) e0 ⟨(congrArg (fun z => some (Value.int z)) (by simp only [own_ix]; rw [if_neg q0, if_neg q1, if_neg q2, if_neg q3, if_neg q4, if_neg q5, if_neg q6, if_neg q7, if_neg q8, if_neg q9, if_neg q10, if_neg q11, if_pos q12])), N0, rfl⟩ (by decide) (by decide)
                          · refine own_on (fun t_ k_ => XS.icmpYes X0.here hx rfl (pc0 := 19) (pc' := 25) rfl (hb hby d11_19) rfl (feq q12).2 (by decide) (by decide) k_) ?_
                            show OwnGo p e below s _ _ _ (s₁.setTop (mkF m 25 #[.val (.ref bt), .val (.int k), .val (.int (0 : Int32)), .val (.int (15 : Int32)), .val (.int (k.toInt8.toInt32)), .val (.int (12 : Int32))] []))
                            refine own_on (fun t_ k_ => XS.iinc X0.here hx rfl (hb hby d11_25) rfl (l' := #[.val (.ref bt), .val (.int k), .val (.int (0 : Int32)), .val (.int (15 : Int32)), .val (.int (k.toInt8.toInt32)), .val (.int (13 : Int32))]) rfl k_) ?_
                            show OwnGo p e below s _ _ _ (s₁.setTop (mkF m 28 #[.val (.ref bt), .val (.int k), .val (.int (0 : Int32)), .val (.int (15 : Int32)), .val (.int (k.toInt8.toInt32)), .val (.int (13 : Int32))] []))
                            refine own_on (fun t_ k_ => XS.goto X0.here hx rfl (pc0 := 28) (pc' := 7) rfl (hb hby d11_28) (by decide) (by decide) k_) ?_
                            show OwnGo p e below s _ _ _ (s₁.setTop (mkF m 7 #[.val (.ref bt), .val (.int k), .val (.int (0 : Int32)), .val (.int (15 : Int32)), .val (.int (k.toInt8.toInt32)), .val (.int (13 : Int32))] []))
                            refine own_on (fun t_ k_ => XS.iload X0.here hx rfl (hb hby d11_7) rfl k_) ?_
                            show OwnGo p e below s _ _ _ (s₁.setTop (mkF m 9 #[.val (.ref bt), .val (.int k), .val (.int (0 : Int32)), .val (.int (15 : Int32)), .val (.int (k.toInt8.toInt32)), .val (.int (13 : Int32))] [(.int (13 : Int32))]))
                            refine own_on (fun t_ k_ => XS.iloadN X0.here hx rfl (hb hby d11_9) rfl k_) ?_
                            show OwnGo p e below s _ _ _ (s₁.setTop (mkF m 10 #[.val (.ref bt), .val (.int k), .val (.int (0 : Int32)), .val (.int (15 : Int32)), .val (.int (k.toInt8.toInt32)), .val (.int (13 : Int32))] [(.int (15 : Int32)), (.int (13 : Int32))]))
                            refine own_on (fun t_ k_ => XS.icmpNo X0.here hx rfl (hb hby d11_10) rfl (tlt (by decide : (13 : Int32) < (15 : Int32))).2.1 k_) ?_
                            show OwnGo p e below s _ _ _ (s₁.setTop (mkF m 13 #[.val (.ref bt), .val (.int k), .val (.int (0 : Int32)), .val (.int (15 : Int32)), .val (.int (k.toInt8.toInt32)), .val (.int (13 : Int32))] []))
                            refine own_on (fun t_ k_ => XS.aloadN X0.here hx rfl (hb hby d11_13) rfl rfl k_) ?_
                            show OwnGo p e below s _ _ _ (s₁.setTop (mkF m 14 #[.val (.ref bt), .val (.int k), .val (.int (0 : Int32)), .val (.int (15 : Int32)), .val (.int (k.toInt8.toInt32)), .val (.int (13 : Int32))] [(.ref bt)]))
                            refine own_on (fun t_ k_ => XS.iload X0.here hx rfl (hb hby d11_14) rfl k_) ?_
                            show OwnGo p e below s _ _ _ (s₁.setTop (mkF m 16 #[.val (.ref bt), .val (.int k), .val (.int (0 : Int32)), .val (.int (15 : Int32)), .val (.int (k.toInt8.toInt32)), .val (.int (13 : Int32))] [(.int (13 : Int32)), (.ref bt)]))
                            obtain ⟨cl14, Ar14, q14, S14, M14, H14, G14⟩ := id P0
                            have hin14 : ¬ ((13 : Int32) < 0 ∨ cl14.slots.size ≤ ((13 : Int32)).toNatClampNeg) := inb_of S14 ⟨by decide, by decide⟩
                            have hat14 : cl14.slots[((13 : Int32)).toNatClampNeg]? = some (.int (124 : Int32)) := Has.at H14 hin14 rfl
                            refine own_on (X0.baloadBytes hx (j := (13 : Int32)) (v := (.int (124 : Int32))) (by rw [e0]; exact Ar14.1) (State.isArrayOf_alike hZ.alike Ar14.2.1) Ar14.2.2 hin14 hat14 (g := (mkF m 16 #[.val (.ref bt), .val (.int k), .val (.int (0 : Int32)), .val (.int (15 : Int32)), .val (.int (k.toInt8.toInt32)), .val (.int (13 : Int32))] [(.int (13 : Int32)), (.ref bt)])) rfl rfl (hb hby d11_16)) ?_
                            show OwnGo p e below s _ _ _ (s₁.setTop (mkF m 17 #[.val (.ref bt), .val (.int k), .val (.int (0 : Int32)), .val (.int (15 : Int32)), .val (.int (k.toInt8.toInt32)), .val (.int (13 : Int32))] [(.int (124 : Int32))]))
                            refine own_on (fun t_ k_ => XS.iload X0.here hx rfl (hb hby d11_17) rfl k_) ?_
                            show OwnGo p e below s _ _ _ (s₁.setTop (mkF m 19 #[.val (.ref bt), .val (.int k), .val (.int (0 : Int32)), .val (.int (15 : Int32)), .val (.int (k.toInt8.toInt32)), .val (.int (13 : Int32))] [(.int (k.toInt8.toInt32)), (.int (124 : Int32))]))
                            by_cases q13 : (124 : Int32) = (k.toInt8.toInt32)
                            · refine own_on (fun t_ k_ => XS.icmpNo X0.here hx rfl (hb hby d11_19) rfl (teq q13).2 k_) ?_
                              show OwnGo p e below s _ _ _ (s₁.setTop (mkF m 22 #[.val (.ref bt), .val (.int k), .val (.int (0 : Int32)), .val (.int (15 : Int32)), .val (.int (k.toInt8.toInt32)), .val (.int (13 : Int32))] []))
                              refine own_on (fun t_ k_ => XS.iload X0.here hx rfl (hb hby d11_22) rfl k_) ?_
                              show OwnGo p e below s _ _ _ (s₁.setTop (mkF m 24 #[.val (.ref bt), .val (.int k), .val (.int (0 : Int32)), .val (.int (15 : Int32)), .val (.int (k.toInt8.toInt32)), .val (.int (13 : Int32))] [(.int (13 : Int32))]))
                              exact own_retI X0 hx hlk Bd.returns (hb hby d11_24) e0 ⟨(congrArg (fun z => some (Value.int z)) (by simp only [own_ix]; rw [if_neg q0, if_neg q1, if_neg q2, if_neg q3, if_neg q4, if_neg q5, if_neg q6, if_neg q7, if_neg q8, if_neg q9, if_neg q10, if_neg q11, if_neg q12, if_pos q13])), N0, rfl⟩ (by decide) (by decide)
                            · refine own_on (fun t_ k_ => XS.icmpYes X0.here hx rfl (pc0 := 19) (pc' := 25) rfl (hb hby d11_19) rfl (feq q13).2 (by decide) (by decide) k_) ?_
                              show OwnGo p e below s _ _ _ (s₁.setTop (mkF m 25 #[.val (.ref bt), .val (.int k), .val (.int (0 : Int32)), .val (.int (15 : Int32)), .val (.int (k.toInt8.toInt32)), .val (.int (13 : Int32))] []))
                              refine own_on (fun t_ k_ => XS.iinc X0.here hx rfl (hb hby d11_25) rfl (l' := #[.val (.ref bt), .val (.int k), .val (.int (0 : Int32)), .val (.int (15 : Int32)), .val (.int (k.toInt8.toInt32)), .val (.int (14 : Int32))]) rfl k_) ?_
                              show OwnGo p e below s _ _ _ (s₁.setTop (mkF m 28 #[.val (.ref bt), .val (.int k), .val (.int (0 : Int32)), .val (.int (15 : Int32)), .val (.int (k.toInt8.toInt32)), .val (.int (14 : Int32))] []))
                              refine own_on (fun t_ k_ => XS.goto X0.here hx rfl (pc0 := 28) (pc' := 7) rfl (hb hby d11_28) (by decide) (by decide) k_) ?_
                              show OwnGo p e below s _ _ _ (s₁.setTop (mkF m 7 #[.val (.ref bt), .val (.int k), .val (.int (0 : Int32)), .val (.int (15 : Int32)), .val (.int (k.toInt8.toInt32)), .val (.int (14 : Int32))] []))
                              refine own_on (fun t_ k_ => XS.iload X0.here hx rfl (hb hby d11_7) rfl k_) ?_
                              show OwnGo p e below s _ _ _ (s₁.setTop (mkF m 9 #[.val (.ref bt), .val (.int k), .val (.int (0 : Int32)), .val (.int (15 : Int32)), .val (.int (k.toInt8.toInt32)), .val (.int (14 : Int32))] [(.int (14 : Int32))]))
                              refine own_on (fun t_ k_ => XS.iloadN X0.here hx rfl (hb hby d11_9) rfl k_) ?_
                              show OwnGo p e below s _ _ _ (s₁.setTop (mkF m 10 #[.val (.ref bt), .val (.int k), .val (.int (0 : Int32)), .val (.int (15 : Int32)), .val (.int (k.toInt8.toInt32)), .val (.int (14 : Int32))] [(.int (15 : Int32)), (.int (14 : Int32))]))
                              refine own_on (fun t_ k_ => XS.icmpNo X0.here hx rfl (hb hby d11_10) rfl (tlt (by decide : (14 : Int32) < (15 : Int32))).2.1 k_) ?_
                              show OwnGo p e below s _ _ _ (s₁.setTop (mkF m 13 #[.val (.ref bt), .val (.int k), .val (.int (0 : Int32)), .val (.int (15 : Int32)), .val (.int (k.toInt8.toInt32)), .val (.int (14 : Int32))] []))
                              refine own_on (fun t_ k_ => XS.aloadN X0.here hx rfl (hb hby d11_13) rfl rfl k_) ?_
                              show OwnGo p e below s _ _ _ (s₁.setTop (mkF m 14 #[.val (.ref bt), .val (.int k), .val (.int (0 : Int32)), .val (.int (15 : Int32)), .val (.int (k.toInt8.toInt32)), .val (.int (14 : Int32))] [(.ref bt)]))
                              refine own_on (fun t_ k_ => XS.iload X0.here hx rfl (hb hby d11_14) rfl k_) ?_
                              show OwnGo p e below s _ _ _ (s₁.setTop (mkF m 16 #[.val (.ref bt), .val (.int k), .val (.int (0 : Int32)), .val (.int (15 : Int32)), .val (.int (k.toInt8.toInt32)), .val (.int (14 : Int32))] [(.int (14 : Int32)), (.ref bt)]))
                              obtain ⟨cl15, Ar15, q15, S15, M15, H15, G15⟩ := id P0
                              have hin15 : ¬ ((14 : Int32) < 0 ∨ cl15.slots.size ≤ ((14 : Int32)).toNatClampNeg) := inb_of S15 ⟨by decide, by decide⟩
                              have hat15 : cl15.slots[((14 : Int32)).toNatClampNeg]? = some (.int (126 : Int32)) := Has.at H15 hin15 rfl
                              refine own_on (X0.baloadBytes hx (j := (14 : Int32)) (v := (.int (126 : Int32))) (by rw [e0]; exact Ar15.1) (State.isArrayOf_alike hZ.alike Ar15.2.1) Ar15.2.2 hin15 hat15 (g := (mkF m 16 #[.val (.ref bt), .val (.int k), .val (.int (0 : Int32)), .val (.int (15 : Int32)), .val (.int (k.toInt8.toInt32)), .val (.int (14 : Int32))] [(.int (14 : Int32)), (.ref bt)])) rfl rfl (hb hby d11_16)) ?_
                              show OwnGo p e below s _ _ _ (s₁.setTop (mkF m 17 #[.val (.ref bt), .val (.int k), .val (.int (0 : Int32)), .val (.int (15 : Int32)), .val (.int (k.toInt8.toInt32)), .val (.int (14 : Int32))] [(.int (126 : Int32))]))
                              refine own_on (fun t_ k_ => XS.iload X0.here hx rfl (hb hby d11_17) rfl k_) ?_
                              show OwnGo p e below s _ _ _ (s₁.setTop (mkF m 19 #[.val (.ref bt), .val (.int k), .val (.int (0 : Int32)), .val (.int (15 : Int32)), .val (.int (k.toInt8.toInt32)), .val (.int (14 : Int32))] [(.int (k.toInt8.toInt32)), (.int (126 : Int32))]))
                              by_cases q14 : (126 : Int32) = (k.toInt8.toInt32)
                              · refine own_on (fun t_ k_ => XS.icmpNo X0.here hx rfl (hb hby d11_19) rfl (teq q14).2 k_) ?_
                                show OwnGo p e below s _ _ _ (s₁.setTop (mkF m 22 #[.val (.ref bt), .val (.int k), .val (.int (0 : Int32)), .val (.int (15 : Int32)), .val (.int (k.toInt8.toInt32)), .val (.int (14 : Int32))] []))
                                refine own_on (fun t_ k_ => XS.iload X0.here hx rfl (hb hby d11_22) rfl k_) ?_
                                show OwnGo p e below s _ _ _ (s₁.setTop (mkF m 24 #[.val (.ref bt), .val (.int k), .val (.int (0 : Int32)), .val (.int (15 : Int32)), .val (.int (k.toInt8.toInt32)), .val (.int (14 : Int32))] [(.int (14 : Int32))]))
                                exact own_retI X0 hx hlk Bd.returns (hb hby d11_24) e0 ⟨(congrArg (fun z => some (Value.int z)) (by simp only [own_ix]; rw [if_neg q0, if_neg q1, if_neg q2, if_neg q3, if_neg q4, if_neg q5, if_neg q6, if_neg q7, if_neg q8, if_neg q9, if_neg q10, if_neg q11, if_neg q12, if_neg q13, if_pos q14])), N0, rfl⟩ (by decide) (by decide)
                              · refine own_on (fun t_ k_ => XS.icmpYes X0.here hx rfl (pc0 := 19) (pc' := 25) rfl (hb hby d11_19) rfl (feq q14).2 (by decide) (by decide) k_) ?_
                                show OwnGo p e below s _ _ _ (s₁.setTop (mkF m 25 #[.val (.ref bt), .val (.int k), .val (.int (0 : Int32)), .val (.int (15 : Int32)), .val (.int (k.toInt8.toInt32)), .val (.int (14 : Int32))] []))
                                refine own_on (fun t_ k_ => XS.iinc X0.here hx rfl (hb hby d11_25) rfl (l' := #[.val (.ref bt), .val (.int k), .val (.int (0 : Int32)), .val (.int (15 : Int32)), .val (.int (k.toInt8.toInt32)), .val (.int (15 : Int32))]) rfl k_) ?_
                                show OwnGo p e below s _ _ _ (s₁.setTop (mkF m 28 #[.val (.ref bt), .val (.int k), .val (.int (0 : Int32)), .val (.int (15 : Int32)), .val (.int (k.toInt8.toInt32)), .val (.int (15 : Int32))] []))
                                refine own_on (fun t_ k_ => XS.goto X0.here hx rfl (pc0 := 28) (pc' := 7) rfl (hb hby d11_28) (by decide) (by decide) k_) ?_
                                show OwnGo p e below s _ _ _ (s₁.setTop (mkF m 7 #[.val (.ref bt), .val (.int k), .val (.int (0 : Int32)), .val (.int (15 : Int32)), .val (.int (k.toInt8.toInt32)), .val (.int (15 : Int32))] []))
                                refine own_on (fun t_ k_ => XS.iload X0.here hx rfl (hb hby d11_7) rfl k_) ?_
                                show OwnGo p e below s _ _ _ (s₁.setTop (mkF m 9 #[.val (.ref bt), .val (.int k), .val (.int (0 : Int32)), .val (.int (15 : Int32)), .val (.int (k.toInt8.toInt32)), .val (.int (15 : Int32))] [(.int (15 : Int32))]))
                                refine own_on (fun t_ k_ => XS.iloadN X0.here hx rfl (hb hby d11_9) rfl k_) ?_
                                show OwnGo p e below s _ _ _ (s₁.setTop (mkF m 10 #[.val (.ref bt), .val (.int k), .val (.int (0 : Int32)), .val (.int (15 : Int32)), .val (.int (k.toInt8.toInt32)), .val (.int (15 : Int32))] [(.int (15 : Int32)), (.int (15 : Int32))]))
                                refine own_on (fun t_ k_ => XS.icmpYes X0.here hx rfl (pc0 := 10) (pc' := 31) rfl (hb hby d11_10) rfl (flt (by decide : ¬ ((15 : Int32) < (15 : Int32)))).2.1 (by decide) (by decide) k_) ?_
                                show OwnGo p e below s _ _ _ (s₁.setTop (mkF m 31 #[.val (.ref bt), .val (.int k), .val (.int (0 : Int32)), .val (.int (15 : Int32)), .val (.int (k.toInt8.toInt32)), .val (.int (15 : Int32))] []))
                                refine own_on (fun t_ k_ => XS.iconst X0.here hx rfl (hb hby d11_31) k_) ?_
                                show OwnGo p e below s _ _ _ (s₁.setTop (mkF m 32 #[.val (.ref bt), .val (.int k), .val (.int (0 : Int32)), .val (.int (15 : Int32)), .val (.int (k.toInt8.toInt32)), .val (.int (15 : Int32))] [(.int (-1 : Int32))]))
                                exact own_retI X0 hx hlk Bd.returns (hb hby d11_32) e0 ⟨(congrArg (fun z => some (Value.int z)) (by simp only [own_ix]; rw [if_neg q0, if_neg q1, if_neg q2, if_neg q3, if_neg q4, if_neg q5, if_neg q6, if_neg q7, if_neg q8, if_neg q9, if_neg q10, if_neg q11, if_neg q12, if_neg q13, if_neg q14])), N0, rfl⟩ (by decide) (by decide)
theorem ef_7 (m : MethodId) (bt : Addr) (k : Int32)  : entryFrame m #[(.ref bt), (.int k), (.int (0 : Int32)), (.int (15 : Int32))] 4 = mkF m 0 #[.val (.ref bt), .val (.int k), .val (.int (0 : Int32)), .val (.int (15 : Int32))] [] := by first | (simp [entryFrame, mkF, argsToLocals, Value.category]; done) | rfl
def Q7 (Z : State) (bt : Addr) (k : Int32) (kb : ClassId) (h0 : Heap) (n0 : Nat) (v_ : Option Value) (h_ : Heap) (L_ : List Loc) : Prop := v_ = some (.int (own_ixl k)) ∧ Fr n0 L_ ∧ h_ = h0
set_option maxRecDepth 65536 in
set_option maxHeartbeats 40000000 in
theorem rm7 (l : Launch) (Z : State) (a0 : Array Value) (hw : ∀ d ∈ tables_1, d.before a0 Z = true) (ws : List Jvm.Cond) (bt : Addr) (k : Int32) (kb : ClassId) (h0 : Heap) (n0 : Nat) (Z0 : n0 ≤ h0.size) (P0 : Arv Z h0 bt kb .byte (15 : Int32) [(.int (33 : Int32)), (.int (35 : Int32)), (.int (36 : Int32)), (.int (37 : Int32)), (.int (38 : Int32)), (.int (39 : Int32)), (.int (42 : Int32)), (.int (43 : Int32)), (.int (45 : Int32)), (.int (46 : Int32)), (.int (94 : Int32)), (.int (95 : Int32)), (.int (96 : Int32)), (.int (124 : Int32)), (.int (126 : Int32))] (.int (0 : Int32))) :
    MetFree l (⟨"java/lang/StringLatin1", "indexOf", "([BIII)I"⟩ : MethodName) (head1 (Jvm.Cond.code (⟨"java/lang/StringLatin1", "indexOf", "([BIII)I"⟩ : MethodName) jdk_43_method_22_code 4 (some .int) :: ws) ({ frames := 1, cells := 0, slots := 0, locals := 17 } : Room)) (fun A_ U => A_ = #[(.ref bt), (.int k), (.int (0 : Int32)), (.int (15 : Int32))] ∧ Z.Warmed39 U.vm ∧ U.heap = h0) (fun _ _ _ _ _ => True) (fun _ U_ o_ U'_ => ∃ v_ L_, o_ = .returned v_ ∧ Q7 Z bt k kb h0 n0 v_ U'_.heap L_ ∧ FrameEnd U_ o_ U'_ L_ ({ frames := 1, cells := 0, slots := 0, locals := 17 } : Room).cells ({ frames := 1, cells := 0, slots := 0, locals := 17 } : Room).slots) := by
  refine MetFree.of_bodySF (plainFor_of_name pn_1) hisR ?_
  intro p e s m args below meth c s₁ Bd hml0 hP hK
  obtain ⟨rfl, hZ, hh⟩ := hP
  have hx := Bd.exec
  have hby := Bd.bytes
  have hml : c.maxLocals = 4 := hml0
  have hown : s.vm.findClass "java/lang/StringLatin1" = some m.cls := findClass_of_methodNamed Bd.named
  have hnm := (name_of_methodNamed Bd.named Bd.method).1
  have hlk : meth.locks = false := Bd.notSynchronized
  have X0 : Stand p l e ({ frames := 1, cells := 0, slots := 0, locals := 17 } : Room) s m #[(.ref bt), (.int k), (.int (0 : Int32)), (.int (15 : Int32))] below meth c s₁ [] 0 0 := Stand.of_body Bd
  have e0 : s₁.heap = h0 := by rw [← hh, Bd.state]; rfl
  have N0 := Fr.nil n0
  have K0 : Keep h0 h0 [] := Keep.refl _ _
  refine own_cast (ef_7 m bt k) ?_
  show OwnGo p e below s (Q7 Z bt k kb h0 n0) ({ frames := 1, cells := 0, slots := 0, locals := 17 } : Room).cells ({ frames := 1, cells := 0, slots := 0, locals := 17 } : Room).slots (s₁.setTop (mkF m 0 #[.val (.ref bt), .val (.int k), .val (.int (0 : Int32)), .val (.int (15 : Int32))] []))
  refine own_on (fun t_ k_ => XS.iloadN X0.here hx rfl (hb hby d7_0) rfl k_) ?_
  show OwnGo p e below s _ _ _ (s₁.setTop (mkF m 1 #[.val (.ref bt), .val (.int k), .val (.int (0 : Int32)), .val (.int (15 : Int32))] [(.int k)]))
  obtain ⟨_, _, ⟨T1, L1, k1, n1⟩, -, X1, ⟨Lc1, hQ1, l1, y1, z1⟩, st1⟩ := Jvm.LawKit.callS X0 hx (y := (⟨"java/lang/StringLatin1", "canEncode", "(I)Z"⟩ : MethodName)) hown (mvT hZ (w44 hw)) (mvT hZ (w45 hw)) (mvT hZ (w42 hw)) (mvT hZ (w46 hw)) (by decide) (backOf (W := 0) (rm8 l Z a0 hw [] k h0 n0 Z0 ) hZ (w46 hw) (w42 hw) (by decide) (by decide)) (g := (mkF m 1 #[.val (.ref bt), .val (.int k), .val (.int (0 : Int32)), .val (.int (15 : Int32))] [(.int k)])) rfl (by rw [hml]; rfl) (argsL := [(.int k)]) (rest := []) (lenOf pd_1 rfl) rfl (by show 2 * 0 + _ ≤ _; exact Nat.le_of_eq rfl) (hb hby d7_1) (fun _ hWx => ⟨rfl, e0, (by decide : 0 + 0 ≤ _), (by decide : 0 + 0 ≤ _)⟩)
  dsimp only [Pt.U, Pt.locs, Pt.cells, Pt.slots] at X1 l1 y1 z1 st1 hQ1
  replace X1 := own_num (c' := 0) (n' := 0) X1 l1 (y1.trans rfl) (z1.trans rfl)
  obtain ⟨rfl, N1q, e1⟩ := hQ1
  have N1 := Fr.app N0 N1q
  refine own_on st1 ?_
  show OwnGo p e below s _ _ _ (T1.setTop (mkF m 4 #[.val (.ref bt), .val (.int k), .val (.int (0 : Int32)), .val (.int (15 : Int32))] [(.int (own_ce k))]))
  by_cases qe : (own_ce k) = (0 : Int32)
  · refine own_on (fun t_ k_ => XS.ifNo X1.here hx rfl (hb hby d7_4) rfl ((if0 _ _).trans (teq qe).2) k_) ?_
    show OwnGo p e below s _ _ _ (T1.setTop (mkF m 7 #[.val (.ref bt), .val (.int k), .val (.int (0 : Int32)), .val (.int (15 : Int32))] []))
    refine own_on (fun t_ k_ => XS.iconst X1.here hx rfl (hb hby d7_7) k_) ?_
    show OwnGo p e below s _ _ _ (T1.setTop (mkF m 8 #[.val (.ref bt), .val (.int k), .val (.int (0 : Int32)), .val (.int (15 : Int32))] [(.int (-1 : Int32))]))
    exact own_retI X1 hx hlk Bd.returns (hb hby d7_8) e1 ⟨(congrArg (fun z => some (Value.int z)) (by simp [own_ixl, *])), N1, rfl⟩ (by decide) (by decide)
  · refine own_on (fun t_ k_ => XS.ifYes X1.here hx rfl (pc0 := 4) (pc' := 9) rfl (hb hby d7_4) rfl ((if0 _ _).trans (feq qe).2) (by decide) (by decide) k_) ?_
    show OwnGo p e below s _ _ _ (T1.setTop (mkF m 9 #[.val (.ref bt), .val (.int k), .val (.int (0 : Int32)), .val (.int (15 : Int32))] []))
    refine own_on (fun t_ k_ => XS.iloadN X1.here hx rfl (hb hby d7_9) rfl k_) ?_
    show OwnGo p e below s _ _ _ (T1.setTop (mkF m 10 #[.val (.ref bt), .val (.int k), .val (.int (0 : Int32)), .val (.int (15 : Int32))] [(.int (0 : Int32))]))
    refine own_on (fun t_ k_ => XS.iconst X1.here hx rfl (hb hby d7_10) k_) ?_
    show OwnGo p e below s _ _ _ (T1.setTop (mkF m 11 #[.val (.ref bt), .val (.int k), .val (.int (0 : Int32)), .val (.int (15 : Int32))] [(.int (0 : Int32)), (.int (0 : Int32))]))
    obtain ⟨_, _, ⟨T2, L2, k2, n2⟩, -, X2, ⟨Lc2, hQ2, l2, y2, z2⟩, st2⟩ := Jvm.LawKit.callS X1 hx (y := (⟨"java/lang/Math", "max", "(II)I"⟩ : MethodName)) hown (mvT hZ (w47 hw)) (mvT hZ (w48 hw)) (mvT hZ (w49 hw)) (mvT hZ (w50 hw)) (by decide) (backOf (W := 0) (rm9 l Z a0 hw []  h0 n0 Z0 ) hZ (w50 hw) (w49 hw) (by decide) (by decide)) (g := (mkF m 11 #[.val (.ref bt), .val (.int k), .val (.int (0 : Int32)), .val (.int (15 : Int32))] [(.int (0 : Int32)), (.int (0 : Int32))])) rfl (by rw [hml]; rfl) (argsL := [(.int (0 : Int32)), (.int (0 : Int32))]) (rest := []) (lenOf pd_2 rfl) rfl (by show 2 * 0 + _ ≤ _; exact Nat.le_of_eq rfl) (hb hby d7_11) (fun _ hWx => ⟨rfl, e1, (by decide : 0 + 0 ≤ _), (by decide : 0 + 0 ≤ _)⟩)
    dsimp only [Pt.U, Pt.locs, Pt.cells, Pt.slots] at X2 l2 y2 z2 st2 hQ2
    replace X2 := own_num (c' := 0) (n' := 0) X2 l2 (y2.trans rfl) (z2.trans rfl)
    obtain ⟨rfl, N2q, e2⟩ := hQ2
    have N2 := Fr.app N1 N2q
    refine own_on st2 ?_
    show OwnGo p e below s _ _ _ (T2.setTop (mkF m 14 #[.val (.ref bt), .val (.int k), .val (.int (0 : Int32)), .val (.int (15 : Int32))] [(.int (0 : Int32))]))
    refine own_on (fun t_ k_ => XS.istoreN X2.here hx rfl (hb hby d7_14) rfl (l' := #[.val (.ref bt), .val (.int k), .val (.int (0 : Int32)), .val (.int (15 : Int32))]) rfl k_) ?_
    show OwnGo p e below s _ _ _ (T2.setTop (mkF m 15 #[.val (.ref bt), .val (.int k), .val (.int (0 : Int32)), .val (.int (15 : Int32))] []))
    refine own_on (fun t_ k_ => XS.iloadN X2.here hx rfl (hb hby d7_15) rfl k_) ?_
    show OwnGo p e below s _ _ _ (T2.setTop (mkF m 16 #[.val (.ref bt), .val (.int k), .val (.int (0 : Int32)), .val (.int (15 : Int32))] [(.int (15 : Int32))]))
    refine own_on (fun t_ k_ => XS.aloadN X2.here hx rfl (hb hby d7_16) rfl rfl k_) ?_
    show OwnGo p e below s _ _ _ (T2.setTop (mkF m 17 #[.val (.ref bt), .val (.int k), .val (.int (0 : Int32)), .val (.int (15 : Int32))] [(.ref bt), (.int (15 : Int32))]))
    obtain ⟨cl3, Ar3, q3, S3, M3, H3, G3⟩ := id P0
    refine own_on (X2.arraylength hx (by rw [e2]; exact Ar3.1) (State.isArrayOf_alike hZ.alike Ar3.2.1) (g := (mkF m 17 #[.val (.ref bt), .val (.int k), .val (.int (0 : Int32)), .val (.int (15 : Int32))] [(.ref bt), (.int (15 : Int32))])) rfl rfl (hb hby d7_17)) ?_
    rw [len_of S3 M3]
    show OwnGo p e below s _ _ _ (T2.setTop (mkF m 18 #[.val (.ref bt), .val (.int k), .val (.int (0 : Int32)), .val (.int (15 : Int32))] [(.int (15 : Int32)), (.int (15 : Int32))]))
    obtain ⟨_, _, ⟨T4, L4, k4, n4⟩, -, X4, ⟨Lc4, hQ4, l4, y4, z4⟩, st4⟩ := Jvm.LawKit.callS X2 hx (y := (⟨"java/lang/Math", "min", "(II)I"⟩ : MethodName)) hown (mvT hZ (w51 hw)) (mvT hZ (w52 hw)) (mvT hZ (w49 hw)) (mvT hZ (w53 hw)) (by decide) (backOf (W := 0) (rm10 l Z a0 hw []  h0 n0 Z0 ) hZ (w53 hw) (w49 hw) (by decide) (by decide)) (g := (mkF m 18 #[.val (.ref bt), .val (.int k), .val (.int (0 : Int32)), .val (.int (15 : Int32))] [(.int (15 : Int32)), (.int (15 : Int32))])) rfl (by rw [hml]; rfl) (argsL := [(.int (15 : Int32)), (.int (15 : Int32))]) (rest := []) (lenOf pd_2 rfl) rfl (by show 2 * 0 + _ ≤ _; exact Nat.le_of_eq rfl) (hb hby d7_18) (fun _ hWx => ⟨rfl, e2, (by decide : 0 + 0 ≤ _), (by decide : 0 + 0 ≤ _)⟩)
    dsimp only [Pt.U, Pt.locs, Pt.cells, Pt.slots] at X4 l4 y4 z4 st4 hQ4
    replace X4 := own_num (c' := 0) (n' := 0) X4 l4 (y4.trans rfl) (z4.trans rfl)
    obtain ⟨rfl, N4q, e4⟩ := hQ4
    have N4 := Fr.app N2 N4q
    refine own_on st4 ?_
    show OwnGo p e below s _ _ _ (T4.setTop (mkF m 21 #[.val (.ref bt), .val (.int k), .val (.int (0 : Int32)), .val (.int (15 : Int32))] [(.int (15 : Int32))]))
    refine own_on (fun t_ k_ => XS.istoreN X4.here hx rfl (hb hby d7_21) rfl (l' := #[.val (.ref bt), .val (.int k), .val (.int (0 : Int32)), .val (.int (15 : Int32))]) rfl k_) ?_
    show OwnGo p e below s _ _ _ (T4.setTop (mkF m 22 #[.val (.ref bt), .val (.int k), .val (.int (0 : Int32)), .val (.int (15 : Int32))] []))
    refine own_on (fun t_ k_ => XS.iloadN X4.here hx rfl (hb hby d7_22) rfl k_) ?_
    show OwnGo p e below s _ _ _ (T4.setTop (mkF m 23 #[.val (.ref bt), .val (.int k), .val (.int (0 : Int32)), .val (.int (15 : Int32))] [(.int (0 : Int32))]))
    refine own_on (fun t_ k_ => XS.iloadN X4.here hx rfl (hb hby d7_23) rfl k_) ?_
    show OwnGo p e below s _ _ _ (T4.setTop (mkF m 24 #[.val (.ref bt), .val (.int k), .val (.int (0 : Int32)), .val (.int (15 : Int32))] [(.int (15 : Int32)), (.int (0 : Int32))]))
    refine own_on (fun t_ k_ => XS.icmpYes X4.here hx rfl (pc0 := 24) (pc' := 29) rfl (hb hby d7_24) rfl (tlt (by decide : (0 : Int32) < (15 : Int32))).1 (by decide) (by decide) k_) ?_
    show OwnGo p e below s _ _ _ (T4.setTop (mkF m 29 #[.val (.ref bt), .val (.int k), .val (.int (0 : Int32)), .val (.int (15 : Int32))] []))
    refine own_on (fun t_ k_ => XS.aloadN X4.here hx rfl (hb hby d7_29) rfl rfl k_) ?_
    show OwnGo p e below s _ _ _ (T4.setTop (mkF m 30 #[.val (.ref bt), .val (.int k), .val (.int (0 : Int32)), .val (.int (15 : Int32))] [(.ref bt)]))
    refine own_on (fun t_ k_ => XS.iloadN X4.here hx rfl (hb hby d7_30) rfl k_) ?_
    show OwnGo p e below s _ _ _ (T4.setTop (mkF m 31 #[.val (.ref bt), .val (.int k), .val (.int (0 : Int32)), .val (.int (15 : Int32))] [(.int k), (.ref bt)]))
    refine own_on (fun t_ k_ => XS.iloadN X4.here hx rfl (hb hby d7_31) rfl k_) ?_
    show OwnGo p e below s _ _ _ (T4.setTop (mkF m 32 #[.val (.ref bt), .val (.int k), .val (.int (0 : Int32)), .val (.int (15 : Int32))] [(.int (0 : Int32)), (.int k), (.ref bt)]))
    refine own_on (fun t_ k_ => XS.iloadN X4.here hx rfl (hb hby d7_32) rfl k_) ?_
    show OwnGo p e below s _ _ _ (T4.setTop (mkF m 33 #[.val (.ref bt), .val (.int k), .val (.int (0 : Int32)), .val (.int (15 : Int32))] [(.int (15 : Int32)), (.int (0 : Int32)), (.int k), (.ref bt)]))
    obtain ⟨_, _, ⟨T5, L5, k5, n5⟩, -, X5, ⟨Lc5, hQ5, l5, y5, z5⟩, st5⟩ := Jvm.LawKit.callS X4 hx (y := (⟨"java/lang/StringLatin1", "indexOfChar", "([BIII)I"⟩ : MethodName)) hown (mvT hZ (w54 hw)) (mvT hZ (w55 hw)) (mvT hZ (w42 hw)) (mvT hZ (w56 hw)) (by decide) (backOf (W := 0) (rm11 l Z a0 hw [] bt k kb h0 n0 Z0 P0) hZ (w56 hw) (w42 hw) (by decide) (by decide)) (g := (mkF m 33 #[.val (.ref bt), .val (.int k), .val (.int (0 : Int32)), .val (.int (15 : Int32))] [(.int (15 : Int32)), (.int (0 : Int32)), (.int k), (.ref bt)])) rfl (by rw [hml]; rfl) (argsL := [(.ref bt), (.int k), (.int (0 : Int32)), (.int (15 : Int32))]) (rest := []) (lenOf pd_3 rfl) rfl (by show 2 * 0 + _ ≤ _; exact Nat.le_of_eq rfl) (hb hby d7_33) (fun _ hWx => ⟨rfl, e4, (by decide : 0 + 0 ≤ _), (by decide : 0 + 0 ≤ _)⟩)
    dsimp only [Pt.U, Pt.locs, Pt.cells, Pt.slots] at X5 l5 y5 z5 st5 hQ5
    replace X5 := own_num (c' := 0) (n' := 0) X5 l5 (y5.trans rfl) (z5.trans rfl)
    obtain ⟨rfl, N5q, e5⟩ := hQ5
    have N5 := Fr.app N4 N5q
    refine own_on st5 ?_
    show OwnGo p e below s _ _ _ (T5.setTop (mkF m 36 #[.val (.ref bt), .val (.int k), .val (.int (0 : Int32)), .val (.int (15 : Int32))] [(.int (own_ix (k.toInt8.toInt32)))]))
    exact own_retI X5 hx hlk Bd.returns (hb hby d7_36) e5 ⟨(congrArg (fun z => some (Value.int z)) (by simp [own_ixl, *])), N5, rfl⟩ (by decide) (by decide)
theorem ef_3 (m : MethodId) (a : Addr) (k : Int32)  : entryFrame m #[(.ref a), (.int k), (.int (0 : Int32))] 3 = mkF m 0 #[.val (.ref a), .val (.int k), .val (.int (0 : Int32))] [] := by first | (simp [entryFrame, mkF, argsToLocals, Value.category]; done) | rfl
def Q3 (Z : State) (a : Addr) (k : Int32) (cs : Int32) (bt : Addr) (kb : ClassId) (h0 : Heap) (n0 : Nat) (v_ : Option Value) (h_ : Heap) (L_ : List Loc) : Prop := v_ = some (.int (own_ixl k)) ∧ Fr n0 L_ ∧ h_ = h0
set_option maxRecDepth 65536 in
set_option maxHeartbeats 40000000 in
theorem rm3 (l : Launch) (Z : State) (a0 : Array Value) (hw : ∀ d ∈ tables_1, d.before a0 Z = true) (ws : List Jvm.Cond) (a : Addr) (k : Int32) (cs : Int32) (bt : Addr) (kb : ClassId) (h0 : Heap) (n0 : Nat) (Z0 : n0 ≤ h0.size) (P0 : Old Z n0 h0) (P1 : Sta Z Z.heap "java/lang/String" "COMPACT_STRINGS" "Z" (.int cs)) (P2 : ¬ (cs = (0 : Int32))) (P3 : Exa Z h0 a "java/lang/String") (P4 : Fld Z h0 a "java/lang/String" "coder" "B" (.int (0 : Int32))) (P5 : Fld Z h0 a "java/lang/String" "value" "[B" (.ref bt)) (P6 : Arv Z h0 bt kb .byte (15 : Int32) [(.int (33 : Int32)), (.int (35 : Int32)), (.int (36 : Int32)), (.int (37 : Int32)), (.int (38 : Int32)), (.int (39 : Int32)), (.int (42 : Int32)), (.int (43 : Int32)), (.int (45 : Int32)), (.int (46 : Int32)), (.int (94 : Int32)), (.int (95 : Int32)), (.int (96 : Int32)), (.int (124 : Int32)), (.int (126 : Int32))] (.int (0 : Int32))) :
    MetFree l (⟨"java/lang/String", "indexOf", "(II)I"⟩ : MethodName) (head1 (Jvm.Cond.code (⟨"java/lang/String", "indexOf", "(II)I"⟩ : MethodName) jdk_42_method_80_code 3 (some .int) :: ws) ({ frames := 2, cells := 0, slots := 0, locals := 32 } : Room)) (fun A_ U => A_ = #[(.ref a), (.int k), (.int (0 : Int32))] ∧ Z.Warmed39 U.vm ∧ U.heap = h0) (fun _ _ _ _ _ => True) (fun _ U_ o_ U'_ => ∃ v_ L_, o_ = .returned v_ ∧ Q3 Z a k cs bt kb h0 n0 v_ U'_.heap L_ ∧ FrameEnd U_ o_ U'_ L_ ({ frames := 2, cells := 0, slots := 0, locals := 32 } : Room).cells ({ frames := 2, cells := 0, slots := 0, locals := 32 } : Room).slots) := by
  refine MetFree.of_bodySF (plainFor_of_name pn_0) hisR ?_
  intro p e s m args below meth c s₁ Bd hml0 hP hK
  obtain ⟨rfl, hZ, hh⟩ := hP
  have hx := Bd.exec
  have hby := Bd.bytes
  have hml : c.maxLocals = 3 := hml0
  have hown : s.vm.findClass "java/lang/String" = some m.cls := findClass_of_methodNamed Bd.named
  have hnm := (name_of_methodNamed Bd.named Bd.method).1
  have hlk : meth.locks = false := Bd.notSynchronized
  have X0 : Stand p l e ({ frames := 2, cells := 0, slots := 0, locals := 32 } : Room) s m #[(.ref a), (.int k), (.int (0 : Int32))] below meth c s₁ [] 0 0 := Stand.of_body Bd
  have e0 : s₁.heap = h0 := by rw [← hh, Bd.state]; rfl
  have N0 := Fr.nil n0
  have K0 : Keep h0 h0 [] := Keep.refl _ _
  refine own_cast (ef_3 m a k) ?_
  show OwnGo p e below s (Q3 Z a k cs bt kb h0 n0) ({ frames := 2, cells := 0, slots := 0, locals := 32 } : Room).cells ({ frames := 2, cells := 0, slots := 0, locals := 32 } : Room).slots (s₁.setTop (mkF m 0 #[.val (.ref a), .val (.int k), .val (.int (0 : Int32))] []))
  refine own_on (fun t_ k_ => XS.aloadN X0.here hx rfl (hb hby d3_0) rfl rfl k_) ?_
  show OwnGo p e below s _ _ _ (s₁.setTop (mkF m 1 #[.val (.ref a), .val (.int k), .val (.int (0 : Int32))] [(.ref a)]))
  obtain ⟨cq1, kq1, q1a, q1b, q1c⟩ := isOf hZ e0 P3
  obtain ⟨_, _, ⟨T1, L1, k1, n1⟩, -, X1, ⟨Lc1, hQ1, l1, y1, z1⟩, st1⟩ := X0.virtualBack hx (y := (⟨"java/lang/String", "isLatin1", "()Z"⟩ : MethodName)) (z := (⟨"java/lang/String", "isLatin1", "()Z"⟩ : MethodName)) hown (mvT hZ (w22 hw)) (mvT hZ (w23 hw)) (notFace_of_selects (args := #[]) (mvT hZ (w25 hw))) (mvT hZ (w25 hw)) (mvT hZ (w24 hw)) (by decide) (backOf (W := 0) (rm4 l Z a0 hw [] a cs h0 n0 Z0 P0 P1 P2 P4) hZ (w26 hw) (w5 hw) (by decide) (by decide)) q1a q1c (g := (mkF m 1 #[.val (.ref a), .val (.int k), .val (.int (0 : Int32))] [(.ref a)])) rfl (by rw [hml]; rfl) (Steps.refl _) (argsL := []) (rest := []) (lenOf pd_4 rfl) rfl (by show 2 * 0 + _ ≤ _; exact Nat.le_of_eq rfl) (hb hby d3_1) (fun _ hWx => ⟨rfl, e0, (by decide : 0 + 0 ≤ _), (by decide : 0 + 0 ≤ _)⟩)
  dsimp only [Pt.U, Pt.locs, Pt.cells, Pt.slots] at X1 l1 y1 z1 st1 hQ1
  replace X1 := own_num (c' := 0) (n' := 0) X1 l1 (y1.trans rfl) (z1.trans rfl)
  obtain ⟨rfl, N1q, e1⟩ := hQ1
  have N1 := Fr.app N0 N1q
  refine own_tr st1 ?_
  show OwnGo p e below s _ _ _ (T1.setTop (mkF m 4 #[.val (.ref a), .val (.int k), .val (.int (0 : Int32))] [(.int (1 : Int32))]))
  refine own_on (fun t_ k_ => XS.ifNo X1.here hx rfl (hb hby d3_4) rfl ((if0 _ _).trans (feq (by decide : ¬ ((1 : Int32) = (0 : Int32)))).1) k_) ?_
  show OwnGo p e below s _ _ _ (T1.setTop (mkF m 7 #[.val (.ref a), .val (.int k), .val (.int (0 : Int32))] []))
  refine own_on (fun t_ k_ => XS.aloadN X1.here hx rfl (hb hby d3_7) rfl rfl k_) ?_
  show OwnGo p e below s _ _ _ (T1.setTop (mkF m 8 #[.val (.ref a), .val (.int k), .val (.int (0 : Int32))] [(.ref a)]))
  obtain ⟨T2, X2, e2, st2⟩ := getF X1 hx hZ hown (host := "") (Or.inl (w29 hw)) Via.refl e1 P5 (g := (mkF m 8 #[.val (.ref a), .val (.int k), .val (.int (0 : Int32))] [(.ref a)])) rfl rfl (hb hby d3_8)
  refine own_on st2 ?_
  show OwnGo p e below s _ _ _ (T2.setTop (mkF m 11 #[.val (.ref a), .val (.int k), .val (.int (0 : Int32))] [(.ref bt)]))
  refine own_on (fun t_ k_ => XS.iloadN X2.here hx rfl (hb hby d3_11) rfl k_) ?_
  show OwnGo p e below s _ _ _ (T2.setTop (mkF m 12 #[.val (.ref a), .val (.int k), .val (.int (0 : Int32))] [(.int k), (.ref bt)]))
  refine own_on (fun t_ k_ => XS.iloadN X2.here hx rfl (hb hby d3_12) rfl k_) ?_
  show OwnGo p e below s _ _ _ (T2.setTop (mkF m 13 #[.val (.ref a), .val (.int k), .val (.int (0 : Int32))] [(.int (0 : Int32)), (.int k), (.ref bt)]))
  refine own_on (fun t_ k_ => XS.aloadN X2.here hx rfl (hb hby d3_13) rfl rfl k_) ?_
  show OwnGo p e below s _ _ _ (T2.setTop (mkF m 14 #[.val (.ref a), .val (.int k), .val (.int (0 : Int32))] [(.ref a), (.int (0 : Int32)), (.int k), (.ref bt)]))
  obtain ⟨cq3, kq3, q3a, q3b, q3c⟩ := isOf hZ e2 P3
  obtain ⟨_, _, ⟨T3, L3, k3, n3⟩, -, X3, ⟨Lc3, hQ3, l3, y3, z3⟩, st3⟩ := X2.virtualBack hx (y := (⟨"java/lang/String", "length", "()I"⟩ : MethodName)) (z := (⟨"java/lang/String", "length", "()I"⟩ : MethodName)) hown (mvT hZ (w30 hw)) (mvT hZ (w31 hw)) (notFace_of_selects (args := #[]) (mvT hZ (w33 hw))) (mvT hZ (w33 hw)) (mvT hZ (w32 hw)) (by decide) (backOf (W := 3) (rm5 l Z a0 hw [] a cs bt kb (15 : Int32) [(.int (33 : Int32)), (.int (35 : Int32)), (.int (36 : Int32)), (.int (37 : Int32)), (.int (38 : Int32)), (.int (39 : Int32)), (.int (42 : Int32)), (.int (43 : Int32)), (.int (45 : Int32)), (.int (46 : Int32)), (.int (94 : Int32)), (.int (95 : Int32)), (.int (96 : Int32)), (.int (124 : Int32)), (.int (126 : Int32))] (.int (0 : Int32)) h0 n0 Z0 P0 P1 P2 P3 P4 P5 P6) hZ (w34 hw) (w5 hw) (by decide) (by decide)) q3a q3c (g := (mkF m 14 #[.val (.ref a), .val (.int k), .val (.int (0 : Int32))] [(.ref a), (.int (0 : Int32)), (.int k), (.ref bt)])) rfl (by rw [hml]; rfl) (Steps.refl _) (argsL := []) (rest := [(.int (0 : Int32)), (.int k), (.ref bt)]) (lenOf pd_5 rfl) rfl (by show 2 * 0 + _ ≤ _; exact Nat.le_of_eq rfl) (hb hby d3_14) (fun _ hWx => ⟨rfl, e2, (by decide : 0 + 0 ≤ _), (by decide : 0 + 0 ≤ _)⟩)
  dsimp only [Pt.U, Pt.locs, Pt.cells, Pt.slots] at X3 l3 y3 z3 st3 hQ3
  replace X3 := own_num (c' := 0) (n' := 0) X3 l3 (y3.trans rfl) (z3.trans rfl)
  obtain ⟨rfl, N3q, e3⟩ := hQ3
  have N3 := Fr.app N1 N3q
  refine own_tr st3 ?_
  show OwnGo p e below s _ _ _ (T3.setTop (mkF m 17 #[.val (.ref a), .val (.int k), .val (.int (0 : Int32))] [(.int (15 : Int32)), (.int (0 : Int32)), (.int k), (.ref bt)]))
  obtain ⟨_, _, ⟨T4, L4, k4, n4⟩, -, X4, ⟨Lc4, hQ4, l4, y4, z4⟩, st4⟩ := Jvm.LawKit.callS X3 hx (y := (⟨"java/lang/StringLatin1", "indexOf", "([BIII)I"⟩ : MethodName)) hown (mvT hZ (w40 hw)) (mvT hZ (w41 hw)) (mvT hZ (w42 hw)) (mvT hZ (w43 hw)) (by decide) (backOf (W := 0) (rm7 l Z a0 hw [] bt k kb h0 n0 Z0 P6) hZ (w43 hw) (w42 hw) (by decide) (by decide)) (g := (mkF m 17 #[.val (.ref a), .val (.int k), .val (.int (0 : Int32))] [(.int (15 : Int32)), (.int (0 : Int32)), (.int k), (.ref bt)])) rfl (by rw [hml]; rfl) (argsL := [(.ref bt), (.int k), (.int (0 : Int32)), (.int (15 : Int32))]) (rest := []) (lenOf pd_3 rfl) rfl (by show 2 * 0 + _ ≤ _; exact Nat.le_of_eq rfl) (hb hby d3_17) (fun _ hWx => ⟨rfl, e3, (by decide : 0 + 0 ≤ _), (by decide : 0 + 0 ≤ _)⟩)
  dsimp only [Pt.U, Pt.locs, Pt.cells, Pt.slots] at X4 l4 y4 z4 st4 hQ4
  replace X4 := own_num (c' := 0) (n' := 0) X4 l4 (y4.trans rfl) (z4.trans rfl)
  obtain ⟨rfl, N4q, e4⟩ := hQ4
  have N4 := Fr.app N3 N4q
  refine own_on st4 ?_
  show OwnGo p e below s _ _ _ (T4.setTop (mkF m 20 #[.val (.ref a), .val (.int k), .val (.int (0 : Int32))] [(.int (own_ixl k))]))
  refine own_on (fun t_ k_ => XS.goto X4.here hx rfl (pc0 := 20) (pc' := 36) rfl (hb hby d3_20) (by decide) (by decide) k_) ?_
  show OwnGo p e below s _ _ _ (T4.setTop (mkF m 36 #[.val (.ref a), .val (.int k), .val (.int (0 : Int32))] [(.int (own_ixl k))]))
  exact own_retI X4 hx hlk Bd.returns (hb hby d3_36) e4 ⟨rfl, N4, rfl⟩ (by decide) (by decide)
theorem ef_2 (m : MethodId) (a : Addr) (k : Int32)  : entryFrame m #[(.ref a), (.int k)] 2 = mkF m 0 #[.val (.ref a), .val (.int k)] [] := by first | (simp [entryFrame, mkF, argsToLocals, Value.category]; done) | rfl
def Q2 (Z : State) (a : Addr) (k : Int32) (cs : Int32) (bt : Addr) (kb : ClassId) (h0 : Heap) (n0 : Nat) (v_ : Option Value) (h_ : Heap) (L_ : List Loc) : Prop := v_ = some (.int (own_ixl k)) ∧ Fr n0 L_ ∧ h_ = h0
set_option maxRecDepth 65536 in
set_option maxHeartbeats 40000000 in
theorem rm2 (l : Launch) (Z : State) (a0 : Array Value) (hw : ∀ d ∈ tables_1, d.before a0 Z = true) (ws : List Jvm.Cond) (a : Addr) (k : Int32) (cs : Int32) (bt : Addr) (kb : ClassId) (h0 : Heap) (n0 : Nat) (Z0 : n0 ≤ h0.size) (P0 : Old Z n0 h0) (P1 : Sta Z Z.heap "java/lang/String" "COMPACT_STRINGS" "Z" (.int cs)) (P2 : ¬ (cs = (0 : Int32))) (P3 : Exa Z h0 a "java/lang/String") (P4 : Fld Z h0 a "java/lang/String" "coder" "B" (.int (0 : Int32))) (P5 : Fld Z h0 a "java/lang/String" "value" "[B" (.ref bt)) (P6 : Arv Z h0 bt kb .byte (15 : Int32) [(.int (33 : Int32)), (.int (35 : Int32)), (.int (36 : Int32)), (.int (37 : Int32)), (.int (38 : Int32)), (.int (39 : Int32)), (.int (42 : Int32)), (.int (43 : Int32)), (.int (45 : Int32)), (.int (46 : Int32)), (.int (94 : Int32)), (.int (95 : Int32)), (.int (96 : Int32)), (.int (124 : Int32)), (.int (126 : Int32))] (.int (0 : Int32))) :
    MetFree l (⟨"java/lang/String", "indexOf", "(I)I"⟩ : MethodName) (head1 (Jvm.Cond.code (⟨"java/lang/String", "indexOf", "(I)I"⟩ : MethodName) jdk_42_method_79_code 2 (some .int) :: ws) ({ frames := 3, cells := 0, slots := 0, locals := 46 } : Room)) (fun A_ U => A_ = #[(.ref a), (.int k)] ∧ Z.Warmed39 U.vm ∧ U.heap = h0) (fun _ _ _ _ _ => True) (fun _ U_ o_ U'_ => ∃ v_ L_, o_ = .returned v_ ∧ Q2 Z a k cs bt kb h0 n0 v_ U'_.heap L_ ∧ FrameEnd U_ o_ U'_ L_ ({ frames := 3, cells := 0, slots := 0, locals := 46 } : Room).cells ({ frames := 3, cells := 0, slots := 0, locals := 46 } : Room).slots) := by
  refine MetFree.of_bodySF (plainFor_of_name pn_0) hisR ?_
  intro p e s m args below meth c s₁ Bd hml0 hP hK
  obtain ⟨rfl, hZ, hh⟩ := hP
  have hx := Bd.exec
  have hby := Bd.bytes
  have hml : c.maxLocals = 2 := hml0
  have hown : s.vm.findClass "java/lang/String" = some m.cls := findClass_of_methodNamed Bd.named
  have hnm := (name_of_methodNamed Bd.named Bd.method).1
  have hlk : meth.locks = false := Bd.notSynchronized
  have X0 : Stand p l e ({ frames := 3, cells := 0, slots := 0, locals := 46 } : Room) s m #[(.ref a), (.int k)] below meth c s₁ [] 0 0 := Stand.of_body Bd
  have e0 : s₁.heap = h0 := by rw [← hh, Bd.state]; rfl
  have N0 := Fr.nil n0
  have K0 : Keep h0 h0 [] := Keep.refl _ _
  refine own_cast (ef_2 m a k) ?_
  show OwnGo p e below s (Q2 Z a k cs bt kb h0 n0) ({ frames := 3, cells := 0, slots := 0, locals := 46 } : Room).cells ({ frames := 3, cells := 0, slots := 0, locals := 46 } : Room).slots (s₁.setTop (mkF m 0 #[.val (.ref a), .val (.int k)] []))
  refine own_on (fun t_ k_ => XS.aloadN X0.here hx rfl (hb hby d2_0) rfl rfl k_) ?_
  show OwnGo p e below s _ _ _ (s₁.setTop (mkF m 1 #[.val (.ref a), .val (.int k)] [(.ref a)]))
  refine own_on (fun t_ k_ => XS.iloadN X0.here hx rfl (hb hby d2_1) rfl k_) ?_
  show OwnGo p e below s _ _ _ (s₁.setTop (mkF m 2 #[.val (.ref a), .val (.int k)] [(.int k), (.ref a)]))
  refine own_on (fun t_ k_ => XS.iconst X0.here hx rfl (hb hby d2_2) k_) ?_
  show OwnGo p e below s _ _ _ (s₁.setTop (mkF m 3 #[.val (.ref a), .val (.int k)] [(.int (0 : Int32)), (.int k), (.ref a)]))
  obtain ⟨cq1, kq1, q1a, q1b, q1c⟩ := isOf hZ e0 P3
  obtain ⟨_, _, ⟨T1, L1, k1, n1⟩, -, X1, ⟨Lc1, hQ1, l1, y1, z1⟩, st1⟩ := X0.virtualBack hx (y := (⟨"java/lang/String", "indexOf", "(II)I"⟩ : MethodName)) (z := (⟨"java/lang/String", "indexOf", "(II)I"⟩ : MethodName)) hown (mvT hZ (w17 hw)) (mvT hZ (w18 hw)) (notFace_of_selects (args := #[]) (mvT hZ (w20 hw))) (mvT hZ (w20 hw)) (mvT hZ (w19 hw)) (by decide) (backOf (W := 0) (rm3 l Z a0 hw [] a k cs bt kb h0 n0 Z0 P0 P1 P2 P3 P4 P5 P6) hZ (w21 hw) (w5 hw) (by decide) (by decide)) q1a q1c (g := (mkF m 3 #[.val (.ref a), .val (.int k)] [(.int (0 : Int32)), (.int k), (.ref a)])) rfl (by rw [hml]; rfl) (Steps.refl _) (argsL := [(.int k), (.int (0 : Int32))]) (rest := []) (lenOf pd_2 rfl) rfl (by show 2 * 0 + _ ≤ _; exact Nat.le_of_eq rfl) (hb hby d2_3) (fun _ hWx => ⟨rfl, e0, (by decide : 0 + 0 ≤ _), (by decide : 0 + 0 ≤ _)⟩)
  dsimp only [Pt.U, Pt.locs, Pt.cells, Pt.slots] at X1 l1 y1 z1 st1 hQ1
  replace X1 := own_num (c' := 0) (n' := 0) X1 l1 (y1.trans rfl) (z1.trans rfl)
  obtain ⟨rfl, N1q, e1⟩ := hQ1
  have N1 := Fr.app N0 N1q
  refine own_tr st1 ?_
  show OwnGo p e below s _ _ _ (T1.setTop (mkF m 6 #[.val (.ref a), .val (.int k)] [(.int (own_ixl k))]))
  exact own_retI X1 hx hlk Bd.returns (hb hby d2_6) e1 ⟨rfl, N1, rfl⟩ (by decide) (by decide)
theorem ef_13 (m : MethodId) (k : Int32)  : entryFrame m #[(.int k)] 1 = mkF m 0 #[.val (.int k)] [] := by first | (simp [entryFrame, mkF, argsToLocals, Value.category]; done) | rfl
def Q13 (Z : State) (k : Int32) (h0 : Heap) (n0 : Nat) (v_ : Option Value) (h_ : Heap) (L_ : List Loc) : Prop := v_ = some (.int (own_del k)) ∧ Fr n0 L_ ∧ h_ = h0
set_option maxRecDepth 65536 in
set_option maxHeartbeats 40000000 in
theorem rm13 (l : Launch) (Z : State) (a0 : Array Value) (hw : ∀ d ∈ tables_1, d.before a0 Z = true) (ws : List Jvm.Cond) (k : Int32) (h0 : Heap) (n0 : Nat) (Z0 : n0 ≤ h0.size)  :
    MetFree l (⟨"org/pathbind/HeaderFieldsIsTokenCharacterPinLaw", "isDelimiter", "(I)Z"⟩ : MethodName) (head1 (Jvm.Cond.code (⟨"org/pathbind/HeaderFieldsIsTokenCharacterPinLaw", "isDelimiter", "(I)Z"⟩ : MethodName) method_2_code 1 (some .boolean) :: ws) ({ frames := 0, cells := 0, slots := 0, locals := 0 } : Room)) (fun A_ U => A_ = #[(.int k)] ∧ Z.Warmed39 U.vm ∧ U.heap = h0) (fun _ _ _ _ _ => True) (fun _ U_ o_ U'_ => ∃ v_ L_, o_ = .returned v_ ∧ Q13 Z k h0 n0 v_ U'_.heap L_ ∧ FrameEnd U_ o_ U'_ L_ ({ frames := 0, cells := 0, slots := 0, locals := 0 } : Room).cells ({ frames := 0, cells := 0, slots := 0, locals := 0 } : Room).slots) := by
  refine MetFree.of_bodySF (plainFor_of_name pn_2) hisR ?_
  intro p e s m args below meth c s₁ Bd hml0 hP hK
  obtain ⟨rfl, hZ, hh⟩ := hP
  have hx := Bd.exec
  have hby := Bd.bytes
  have hml : c.maxLocals = 1 := hml0
  have hown : s.vm.findClass "org/pathbind/HeaderFieldsIsTokenCharacterPinLaw" = some m.cls := findClass_of_methodNamed Bd.named
  have hnm := (name_of_methodNamed Bd.named Bd.method).1
  have hlk : meth.locks = false := Bd.notSynchronized
  have X0 : Stand p l e ({ frames := 0, cells := 0, slots := 0, locals := 0 } : Room) s m #[(.int k)] below meth c s₁ [] 0 0 := Stand.of_body Bd
  have e0 : s₁.heap = h0 := by rw [← hh, Bd.state]; rfl
  have N0 := Fr.nil n0
  have K0 : Keep h0 h0 [] := Keep.refl _ _
  refine own_cast (ef_13 m k) ?_
  show OwnGo p e below s (Q13 Z k h0 n0) ({ frames := 0, cells := 0, slots := 0, locals := 0 } : Room).cells ({ frames := 0, cells := 0, slots := 0, locals := 0 } : Room).slots (s₁.setTop (mkF m 0 #[.val (.int k)] []))
  refine own_on (fun t_ k_ => XS.iloadN X0.here hx rfl (hb hby d13_0) rfl k_) ?_
  show OwnGo p e below s _ _ _ (s₁.setTop (mkF m 1 #[.val (.int k)] [(.int k)]))
  refine own_on (fun t_ k_ => XS.bipush X0.here hx rfl (hb hby d13_1) k_) ?_
  show OwnGo p e below s _ _ _ (s₁.setTop (mkF m 3 #[.val (.int k)] [(.int (34 : Int32)), (.int k)]))
  by_cases q0 : k = (34 : Int32)
  · refine own_on (fun t_ k_ => XS.icmpYes X0.here hx rfl (pc0 := 3) (pc' := 102) rfl (hb hby d13_3) rfl (teq q0).1 (by decide) (by decide) k_) ?_
    show OwnGo p e below s _ _ _ (s₁.setTop (mkF m 102 #[.val (.int k)] []))
    refine own_on (fun t_ k_ => XS.iconst X0.here hx rfl (hb hby d13_102) k_) ?_
    show OwnGo p e below s _ _ _ (s₁.setTop (mkF m 103 #[.val (.int k)] [(.int (1 : Int32))]))
    refine own_on (fun t_ k_ => XS.goto X0.here hx rfl (pc0 := 103) (pc' := 107) rfl (hb hby d13_103) (by decide) (by decide) k_) ?_
    show OwnGo p e below s _ _ _ (s₁.setTop (mkF m 107 #[.val (.int k)] [(.int (1 : Int32))]))
    exact own_retN X0 hx hlk (t := .boolean) Bd.returns (by simp) (hb hby d13_107) e0 ⟨(congrArg (fun z => some (Value.int z)) (by simp only [own_del]; rw [if_pos q0]; rfl)), N0, rfl⟩ (by decide) (by decide)
  · refine own_on (fun t_ k_ => XS.icmpNo X0.here hx rfl (hb hby d13_3) rfl (feq q0).1 k_) ?_
    show OwnGo p e below s _ _ _ (s₁.setTop (mkF m 6 #[.val (.int k)] []))
    refine own_on (fun t_ k_ => XS.iloadN X0.here hx rfl (hb hby d13_6) rfl k_) ?_
    show OwnGo p e below s _ _ _ (s₁.setTop (mkF m 7 #[.val (.int k)] [(.int k)]))
    refine own_on (fun t_ k_ => XS.bipush X0.here hx rfl (hb hby d13_7) k_) ?_
    show OwnGo p e below s _ _ _ (s₁.setTop (mkF m 9 #[.val (.int k)] [(.int (40 : Int32)), (.int k)]))
    by_cases q1 : k = (40 : Int32)
    · refine own_on (fun t_ k_ => XS.icmpYes X0.here hx rfl (pc0 := 9) (pc' := 102) rfl (hb hby d13_9) rfl (teq q1).1 (by decide) (by decide) k_) ?_
      show OwnGo p e below s _ _ _ (s₁.setTop (mkF m 102 #[.val (.int k)] []))
      refine own_on (fun t_ k_ => XS.iconst X0.here hx rfl (hb hby d13_102) k_) ?_
      show OwnGo p e below s _ _ _ (s₁.setTop (mkF m 103 #[.val (.int k)] [(.int (1 : Int32))]))
      refine own_on (fun t_ k_ => XS.goto X0.here hx rfl (pc0 := 103) (pc' := 107) rfl (hb hby d13_103) (by decide) (by decide) k_) ?_
      show OwnGo p e below s _ _ _ (s₁.setTop (mkF m 107 #[.val (.int k)] [(.int (1 : Int32))]))
      exact own_retN X0 hx hlk (t := .boolean) Bd.returns (by simp) (hb hby d13_107) e0 ⟨(congrArg (fun z => some (Value.int z)) (by simp only [own_del]; rw [if_neg q0, if_pos q1]; rfl)), N0, rfl⟩ (by decide) (by decide)
    · refine own_on (fun t_ k_ => XS.icmpNo X0.here hx rfl (hb hby d13_9) rfl (feq q1).1 k_) ?_
      show OwnGo p e below s _ _ _ (s₁.setTop (mkF m 12 #[.val (.int k)] []))
      refine own_on (fun t_ k_ => XS.iloadN X0.here hx rfl (hb hby d13_12) rfl k_) ?_
      show OwnGo p e below s _ _ _ (s₁.setTop (mkF m 13 #[.val (.int k)] [(.int k)]))
      refine own_on (fun t_ k_ => XS.bipush X0.here hx rfl (hb hby d13_13) k_) ?_
      show OwnGo p e below s _ _ _ (s₁.setTop (mkF m 15 #[.val (.int k)] [(.int (41 : Int32)), (.int k)]))
      by_cases q2 : k = (41 : Int32)
      · refine own_on (fun t_ k_ => XS.icmpYes X0.here hx rfl (pc0 := 15) (pc' := 102) rfl (hb hby d13_15) rfl (teq q2).1 (by decide) (by decide) k_) ?_
        show OwnGo p e below s _ _ _ (s₁.setTop (mkF m 102 #[.val (.int k)] []))
        refine own_on (fun t_ k_ => XS.iconst X0.here hx rfl (hb hby d13_102) k_) ?_
        show OwnGo p e below s _ _ _ (s₁.setTop (mkF m 103 #[.val (.int k)] [(.int (1 : Int32))]))
        refine own_on (fun t_ k_ => XS.goto X0.here hx rfl (pc0 := 103) (pc' := 107) rfl (hb hby d13_103) (by decide) (by decide) k_) ?_
        show OwnGo p e below s _ _ _ (s₁.setTop (mkF m 107 #[.val (.int k)] [(.int (1 : Int32))]))
        exact own_retN X0 hx hlk (t := .boolean) Bd.returns (by simp) (hb hby d13_107) e0 ⟨(congrArg (fun z => some (Value.int z)) (by simp only [own_del]; rw [if_neg q0, if_neg q1, if_pos q2]; rfl)), N0, rfl⟩ (by decide) (by decide)
      · refine own_on (fun t_ k_ => XS.icmpNo X0.here hx rfl (hb hby d13_15) rfl (feq q2).1 k_) ?_
        show OwnGo p e below s _ _ _ (s₁.setTop (mkF m 18 #[.val (.int k)] []))
        refine own_on (fun t_ k_ => XS.iloadN X0.here hx rfl (hb hby d13_18) rfl k_) ?_
        show OwnGo p e below s _ _ _ (s₁.setTop (mkF m 19 #[.val (.int k)] [(.int k)]))
        refine own_on (fun t_ k_ => XS.bipush X0.here hx rfl (hb hby d13_19) k_) ?_
        show OwnGo p e below s _ _ _ (s₁.setTop (mkF m 21 #[.val (.int k)] [(.int (44 : Int32)), (.int k)]))
        by_cases q3 : k = (44 : Int32)
        · refine own_on (fun t_ k_ => XS.icmpYes X0.here hx rfl (pc0 := 21) (pc' := 102) rfl (hb hby d13_21) rfl (teq q3).1 (by decide) (by decide) k_) ?_
          show OwnGo p e below s _ _ _ (s₁.setTop (mkF m 102 #[.val (.int k)] []))
          refine own_on (fun t_ k_ => XS.iconst X0.here hx rfl (hb hby d13_102) k_) ?_
          show OwnGo p e below s _ _ _ (s₁.setTop (mkF m 103 #[.val (.int k)] [(.int (1 : Int32))]))
          refine own_on (fun t_ k_ => XS.goto X0.here hx rfl (pc0 := 103) (pc' := 107) rfl (hb hby d13_103) (by decide) (by decide) k_) ?_
          show OwnGo p e below s _ _ _ (s₁.setTop (mkF m 107 #[.val (.int k)] [(.int (1 : Int32))]))
          exact own_retN X0 hx hlk (t := .boolean) Bd.returns (by simp) (hb hby d13_107) e0 ⟨(congrArg (fun z => some (Value.int z)) (by simp only [own_del]; rw [if_neg q0, if_neg q1, if_neg q2, if_pos q3]; rfl)), N0, rfl⟩ (by decide) (by decide)
        · refine own_on (fun t_ k_ => XS.icmpNo X0.here hx rfl (hb hby d13_21) rfl (feq q3).1 k_) ?_
          show OwnGo p e below s _ _ _ (s₁.setTop (mkF m 24 #[.val (.int k)] []))
          refine own_on (fun t_ k_ => XS.iloadN X0.here hx rfl (hb hby d13_24) rfl k_) ?_
          show OwnGo p e below s _ _ _ (s₁.setTop (mkF m 25 #[.val (.int k)] [(.int k)]))
          refine own_on (fun t_ k_ => XS.bipush X0.here hx rfl (hb hby d13_25) k_) ?_
          show OwnGo p e below s _ _ _ (s₁.setTop (mkF m 27 #[.val (.int k)] [(.int (47 : Int32)), (.int k)]))
          by_cases q4 : k = (47 : Int32)
          · refine own_on (fun t_ k_ => XS.icmpYes X0.here hx rfl (pc0 := 27) (pc' := 102) rfl (hb hby d13_27) rfl (teq q4).1 (by decide) (by decide) k_) ?_
            show OwnGo p e below s _ _ _ (s₁.setTop (mkF m 102 #[.val (.int k)] []))
            refine own_on (fun t_ k_ => XS.iconst X0.here hx rfl (hb hby d13_102) k_) ?_
            show OwnGo p e below s _ _ _ (s₁.setTop (mkF m 103 #[.val (.int k)] [(.int (1 : Int32))]))
            refine own_on (fun t_ k_ => XS.goto X0.here hx rfl (pc0 := 103) (pc' := 107) rfl (hb hby d13_103) (by decide) (by decide) k_) ?_
            show OwnGo p e below s _ _ _ (s₁.setTop (mkF m 107 #[.val (.int k)] [(.int (1 : Int32))]))
            exact own_retN X0 hx hlk (t := .boolean) Bd.returns (by simp) (hb hby d13_107) e0 ⟨(congrArg (fun z => some (Value.int z)) (by simp only [own_del]; rw [if_neg q0, if_neg q1, if_neg q2, if_neg q3, if_pos q4]; rfl)), N0, rfl⟩ (by decide) (by decide)
          · refine own_on (fun t_ k_ => XS.icmpNo X0.here hx rfl (hb hby d13_27) rfl (feq q4).1 k_) ?_
            show OwnGo p e below s _ _ _ (s₁.setTop (mkF m 30 #[.val (.int k)] []))
            refine own_on (fun t_ k_ => XS.iloadN X0.here hx rfl (hb hby d13_30) rfl k_) ?_
            show OwnGo p e below s _ _ _ (s₁.setTop (mkF m 31 #[.val (.int k)] [(.int k)]))
            refine own_on (fun t_ k_ => XS.bipush X0.here hx rfl (hb hby d13_31) k_) ?_
            show OwnGo p e below s _ _ _ (s₁.setTop (mkF m 33 #[.val (.int k)] [(.int (58 : Int32)), (.int k)]))
            by_cases q5 : k = (58 : Int32)
            · refine own_on (fun t_ k_ => XS.icmpYes X0.here hx rfl (pc0 := 33) (pc' := 102) rfl (hb hby d13_33) rfl (teq q5).1 (by decide) (by decide) k_) ?_
              show OwnGo p e below s _ _ _ (s₁.setTop (mkF m 102 #[.val (.int k)] []))
              refine own_on (fun t_ k_ => XS.iconst X0.here hx rfl (hb hby d13_102) k_) ?_
              show OwnGo p e below s _ _ _ (s₁.setTop (mkF m 103 #[.val (.int k)] [(.int (1 : Int32))]))
              refine own_on (fun t_ k_ => XS.goto X0.here hx rfl (pc0 := 103) (pc' := 107) rfl (hb hby d13_103) (by decide) (by decide) k_) ?_
              show OwnGo p e below s _ _ _ (s₁.setTop (mkF m 107 #[.val (.int k)] [(.int (1 : Int32))]))
              exact own_retN X0 hx hlk (t := .boolean) Bd.returns (by simp) (hb hby d13_107) e0 ⟨(congrArg (fun z => some (Value.int z)) (by simp only [own_del]; rw [if_neg q0, if_neg q1, if_neg q2, if_neg q3, if_neg q4, if_pos q5]; rfl)), N0, rfl⟩ (by decide) (by decide)
            · refine own_on (fun t_ k_ => XS.icmpNo X0.here hx rfl (hb hby d13_33) rfl (feq q5).1 k_) ?_
              show OwnGo p e below s _ _ _ (s₁.setTop (mkF m 36 #[.val (.int k)] []))
              refine own_on (fun t_ k_ => XS.iloadN X0.here hx rfl (hb hby d13_36) rfl k_) ?_
              show OwnGo p e below s _ _ _ (s₁.setTop (mkF m 37 #[.val (.int k)] [(.int k)]))
              refine own_on (fun t_ k_ => XS.bipush X0.here hx rfl (hb hby d13_37) k_) ?_
              show OwnGo p e below s _ _ _ (s₁.setTop (mkF m 39 #[.val (.int k)] [(.int (59 : Int32)), (.int k)]))
              by_cases q6 : k = (59 : Int32)
              · refine own_on (fun t_ k_ => XS.icmpYes X0.here hx rfl (pc0 := 39) (pc' := 102) rfl (hb hby d13_39) rfl (teq q6).1 (by decide) (by decide) k_) ?_
                show OwnGo p e below s _ _ _ (s₁.setTop (mkF m 102 #[.val (.int k)] []))
                refine own_on (fun t_ k_ => XS.iconst X0.here hx rfl (hb hby d13_102) k_) ?_
                show OwnGo p e below s _ _ _ (s₁.setTop (mkF m 103 #[.val (.int k)] [(.int (1 : Int32))]))
                refine own_on (fun t_ k_ => XS.goto X0.here hx rfl (pc0 := 103) (pc' := 107) rfl (hb hby d13_103) (by decide) (by decide) k_) ?_
                show OwnGo p e below s _ _ _ (s₁.setTop (mkF m 107 #[.val (.int k)] [(.int (1 : Int32))]))
                exact own_retN X0 hx hlk (t := .boolean) Bd.returns (by simp) (hb hby d13_107) e0 ⟨(congrArg (fun z => some (Value.int z)) (by simp only [own_del]; rw [if_neg q0, if_neg q1, if_neg q2, if_neg q3, if_neg q4, if_neg q5, if_pos q6]; rfl)), N0, rfl⟩ (by decide) (by decide)
              · refine own_on (fun t_ k_ => XS.icmpNo X0.here hx rfl (hb hby d13_39) rfl (feq q6).1 k_) ?_
                show OwnGo p e below s _ _ _ (s₁.setTop (mkF m 42 #[.val (.int k)] []))
                refine own_on (fun t_ k_ => XS.iloadN X0.here hx rfl (hb hby d13_42) rfl k_) ?_
                show OwnGo p e below s _ _ _ (s₁.setTop (mkF m 43 #[.val (.int k)] [(.int k)]))
                refine own_on (fun t_ k_ => XS.bipush X0.here hx rfl (hb hby d13_43) k_) ?_
                show OwnGo p e below s _ _ _ (s₁.setTop (mkF m 45 #[.val (.int k)] [(.int (60 : Int32)), (.int k)]))
                by_cases q7 : k = (60 : Int32)
                · refine own_on (fun t_ k_ => XS.icmpYes X0.here hx rfl (pc0 := 45) (pc' := 102) rfl (hb hby d13_45) rfl (teq q7).1 (by decide) (by decide) k_) ?_
                  show OwnGo p e below s _ _ _ (s₁.setTop (mkF m 102 #[.val (.int k)] []))
                  refine own_on (fun t_ k_ => XS.iconst X0.here hx rfl (hb hby d13_102) k_) ?_
                  show OwnGo p e below s _ _ _ (s₁.setTop (mkF m 103 #[.val (.int k)] [(.int (1 : Int32))]))
                  refine own_on (fun t_ k_ => XS.goto X0.here hx rfl (pc0 := 103) (pc' := 107) rfl (hb hby d13_103) (by decide) (by decide) k_) ?_
                  show OwnGo p e below s _ _ _ (s₁.setTop (mkF m 107 #[.val (.int k)] [(.int (1 : Int32))]))
                  exact own_retN X0 hx hlk (t := .boolean) Bd.returns (by simp) (hb hby d13_107) e0 ⟨(congrArg (fun z => some (Value.int z)) (by simp only [own_del]; rw [if_neg q0, if_neg q1, if_neg q2, if_neg q3, if_neg q4, if_neg q5, if_neg q6, if_pos q7]; rfl)), N0, rfl⟩ (by decide) (by decide)
                · refine own_on (fun t_ k_ => XS.icmpNo X0.here hx rfl (hb hby d13_45) rfl (feq q7).1 k_) ?_
                  show OwnGo p e below s _ _ _ (s₁.setTop (mkF m 48 #[.val (.int k)] []))
                  refine own_on (fun t_ k_ => XS.iloadN X0.here hx rfl (hb hby d13_48) rfl k_) ?_
                  show OwnGo p e below s _ _ _ (s₁.setTop (mkF m 49 #[.val (.int k)] [(.int k)]))
                  refine own_on (fun t_ k_ => XS.bipush X0.here hx rfl (hb hby d13_49) k_) ?_
                  show OwnGo p e below s _ _ _ (s₁.setTop (mkF m 51 #[.val (.int k)] [(.int (61 : Int32)), (.int k)]))
                  by_cases q8 : k = (61 : Int32)
                  · refine own_on (fun t_ k_ => XS.icmpYes X0.here hx rfl (pc0 := 51) (pc' := 102) rfl (hb hby d13_51) rfl (teq q8).1 (by decide) (by decide) k_) ?_
                    show OwnGo p e below s _ _ _ (s₁.setTop (mkF m 102 #[.val (.int k)] []))
                    refine own_on (fun t_ k_ => XS.iconst X0.here hx rfl (hb hby d13_102) k_) ?_
                    show OwnGo p e below s _ _ _ (s₁.setTop (mkF m 103 #[.val (.int k)] [(.int (1 : Int32))]))
                    refine own_on (fun t_ k_ => XS.goto X0.here hx rfl (pc0 := 103) (pc' := 107) rfl (hb hby d13_103) (by decide) (by decide) k_) ?_
                    show OwnGo p e below s _ _ _ (s₁.setTop (mkF m 107 #[.val (.int k)] [(.int (1 : Int32))]))
                    exact own_retN X0 hx hlk (t := .boolean) Bd.returns (by simp) (hb hby d13_107) e0 ⟨(congrArg (fun z => some (Value.int z)) (by simp only [own_del]; rw [if_neg q0, if_neg q1, if_neg q2, if_neg q3, if_neg q4, if_neg q5, if_neg q6, if_neg q7, if_pos q8]; rfl)), N0, rfl⟩ (by decide) (by decide)
                  · refine own_on (fun t_ k_ => XS.icmpNo X0.here hx rfl (hb hby d13_51) rfl (feq q8).1 k_) ?_
                    show OwnGo p e below s _ _ _ (s₁.setTop (mkF m 54 #[.val (.int k)] []))
                    refine own_on (fun t_ k_ => XS.iloadN X0.here hx rfl (hb hby d13_54) rfl k_) ?_
                    show OwnGo p e below s _ _ _ (s₁.setTop (mkF m 55 #[.val (.int k)] [(.int k)]))
                    refine own_on (fun t_ k_ => XS.bipush X0.here hx rfl (hb hby d13_55) k_) ?_
                    show OwnGo p e below s _ _ _ (s₁.setTop (mkF m 57 #[.val (.int k)] [(.int (62 : Int32)), (.int k)]))
                    by_cases q9 : k = (62 : Int32)
                    · refine own_on (fun t_ k_ => XS.icmpYes X0.here hx rfl (pc0 := 57) (pc' := 102) rfl (hb hby d13_57) rfl (teq q9).1 (by decide) (by decide) k_) ?_
                      show OwnGo p e below s _ _ _ (s₁.setTop (mkF m 102 #[.val (.int k)] []))
                      refine own_on (fun t_ k_ => XS.iconst X0.here hx rfl (hb hby d13_102) k_) ?_
                      show OwnGo p e below s _ _ _ (s₁.setTop (mkF m 103 #[.val (.int k)] [(.int (1 : Int32))]))
                      refine own_on (fun t_ k_ => XS.goto X0.here hx rfl (pc0 := 103) (pc' := 107) rfl (hb hby d13_103) (by decide) (by decide) k_) ?_
                      show OwnGo p e below s _ _ _ (s₁.setTop (mkF m 107 #[.val (.int k)] [(.int (1 : Int32))]))
                      exact own_retN X0 hx hlk (t := .boolean) Bd.returns (by simp) (hb hby d13_107) e0 ⟨(congrArg (fun z => some (Value.int z)) (by simp only [own_del]; rw [if_neg q0, if_neg q1, if_neg q2, if_neg q3, if_neg q4, if_neg q5, if_neg q6, if_neg q7, if_neg q8, if_pos q9]; rfl)), N0, rfl⟩ (by decide) (by decide)
                    · refine own_on (fun t_ k_ => XS.icmpNo X0.here hx rfl (hb hby d13_57) rfl (feq q9).1 k_) ?_
                      show OwnGo p e below s _ _ _ (s₁.setTop (mkF m 60 #[.val (.int k)] []))
                      refine own_on (fun t_ k_ => XS.iloadN X0.here hx rfl (hb hby d13_60) rfl k_) ?_
                      show OwnGo p e below s _ _ _ (s₁.setTop (mkF m 61 #[.val (.int k)] [(.int k)]))
                      refine own_on (fun t_ k_ => XS.bipush X0.here hx rfl (hb hby d13_61) k_) ?_
                      show OwnGo p e below s _ _ _ (s₁.setTop (mkF m 63 #[.val (.int k)] [(.int (63 : Int32)), (.int k)]))
                      by_cases q10 : k = (63 : Int32)
                      · refine own_on (fun t_ k_ => XS.icmpYes X0.here hx rfl (pc0 := 63) (pc' := 102) rfl (hb hby d13_63) rfl (teq q10).1 (by decide) (by decide) k_) ?_
                        show OwnGo p e below s _ _ _ (s₁.setTop (mkF m 102 #[.val (.int k)] []))
                        refine own_on (fun t_ k_ => XS.iconst X0.here hx rfl (hb hby d13_102) k_) ?_
                        show OwnGo p e below s _ _ _ (s₁.setTop (mkF m 103 #[.val (.int k)] [(.int (1 : Int32))]))
                        refine own_on (fun t_ k_ => XS.goto X0.here hx rfl (pc0 := 103) (pc' := 107) rfl (hb hby d13_103) (by decide) (by decide) k_) ?_
                        show OwnGo p e below s _ _ _ (s₁.setTop (mkF m 107 #[.val (.int k)] [(.int (1 : Int32))]))
                        exact own_retN X0 hx hlk (t := .boolean) Bd.returns (by simp) (hb hby d13_107) e0 ⟨(congrArg (fun z => some (Value.int z)) (by simp only [own_del]; rw [if_neg q0, if_neg q1, if_neg q2, if_neg q3, if_neg q4, if_neg q5, if_neg q6, if_neg q7, if_neg q8, if_neg q9, if_pos q10]; rfl)), N0, rfl⟩ (by decide) (by decide)
                      · refine own_on (fun t_ k_ => XS.icmpNo X0.here hx rfl (hb hby d13_63) rfl (feq q10).1 k_) ?_
                        show OwnGo p e below s _ _ _ (s₁.setTop (mkF m 66 #[.val (.int k)] []))
                        refine own_on (fun t_ k_ => XS.iloadN X0.here hx rfl (hb hby d13_66) rfl k_) ?_
                        show OwnGo p e below s _ _ _ (s₁.setTop (mkF m 67 #[.val (.int k)] [(.int k)]))
                        refine own_on (fun t_ k_ => XS.bipush X0.here hx rfl (hb hby d13_67) k_) ?_
                        show OwnGo p e below s _ _ _ (s₁.setTop (mkF m 69 #[.val (.int k)] [(.int (64 : Int32)), (.int k)]))
                        by_cases q11 : k = (64 : Int32)
                        · refine own_on (fun t_ k_ => XS.icmpYes X0.here hx rfl (pc0 := 69) (pc' := 102) rfl (hb hby d13_69) rfl (teq q11).1 (by decide) (by decide) k_) ?_
                          show OwnGo p e below s _ _ _ (s₁.setTop (mkF m 102 #[.val (.int k)] []))
                          refine own_on (fun t_ k_ => XS.iconst X0.here hx rfl (hb hby d13_102) k_) ?_
                          show OwnGo p e below s _ _ _ (s₁.setTop (mkF m 103 #[.val (.int k)] [(.int (1 : Int32))]))
                          refine own_on (fun t_ k_ => XS.goto X0.here hx rfl (pc0 := 103) (pc' := 107) rfl (hb hby d13_103) (by decide) (by decide) k_) ?_
                          show OwnGo p e below s _ _ _ (s₁.setTop (mkF m 107 #[.val (.int k)] [(.int (1 : Int32))]))
                          exact own_retN X0 hx hlk (t := .boolean) Bd.returns (by simp) (hb hby d13_107) e0 ⟨(congrArg (fun z => some (Value.int z)) (by simp only [own_del]; rw [if_neg q0, if_neg q1, if_neg q2, if_neg q3, if_neg q4, if_neg q5, if_neg q6, if_neg q7, if_neg q8, if_neg q9, if_neg q10, if_pos q11]; rfl)), N0, rfl⟩ (by decide) (by decide)
                        · refine own_on (fun t_ k_ => XS.icmpNo X0.here hx rfl (hb hby d13_69) rfl (feq q11).1 k_) ?_
                          show OwnGo p e below s _ _ _ (s₁.setTop (mkF m 72 #[.val (.int k)] []))
                          refine own_on (fun t_ k_ => XS.iloadN X0.here hx rfl (hb hby d13_72) rfl k_) ?_
                          show OwnGo p e below s _ _ _ (s₁.setTop (mkF m 73 #[.val (.int k)] [(.int k)]))
                          refine own_on (fun t_ k_ => XS.bipush X0.here hx rfl (hb hby d13_73) k_) ?_
                          show OwnGo p e below s _ _ _ (s₁.setTop (mkF m 75 #[.val (.int k)] [(.int (91 : Int32)), (.int k)]))
                          by_cases q12 : k = (91 : Int32)
                          · refine own_on (fun t_ k_ => XS.icmpYes X0.here hx rfl (pc0 := 75) (pc' := 102) rfl (hb hby d13_75) rfl (teq q12).1 (by decide) (by decide) k_) ?_
                            show OwnGo p e below s _ _ _ (s₁.setTop (mkF m 102 #[.val (.int k)] []))
                            refine own_on (fun t_ k_ => XS.iconst X0.here hx rfl (hb hby d13_102) k_) ?_
                            show OwnGo p e below s _ _ _ (s₁.setTop (mkF m 103 #[.val (.int k)] [(.int (1 : Int32))]))
                            refine own_on (fun t_ k_ => XS.goto X0.here hx rfl (pc0 := 103) (pc' := 107) rfl (hb hby d13_103) (by decide) (by decide) k_) ?_
                            show OwnGo p e below s _ _ _ (s₁.setTop (mkF m 107 #[.val (.int k)] [(.int (1 : Int32))]))
                            exact own_retN X0 hx hlk (t := .boolean) Bd.returns (by simp) (hb hby d13_107) e0 ⟨(congrArg (fun z => some (Value.int z)) (by simp only [own_del]; rw [if_neg q0, if_neg q1, if_neg q2, if_neg q3, if_neg q4, if_neg q5, if_neg q6, if_neg q7, if_neg q8, if_neg q9, if_neg q10, if_neg q11, if_pos q12]; rfl)), N0, rfl⟩ (by decide) (by decide)
                          · refine own_on (fun t_ k_ => XS.icmpNo X0.here hx rfl (hb hby d13_75) rfl (feq q12).1 k_) ?_
                            show OwnGo p e below s _ _ _ (s₁.setTop (mkF m 78 #[.val (.int k)] []))
                            refine own_on (fun t_ k_ => XS.iloadN X0.here hx rfl (hb hby d13_78) rfl k_) ?_
                            show OwnGo p e below s _ _ _ (s₁.setTop (mkF m 79 #[.val (.int k)] [(.int k)]))
                            refine own_on (fun t_ k_ => XS.bipush X0.here hx rfl (hb hby d13_79) k_) ?_
                            show OwnGo p e below s _ _ _ (s₁.setTop (mkF m 81 #[.val (.int k)] [(.int (92 : Int32)), (.int k)]))
                            by_cases q13 : k = (92 : Int32)
                            · refine own_on (fun t_ k_ => XS.icmpYes X0.here hx rfl (pc0 := 81) (pc' := 102) rfl (hb hby d13_81) rfl (teq q13).1 (by decide) (by decide) k_) ?_
                              show OwnGo p e below s _ _ _ (s₁.setTop (mkF m 102 #[.val (.int k)] []))
                              refine own_on (fun t_ k_ => XS.iconst X0.here hx rfl (hb hby d13_102) k_) ?_
                              show OwnGo p e below s _ _ _ (s₁.setTop (mkF m 103 #[.val (.int k)] [(.int (1 : Int32))]))
                              refine own_on (fun t_ k_ => XS.goto X0.here hx rfl (pc0 := 103) (pc' := 107) rfl (hb hby d13_103) (by decide) (by decide) k_) ?_
                              show OwnGo p e below s _ _ _ (s₁.setTop (mkF m 107 #[.val (.int k)] [(.int (1 : Int32))]))
                              exact own_retN X0 hx hlk (t := .boolean) Bd.returns (by simp) (hb hby d13_107) e0 ⟨(congrArg (fun z => some (Value.int z)) (by simp only [own_del]; rw [if_neg q0, if_neg q1, if_neg q2, if_neg q3, if_neg q4, if_neg q5, if_neg q6, if_neg q7, if_neg q8, if_neg q9, if_neg q10, if_neg q11, if_neg q12, if_pos q13]; rfl)), N0, rfl⟩ (by decide) (by decide)
                            · refine own_on (fun t_ k_ => XS.icmpNo X0.here hx rfl (hb hby d13_81) rfl (feq q13).1 k_) ?_
                              show OwnGo p e below s _ _ _ (s₁.setTop (mkF m 84 #[.val (.int k)] []))
                              refine own_on (fun t_ k_ => XS.iloadN X0.here hx rfl (hb hby d13_84) rfl k_) ?_
                              show OwnGo p e below s _ _ _ (s₁.setTop (mkF m 85 #[.val (.int k)] [(.int k)]))
                              refine own_on (fun t_ k_ => XS.bipush X0.here hx rfl (hb hby d13_85) k_) ?_
                              show OwnGo p e below s _ _ _ (s₁.setTop (mkF m 87 #[.val (.int k)] [(.int (93 : Int32)), (.int k)]))
                              by_cases q14 : k = (93 : Int32)
                              · refine own_on (fun t_ k_ => XS.icmpYes X0.here hx rfl (pc0 := 87) (pc' := 102) rfl (hb hby d13_87) rfl (teq q14).1 (by decide) (by decide) k_) ?_
                                show OwnGo p e below s _ _ _ (s₁.setTop (mkF m 102 #[.val (.int k)] []))
                                refine own_on (fun t_ k_ => XS.iconst X0.here hx rfl (hb hby d13_102) k_) ?_
                                show OwnGo p e below s _ _ _ (s₁.setTop (mkF m 103 #[.val (.int k)] [(.int (1 : Int32))]))
                                refine own_on (fun t_ k_ => XS.goto X0.here hx rfl (pc0 := 103) (pc' := 107) rfl (hb hby d13_103) (by decide) (by decide) k_) ?_
                                show OwnGo p e below s _ _ _ (s₁.setTop (mkF m 107 #[.val (.int k)] [(.int (1 : Int32))]))
                                exact own_retN X0 hx hlk (t := .boolean) Bd.returns (by simp) (hb hby d13_107) e0 ⟨(congrArg (fun z => some (Value.int z)) (by simp only [own_del]; rw [if_neg q0, if_neg q1, if_neg q2, if_neg q3, if_neg q4, if_neg q5, if_neg q6, if_neg q7, if_neg q8, if_neg q9, if_neg q10, if_neg q11, if_neg q12, if_neg q13, if_pos q14]; rfl)), N0, rfl⟩ (by decide) (by decide)
                              · refine own_on (fun t_ k_ => XS.icmpNo X0.here hx rfl (hb hby d13_87) rfl (feq q14).1 k_) ?_
                                show OwnGo p e below s _ _ _ (s₁.setTop (mkF m 90 #[.val (.int k)] []))
                                refine own_on (fun t_ k_ => XS.iloadN X0.here hx rfl (hb hby d13_90) rfl k_) ?_
                                show OwnGo p e below s _ _ _ (s₁.setTop (mkF m 91 #[.val (.int k)] [(.int k)]))
                                refine own_on (fun t_ k_ => XS.bipush X0.here hx rfl (hb hby d13_91) k_) ?_
                                show OwnGo p e below s _ _ _ (s₁.setTop (mkF m 93 #[.val (.int k)] [(.int (123 : Int32)), (.int k)]))
                                by_cases q15 : k = (123 : Int32)
                                · refine own_on (fun t_ k_ => XS.icmpYes X0.here hx rfl (pc0 := 93) (pc' := 102) rfl (hb hby d13_93) rfl (teq q15).1 (by decide) (by decide) k_) ?_
                                  show OwnGo p e below s _ _ _ (s₁.setTop (mkF m 102 #[.val (.int k)] []))
                                  refine own_on (fun t_ k_ => XS.iconst X0.here hx rfl (hb hby d13_102) k_) ?_
                                  show OwnGo p e below s _ _ _ (s₁.setTop (mkF m 103 #[.val (.int k)] [(.int (1 : Int32))]))
                                  refine own_on (fun t_ k_ => XS.goto X0.here hx rfl (pc0 := 103) (pc' := 107) rfl (hb hby d13_103) (by decide) (by decide) k_) ?_
                                  show OwnGo p e below s _ _ _ (s₁.setTop (mkF m 107 #[.val (.int k)] [(.int (1 : Int32))]))
                                  exact own_retN X0 hx hlk (t := .boolean) Bd.returns (by simp) (hb hby d13_107) e0 ⟨(congrArg (fun z => some (Value.int z)) (by simp only [own_del]; rw [if_neg q0, if_neg q1, if_neg q2, if_neg q3, if_neg q4, if_neg q5, if_neg q6, if_neg q7, if_neg q8, if_neg q9, if_neg q10, if_neg q11, if_neg q12, if_neg q13, if_neg q14, if_pos q15]; rfl)), N0, rfl⟩ (by decide) (by decide)
                                · refine own_on (fun t_ k_ => XS.icmpNo X0.here hx rfl (hb hby d13_93) rfl (feq q15).1 k_) ?_
                                  show OwnGo p e below s _ _ _ (s₁.setTop (mkF m 96 #[.val (.int k)] []))
                                  refine own_on (fun t_ k_ => XS.iloadN X0.here hx rfl (hb hby d13_96) rfl k_) ?_
                                  show OwnGo p e below s _ _ _ (s₁.setTop (mkF m 97 #[.val (.int k)] [(.int k)]))
                                  refine own_on (fun t_ k_ => XS.bipush X0.here hx rfl (hb hby d13_97) k_) ?_
                                  show OwnGo p e below s _ _ _ (s₁.setTop (mkF m 99 #[.val (.int k)] [(.int (125 : Int32)), (.int k)]))
                                  by_cases q16 : k = (125 : Int32)
                                  · refine own_on (fun t_ k_ => XS.icmpNo X0.here hx rfl (hb hby d13_99) rfl (teq q16).2 k_) ?_
                                    show OwnGo p e below s _ _ _ (s₁.setTop (mkF m 102 #[.val (.int k)] []))
                                    refine own_on (fun t_ k_ => XS.iconst X0.here hx rfl (hb hby d13_102) k_) ?_
                                    show OwnGo p e below s _ _ _ (s₁.setTop (mkF m 103 #[.val (.int k)] [(.int (1 : Int32))]))
                                    refine own_on (fun t_ k_ => XS.goto X0.here hx rfl (pc0 := 103) (pc' := 107) rfl (hb hby d13_103) (by decide) (by decide) k_) ?_
                                    show OwnGo p e below s _ _ _ (s₁.setTop (mkF m 107 #[.val (.int k)] [(.int (1 : Int32))]))
                                    exact own_retN X0 hx hlk (t := .boolean) Bd.returns (by simp) (hb hby d13_107) e0 ⟨(congrArg (fun z => some (Value.int z)) (by simp only [own_del]; rw [if_neg q0, if_neg q1, if_neg q2, if_neg q3, if_neg q4, if_neg q5, if_neg q6, if_neg q7, if_neg q8, if_neg q9, if_neg q10, if_neg q11, if_neg q12, if_neg q13, if_neg q14, if_neg q15, if_pos q16]; rfl)), N0, rfl⟩ (by decide) (by decide)
                                  · refine own_on (fun t_ k_ => XS.icmpYes X0.here hx rfl (pc0 := 99) (pc' := 106) rfl (hb hby d13_99) rfl (feq q16).2 (by decide) (by decide) k_) ?_
                                    show OwnGo p e below s _ _ _ (s₁.setTop (mkF m 106 #[.val (.int k)] []))
                                    refine own_on (fun t_ k_ => XS.iconst X0.here hx rfl (hb hby d13_106) k_) ?_
                                    show OwnGo p e below s _ _ _ (s₁.setTop (mkF m 107 #[.val (.int k)] [(.int (0 : Int32))]))
                                    exact own_retN X0 hx hlk (t := .boolean) Bd.returns (by simp) (hb hby d13_107) e0 ⟨(congrArg (fun z => some (Value.int z)) (by simp only [own_del]; rw [if_neg q0, if_neg q1, if_neg q2, if_neg q3, if_neg q4, if_neg q5, if_neg q6, if_neg q7, if_neg q8, if_neg q9, if_neg q10, if_neg q11, if_neg q12, if_neg q13, if_neg q14, if_neg q15, if_neg q16]; rfl)), N0, rfl⟩ (by decide) (by decide)
theorem ef_12 (m : MethodId) (k : Int32)  : entryFrame m #[(.int k)] 1 = mkF m 0 #[.val (.int k)] [] := by first | (simp [entryFrame, mkF, argsToLocals, Value.category]; done) | rfl
def Q12 (Z : State) (k : Int32) (h0 : Heap) (n0 : Nat) (v_ : Option Value) (h_ : Heap) (L_ : List Loc) : Prop := v_ = some (.int (own_rf k)) ∧ Fr n0 L_ ∧ h_ = h0
set_option maxRecDepth 65536 in
set_option maxHeartbeats 40000000 in
theorem rm12 (l : Launch) (Z : State) (a0 : Array Value) (hw : ∀ d ∈ tables_1, d.before a0 Z = true) (ws : List Jvm.Cond) (k : Int32) (h0 : Heap) (n0 : Nat) (Z0 : n0 ≤ h0.size)  :
    MetFree l (⟨"org/pathbind/HeaderFieldsIsTokenCharacterPinLaw", "ref", "(I)Z"⟩ : MethodName) (head1 (Jvm.Cond.code (⟨"org/pathbind/HeaderFieldsIsTokenCharacterPinLaw", "ref", "(I)Z"⟩ : MethodName) method_3_code 1 (some .boolean) :: ws) ({ frames := 1, cells := 0, slots := 0, locals := 12 } : Room)) (fun A_ U => A_ = #[(.int k)] ∧ Z.Warmed39 U.vm ∧ U.heap = h0) (fun _ _ _ _ _ => True) (fun _ U_ o_ U'_ => ∃ v_ L_, o_ = .returned v_ ∧ Q12 Z k h0 n0 v_ U'_.heap L_ ∧ FrameEnd U_ o_ U'_ L_ ({ frames := 1, cells := 0, slots := 0, locals := 12 } : Room).cells ({ frames := 1, cells := 0, slots := 0, locals := 12 } : Room).slots) := by
  refine MetFree.of_bodySF (plainFor_of_name pn_2) hisR ?_
  intro p e s m args below meth c s₁ Bd hml0 hP hK
  obtain ⟨rfl, hZ, hh⟩ := hP
  have hx := Bd.exec
  have hby := Bd.bytes
  have hml : c.maxLocals = 1 := hml0
  have hown : s.vm.findClass "org/pathbind/HeaderFieldsIsTokenCharacterPinLaw" = some m.cls := findClass_of_methodNamed Bd.named
  have hnm := (name_of_methodNamed Bd.named Bd.method).1
  have hlk : meth.locks = false := Bd.notSynchronized
  have X0 : Stand p l e ({ frames := 1, cells := 0, slots := 0, locals := 12 } : Room) s m #[(.int k)] below meth c s₁ [] 0 0 := Stand.of_body Bd
  have e0 : s₁.heap = h0 := by rw [← hh, Bd.state]; rfl
  have N0 := Fr.nil n0
  have K0 : Keep h0 h0 [] := Keep.refl _ _
  refine own_cast (ef_12 m k) ?_
  show OwnGo p e below s (Q12 Z k h0 n0) ({ frames := 1, cells := 0, slots := 0, locals := 12 } : Room).cells ({ frames := 1, cells := 0, slots := 0, locals := 12 } : Room).slots (s₁.setTop (mkF m 0 #[.val (.int k)] []))
  refine own_on (fun t_ k_ => XS.iloadN X0.here hx rfl (hb hby d12_0) rfl k_) ?_
  show OwnGo p e below s _ _ _ (s₁.setTop (mkF m 1 #[.val (.int k)] [(.int k)]))
  refine own_on (fun t_ k_ => XS.bipush X0.here hx rfl (hb hby d12_1) k_) ?_
  show OwnGo p e below s _ _ _ (s₁.setTop (mkF m 3 #[.val (.int k)] [(.int (32 : Int32)), (.int k)]))
  by_cases q0 : (32 : Int32) < k
  · refine own_on (fun t_ k_ => XS.icmpNo X0.here hx rfl (hb hby d12_3) rfl (tlt q0).2.2.2 k_) ?_
    show OwnGo p e below s _ _ _ (s₁.setTop (mkF m 6 #[.val (.int k)] []))
    refine own_on (fun t_ k_ => XS.iloadN X0.here hx rfl (hb hby d12_6) rfl k_) ?_
    show OwnGo p e below s _ _ _ (s₁.setTop (mkF m 7 #[.val (.int k)] [(.int k)]))
    refine own_on (fun t_ k_ => XS.bipush X0.here hx rfl (hb hby d12_7) k_) ?_
    show OwnGo p e below s _ _ _ (s₁.setTop (mkF m 9 #[.val (.int k)] [(.int (127 : Int32)), (.int k)]))
    by_cases q1 : k < (127 : Int32)
    · refine own_on (fun t_ k_ => XS.icmpYes X0.here hx rfl (pc0 := 9) (pc' := 14) rfl (hb hby d12_9) rfl (tlt q1).1 (by decide) (by decide) k_) ?_
      show OwnGo p e below s _ _ _ (s₁.setTop (mkF m 14 #[.val (.int k)] []))
      refine own_on (fun t_ k_ => XS.iloadN X0.here hx rfl (hb hby d12_14) rfl k_) ?_
      show OwnGo p e below s _ _ _ (s₁.setTop (mkF m 15 #[.val (.int k)] [(.int k)]))
      obtain ⟨_, _, ⟨T1, L1, k1, n1⟩, -, X1, ⟨Lc1, hQ1, l1, y1, z1⟩, st1⟩ := Jvm.LawKit.callS X0 hx (y := (⟨"org/pathbind/HeaderFieldsIsTokenCharacterPinLaw", "isDelimiter", "(I)Z"⟩ : MethodName)) hown (mvT hZ (w61 hw)) (mvT hZ (w62 hw)) (mvT hZ (w59 hw)) (mvT hZ (w63 hw)) (by decide) (backOf (W := 0) (rm13 l Z a0 hw [] k h0 n0 Z0 ) hZ (w63 hw) (w59 hw) (by decide) (by decide)) (g := (mkF m 15 #[.val (.int k)] [(.int k)])) rfl (by rw [hml]; rfl) (argsL := [(.int k)]) (rest := []) (lenOf pd_1 rfl) rfl (by show 2 * 0 + _ ≤ _; exact Nat.le_of_eq rfl) (hb hby d12_15) (fun _ hWx => ⟨rfl, e0, (by decide : 0 + 0 ≤ _), (by decide : 0 + 0 ≤ _)⟩)
      dsimp only [Pt.U, Pt.locs, Pt.cells, Pt.slots] at X1 l1 y1 z1 st1 hQ1
      replace X1 := own_num (c' := 0) (n' := 0) X1 l1 (y1.trans rfl) (z1.trans rfl)
      obtain ⟨rfl, N1q, e1⟩ := hQ1
      have N1 := Fr.app N0 N1q
      refine own_on st1 ?_
      show OwnGo p e below s _ _ _ (T1.setTop (mkF m 18 #[.val (.int k)] [(.int (own_del k))]))
      by_cases q2 : (own_del k) = (0 : Int32)
      · refine own_on (fun t_ k_ => XS.ifNo X1.here hx rfl (hb hby d12_18) rfl ((if0 _ _).trans (teq q2).2) k_) ?_
        show OwnGo p e below s _ _ _ (T1.setTop (mkF m 21 #[.val (.int k)] []))
        refine own_on (fun t_ k_ => XS.iconst X1.here hx rfl (hb hby d12_21) k_) ?_
        show OwnGo p e below s _ _ _ (T1.setTop (mkF m 22 #[.val (.int k)] [(.int (1 : Int32))]))
        refine own_on (fun t_ k_ => XS.goto X1.here hx rfl (pc0 := 22) (pc' := 26) rfl (hb hby d12_22) (by decide) (by decide) k_) ?_
        show OwnGo p e below s _ _ _ (T1.setTop (mkF m 26 #[.val (.int k)] [(.int (1 : Int32))]))
        exact own_retN X1 hx hlk (t := .boolean) Bd.returns (by simp) (hb hby d12_26) e1 ⟨(congrArg (fun z => some (Value.int z)) (by simp [own_rf, nar, *])), N1, rfl⟩ (by decide) (by decide)
      · refine own_on (fun t_ k_ => XS.ifYes X1.here hx rfl (pc0 := 18) (pc' := 25) rfl (hb hby d12_18) rfl ((if0 _ _).trans (feq q2).2) (by decide) (by decide) k_) ?_
        show OwnGo p e below s _ _ _ (T1.setTop (mkF m 25 #[.val (.int k)] []))
        refine own_on (fun t_ k_ => XS.iconst X1.here hx rfl (hb hby d12_25) k_) ?_
        show OwnGo p e below s _ _ _ (T1.setTop (mkF m 26 #[.val (.int k)] [(.int (0 : Int32))]))
        exact own_retN X1 hx hlk (t := .boolean) Bd.returns (by simp) (hb hby d12_26) e1 ⟨(congrArg (fun z => some (Value.int z)) (by simp [own_rf, nar, *])), N1, rfl⟩ (by decide) (by decide)
    · refine own_on (fun t_ k_ => XS.icmpNo X0.here hx rfl (hb hby d12_9) rfl (flt q1).1 k_) ?_
      show OwnGo p e below s _ _ _ (s₁.setTop (mkF m 12 #[.val (.int k)] []))
      refine own_on (fun t_ k_ => XS.iconst X0.here hx rfl (hb hby d12_12) k_) ?_
      show OwnGo p e below s _ _ _ (s₁.setTop (mkF m 13 #[.val (.int k)] [(.int (0 : Int32))]))
      exact own_retN X0 hx hlk (t := .boolean) Bd.returns (by simp) (hb hby d12_13) e0 ⟨(congrArg (fun z => some (Value.int z)) (by simp [own_rf, nar, *])), N0, rfl⟩ (by decide) (by decide)
  · refine own_on (fun t_ k_ => XS.icmpYes X0.here hx rfl (pc0 := 3) (pc' := 12) rfl (hb hby d12_3) rfl (flt q0).2.2.2 (by decide) (by decide) k_) ?_
    show OwnGo p e below s _ _ _ (s₁.setTop (mkF m 12 #[.val (.int k)] []))
    refine own_on (fun t_ k_ => XS.iconst X0.here hx rfl (hb hby d12_12) k_) ?_
    show OwnGo p e below s _ _ _ (s₁.setTop (mkF m 13 #[.val (.int k)] [(.int (0 : Int32))]))
    exact own_retN X0 hx hlk (t := .boolean) Bd.returns (by simp) (hb hby d12_13) e0 ⟨(congrArg (fun z => some (Value.int z)) (by simp [own_rf, nar, *])), N0, rfl⟩ (by decide) (by decide)
theorem ef_1 (m : MethodId) (k : Int32)  : entryFrame m #[(.int k)] 1 = mkF m 0 #[.val (.int k)] [] := by first | (simp [entryFrame, mkF, argsToLocals, Value.category]; done) | rfl
def Q1 (Z : State) (k : Int32) (cs : Int32) (h0 : Heap) (n0 : Nat) (v_ : Option Value) (vm_ : Vm) (h_ : Heap) (L_ : List Loc) : Prop := v_ = some (.int (own_tc k)) ∧ Fr n0 L_ ∧ Keep h0 h_ [] ∧ (OwnLd Z vm_ h_) ∧ (Old Z n0 h_)
set_option maxRecDepth 65536 in
set_option maxHeartbeats 40000000 in
theorem rm1 (l : Launch) (Z : State) (a0 : Array Value) (hw : ∀ d ∈ tables_1, d.before a0 Z = true) (ws : List Jvm.Cond) (k : Int32) (cs : Int32) (h0 : Heap) (n0 : Nat) (Z0 : n0 ≤ h0.size) (P0 : Old Z n0 h0) (P1 : Sta Z Z.heap "java/lang/String" "COMPACT_STRINGS" "Z" (.int cs)) (P2 : ¬ (cs = (0 : Int32))) (P3 : Jvm.Lit.constHeld Z "org/pathbind/HeaderFields" 138) (P4 : Jvm.Lit.compactW.before a0 Z = true) :
    MetFree l (⟨"org/pathbind/HeaderFields", "isTokenCharacter", "(I)Z"⟩ : MethodName) (head1 (Jvm.Cond.code (⟨"org/pathbind/HeaderFields", "isTokenCharacter", "(I)Z"⟩ : MethodName) prog_25_method_7_code 1 (some .boolean) :: ws) ({ frames := 4, cells := 2, slots := 64, locals := 59 } : Room)) (fun A_ U => A_ = #[(.int k)] ∧ Z.Warmed39 U.vm ∧ U.heap = h0 ∧ OwnLd Z U.vm h0) (fun _ _ _ _ _ => True) (fun _ U_ o_ U'_ => ∃ v_ L_, o_ = .returned v_ ∧ Q1 Z k cs h0 n0 v_ U'_.vm U'_.heap L_ ∧ ReturnedEndW U_ o_ U'_ L_ ({ frames := 4, cells := 2, slots := 64, locals := 59 } : Room).cells ({ frames := 4, cells := 2, slots := 64, locals := 59 } : Room).slots) := by
  refine MetFree.of_bodySF (plainFor_of_name pn_3) hisR ?_
  intro p e s m args below meth c s₁ Bd hml0 hP hK
  obtain ⟨rfl, hZ, hh, hJ⟩ := hP
  have hx := Bd.exec
  have hby := Bd.bytes
  have hml : c.maxLocals = 1 := hml0
  have hown : s.vm.findClass "org/pathbind/HeaderFields" = some m.cls := findClass_of_methodNamed Bd.named
  have hnm := (name_of_methodNamed Bd.named Bd.method).1
  have hlk : meth.locks = false := Bd.notSynchronized
  have X0 : Stand p l e ({ frames := 4, cells := 2, slots := 64, locals := 59 } : Room) s m #[(.int k)] below meth c s₁ [] 0 0 := Stand.of_body Bd
  have e0 : s₁.heap = h0 := by rw [← hh, Bd.state]; rfl
  have N0 := Fr.nil n0
  have K0 : Keep h0 h0 [] := Keep.refl _ _
  have hJ0 : OwnLd Z (s.setVm s₁.vm).vm h0 := hJ.warm X0.warmed
  have hS0 : s.Since s₁.vm 0 := X0.warmed.since _
  have hZ : Z.Warmed39 (s.setVm s₁.vm).vm := wtrans hZ X0.warmed
  have hown : (s.setVm s₁.vm).vm.findClass "org/pathbind/HeaderFields" = some m.cls := (X0.warmed.alike.findClass _ _).trans hown
  have X0 := X0.retabled X0.warmed.wide
  have hml : c.maxLocals = 1 := hml
  refine own_castJ (ef_1 m k) ?_
  show OwnGoJ p e below s (Q1 Z k cs h0 n0) ({ frames := 4, cells := 2, slots := 64, locals := 59 } : Room).cells ({ frames := 4, cells := 2, slots := 64, locals := 59 } : Room).slots (s₁.setTop (mkF m 0 #[.val (.int k)] []))
  have L36 : ∀ (hn : ¬ own_al k), OwnGoJ p e below s (Q1 Z k cs h0 n0) ({ frames := 4, cells := 2, slots := 64, locals := 59 } : Room).cells ({ frames := 4, cells := 2, slots := 64, locals := 59 } : Room).slots (s₁.setTop (mkF m 36 #[.val (.int k)] [])) := by
    intro hn
    rcases hJ0 with hI | ⟨x, t, kb, hL, xE, xC, xV, xA⟩
    · obtain ⟨b1, T1, h1, k1, c1, d1, X1, e1, E1, hS1, hk1, hZ, hown, xE1, xC1, xV1, xA1, xl1, xm1, IB1, hL1, st1⟩ := ldcSVL (Ts := []) X0 hx hZ hown (w4 hw) (own_str hw) e0 hS0 (Nat.zero_le _) (Fr.nil _) (fun b cl q => by rw [hh]; exact P0.2.2 b cl q) hI (by decide) P3 P4 (vs := [(.int (33 : Int32)), (.int (35 : Int32)), (.int (36 : Int32)), (.int (37 : Int32)), (.int (38 : Int32)), (.int (39 : Int32)), (.int (42 : Int32)), (.int (43 : Int32)), (.int (45 : Int32)), (.int (46 : Int32)), (.int (94 : Int32)), (.int (95 : Int32)), (.int (96 : Int32)), (.int (124 : Int32)), (.int (126 : Int32))]) (z := 15) (by decide) (by decide) (by decide) (g := (mkF m 36 #[.val (.int k)] [])) rfl (hb hby d1_36) (n := 60) (by decide) (by decide) (by decide) (by decide)
      have Z1 : n0 ≤ h1.size := Nat.le_trans Z0 E1.1
      have K1 : Keep h0 h1 [] := K0.ext E1
      refine own_onJ st1 ?_
      show OwnGoJ p e below s _ _ _ (T1.setTop (mkF m 38 #[.val (.int k)] [(.ref b1)]))
      have j1 : OwnLd Z (s.setVm T1.vm).vm h1 := Or.inr ⟨b1, c1, d1, hL1, xE1, xC1, xV1, xA1⟩
      refine own_onJ (fun t_ k_ => XS.iloadN X1.here hx rfl (hb hby d1_38) rfl k_) ?_
      show OwnGoJ p e below s _ _ _ (T1.setTop (mkF m 39 #[.val (.int k)] [(.int k), (.ref b1)]))
      have f2 : Old Z n0 h1 := P0.ext E1
      obtain ⟨cq3, kq3, q3a, q3b, q3c⟩ := isOf hZ e1 xE1
      obtain ⟨_, _, ⟨T3, L3, k3, n3⟩, -, X3, ⟨Lc3, hQ3, l3, y3, z3⟩, st3⟩ := X1.virtualBack hx (y := (⟨"java/lang/String", "indexOf", "(I)I"⟩ : MethodName)) (z := (⟨"java/lang/String", "indexOf", "(I)I"⟩ : MethodName)) hown (mvT hZ (w12 hw)) (mvT hZ (w13 hw)) (notFace_of_selects (args := #[]) (mvT hZ (w15 hw))) (mvT hZ (w15 hw)) (mvT hZ (w14 hw)) (by decide) (backOf (W := 0) (rm2 l Z a0 hw [] b1 k cs c1 d1 h1 n0 Z1 f2 P1 P2 xE1 xC1 xV1 xA1) hZ (w16 hw) (w5 hw) (by decide) (by decide)) q3a q3c (g := (mkF m 39 #[.val (.int k)] [(.int k), (.ref b1)])) rfl (by rw [hml]; rfl) (Steps.refl _) (argsL := [(.int k)]) (rest := []) (lenOf pd_6 rfl) rfl (by show 2 * 0 + _ ≤ _; exact Nat.le_of_eq rfl) (hb hby d1_39) (fun _ hWx => ⟨rfl, e1, (by decide : 2 + 0 ≤ _), (by decide : 64 + 0 ≤ _)⟩)
      dsimp only [Pt.U, Pt.locs, Pt.cells, Pt.slots] at X3 l3 y3 z3 st3 hQ3
      replace X3 := own_num (c' := 2) (n' := 64) X3 l3 (y3.trans rfl) (z3.trans rfl)
      obtain ⟨rfl, N3q, e3⟩ := hQ3
      have N3 := Fr.app N0 N3q
      refine own_trJ st3 ?_
      show OwnGoJ p e below s _ _ _ (T3.setTop (mkF m 42 #[.val (.int k)] [(.int (own_ixl k))]))
      by_cases qi : (own_ixl k) < (0 : Int32)
      · refine own_onJ (fun t_ k_ => XS.ifYes X3.here hx rfl (pc0 := 42) (pc' := 49) rfl (hb hby d1_42) rfl ((if0 _ _).trans (tlt qi).1) (by decide) (by decide) k_) ?_
        show OwnGoJ p e below s _ _ _ (T3.setTop (mkF m 49 #[.val (.int k)] []))
        refine own_onJ (fun t_ k_ => XS.iconst X3.here hx rfl (hb hby d1_49) k_) ?_
        show OwnGoJ p e below s _ _ _ (T3.setTop (mkF m 50 #[.val (.int k)] [(.int (0 : Int32))]))
        have j4 := j1.warm X3.warmed
        exact own_retNJ X3 hx hlk (t := .boolean) Bd.returns (by simp) (hb hby d1_50) e3 ⟨(congrArg (fun z => some (Value.int z)) (by simp [own_tc, nar, *])), N3, K1, j4, f2⟩ (by decide) (by decide) hS1 (Nat.le_trans hk1 (Nat.le_of_eq (congrArg Array.size e3.symm)))
      · refine own_onJ (fun t_ k_ => XS.ifNo X3.here hx rfl (hb hby d1_42) rfl ((if0 _ _).trans (flt qi).1) k_) ?_
        show OwnGoJ p e below s _ _ _ (T3.setTop (mkF m 45 #[.val (.int k)] []))
        refine own_onJ (fun t_ k_ => XS.iconst X3.here hx rfl (hb hby d1_45) k_) ?_
        show OwnGoJ p e below s _ _ _ (T3.setTop (mkF m 46 #[.val (.int k)] [(.int (1 : Int32))]))
        refine own_onJ (fun t_ k_ => XS.goto X3.here hx rfl (pc0 := 46) (pc' := 50) rfl (hb hby d1_46) (by decide) (by decide) k_) ?_
        show OwnGoJ p e below s _ _ _ (T3.setTop (mkF m 50 #[.val (.int k)] [(.int (1 : Int32))]))
        have j5 := j1.warm X3.warmed
        exact own_retNJ X3 hx hlk (t := .boolean) Bd.returns (by simp) (hb hby d1_50) e3 ⟨(congrArg (fun z => some (Value.int z)) (by simp [own_tc, nar, *])), N3, K1, j5, f2⟩ (by decide) (by decide) hS1 (Nat.le_trans hk1 (Nat.le_of_eq (congrArg Array.size e3.symm)))
    · have hJ1 : OwnLd Z (s.setVm s₁.vm).vm h0 := Or.inr ⟨x, t, kb, hL, xE, xC, xV, xA⟩
      refine own_onJ (ldcAgain X0 hx hZ hown (w4 hw) hL (g := (mkF m 36 #[.val (.int k)] [])) rfl (hb hby d1_36)) ?_
      show OwnGoJ p e below s _ _ _ (s₁.setTop (mkF m 38 #[.val (.int k)] [(.ref x)]))
      refine own_onJ (fun t_ k_ => XS.iloadN X0.here hx rfl (hb hby d1_38) rfl k_) ?_
      show OwnGoJ p e below s _ _ _ (s₁.setTop (mkF m 39 #[.val (.int k)] [(.int k), (.ref x)]))
      obtain ⟨cq6, kq6, q6a, q6b, q6c⟩ := isOf hZ e0 xE
      obtain ⟨_, _, ⟨T6, L6, k6, n6⟩, -, X6, ⟨Lc6, hQ6, l6, y6, z6⟩, st6⟩ := X0.virtualBack hx (y := (⟨"java/lang/String", "indexOf", "(I)I"⟩ : MethodName)) (z := (⟨"java/lang/String", "indexOf", "(I)I"⟩ : MethodName)) hown (mvT hZ (w12 hw)) (mvT hZ (w13 hw)) (notFace_of_selects (args := #[]) (mvT hZ (w15 hw))) (mvT hZ (w15 hw)) (mvT hZ (w14 hw)) (by decide) (backOf (W := 0) (rm2 l Z a0 hw [] x k cs t kb h0 n0 Z0 P0 P1 P2 xE xC xV xA) hZ (w16 hw) (w5 hw) (by decide) (by decide)) q6a q6c (g := (mkF m 39 #[.val (.int k)] [(.int k), (.ref x)])) rfl (by rw [hml]; rfl) (Steps.refl _) (argsL := [(.int k)]) (rest := []) (lenOf pd_6 rfl) rfl (by show 2 * 0 + _ ≤ _; exact Nat.le_of_eq rfl) (hb hby d1_39) (fun _ hWx => ⟨rfl, e0, (by decide : 0 + 0 ≤ _), (by decide : 0 + 0 ≤ _)⟩)
      dsimp only [Pt.U, Pt.locs, Pt.cells, Pt.slots] at X6 l6 y6 z6 st6 hQ6
      replace X6 := own_num (c' := 0) (n' := 0) X6 l6 (y6.trans rfl) (z6.trans rfl)
      obtain ⟨rfl, N6q, e6⟩ := hQ6
      have N6 := Fr.app N0 N6q
      refine own_trJ st6 ?_
      show OwnGoJ p e below s _ _ _ (T6.setTop (mkF m 42 #[.val (.int k)] [(.int (own_ixl k))]))
      by_cases qi : (own_ixl k) < (0 : Int32)
      · refine own_onJ (fun t_ k_ => XS.ifYes X6.here hx rfl (pc0 := 42) (pc' := 49) rfl (hb hby d1_42) rfl ((if0 _ _).trans (tlt qi).1) (by decide) (by decide) k_) ?_
        show OwnGoJ p e below s _ _ _ (T6.setTop (mkF m 49 #[.val (.int k)] []))
        refine own_onJ (fun t_ k_ => XS.iconst X6.here hx rfl (hb hby d1_49) k_) ?_
        show OwnGoJ p e below s _ _ _ (T6.setTop (mkF m 50 #[.val (.int k)] [(.int (0 : Int32))]))
        have j7 := hJ1.warm X6.warmed
        exact own_retNJ X6 hx hlk (t := .boolean) Bd.returns (by simp) (hb hby d1_50) e6 ⟨(congrArg (fun z => some (Value.int z)) (by simp [own_tc, nar, *])), N6, K0, j7, P0⟩ (by decide) (by decide) hS0 (Nat.le_trans (Nat.zero_le _) (Nat.le_of_eq (congrArg Array.size e6.symm)))
      · refine own_onJ (fun t_ k_ => XS.ifNo X6.here hx rfl (hb hby d1_42) rfl ((if0 _ _).trans (flt qi).1) k_) ?_
        show OwnGoJ p e below s _ _ _ (T6.setTop (mkF m 45 #[.val (.int k)] []))
        refine own_onJ (fun t_ k_ => XS.iconst X6.here hx rfl (hb hby d1_45) k_) ?_
        show OwnGoJ p e below s _ _ _ (T6.setTop (mkF m 46 #[.val (.int k)] [(.int (1 : Int32))]))
        refine own_onJ (fun t_ k_ => XS.goto X6.here hx rfl (pc0 := 46) (pc' := 50) rfl (hb hby d1_46) (by decide) (by decide) k_) ?_
        show OwnGoJ p e below s _ _ _ (T6.setTop (mkF m 50 #[.val (.int k)] [(.int (1 : Int32))]))
        have j8 := hJ1.warm X6.warmed
        exact own_retNJ X6 hx hlk (t := .boolean) Bd.returns (by simp) (hb hby d1_50) e6 ⟨(congrArg (fun z => some (Value.int z)) (by simp [own_tc, nar, *])), N6, K0, j8, P0⟩ (by decide) (by decide) hS0 (Nat.le_trans (Nat.zero_le _) (Nat.le_of_eq (congrArg Array.size e6.symm)))
  refine own_onJ (fun t_ k_ => XS.iloadN X0.here hx rfl (hb hby d1_0) rfl k_) ?_
  show OwnGoJ p e below s _ _ _ (s₁.setTop (mkF m 1 #[.val (.int k)] [(.int k)]))
  refine own_onJ (fun t_ k_ => XS.bipush X0.here hx rfl (hb hby d1_1) k_) ?_
  show OwnGoJ p e below s _ _ _ (s₁.setTop (mkF m 3 #[.val (.int k)] [(.int (97 : Int32)), (.int k)]))
  by_cases q0 : k < (97 : Int32)
  · refine own_onJ (fun t_ k_ => XS.icmpYes X0.here hx rfl (pc0 := 3) (pc' := 12) rfl (hb hby d1_3) rfl (tlt q0).1 (by decide) (by decide) k_) ?_
    show OwnGoJ p e below s _ _ _ (s₁.setTop (mkF m 12 #[.val (.int k)] []))
    refine own_onJ (fun t_ k_ => XS.iloadN X0.here hx rfl (hb hby d1_12) rfl k_) ?_
    show OwnGoJ p e below s _ _ _ (s₁.setTop (mkF m 13 #[.val (.int k)] [(.int k)]))
    refine own_onJ (fun t_ k_ => XS.bipush X0.here hx rfl (hb hby d1_13) k_) ?_
    show OwnGoJ p e below s _ _ _ (s₁.setTop (mkF m 15 #[.val (.int k)] [(.int (65 : Int32)), (.int k)]))
    by_cases q1 : k < (65 : Int32)
    · refine own_onJ (fun t_ k_ => XS.icmpYes X0.here hx rfl (pc0 := 15) (pc' := 24) rfl (hb hby d1_15) rfl (tlt q1).1 (by decide) (by decide) k_) ?_
      show OwnGoJ p e below s _ _ _ (s₁.setTop (mkF m 24 #[.val (.int k)] []))
      refine own_onJ (fun t_ k_ => XS.iloadN X0.here hx rfl (hb hby d1_24) rfl k_) ?_
      show OwnGoJ p e below s _ _ _ (s₁.setTop (mkF m 25 #[.val (.int k)] [(.int k)]))
      refine own_onJ (fun t_ k_ => XS.bipush X0.here hx rfl (hb hby d1_25) k_) ?_
      show OwnGoJ p e below s _ _ _ (s₁.setTop (mkF m 27 #[.val (.int k)] [(.int (48 : Int32)), (.int k)]))
      by_cases q2 : k < (48 : Int32)
      · refine own_onJ (fun t_ k_ => XS.icmpYes X0.here hx rfl (pc0 := 27) (pc' := 36) rfl (hb hby d1_27) rfl (tlt q2).1 (by decide) (by decide) k_) ?_
        show OwnGoJ p e below s _ _ _ (s₁.setTop (mkF m 36 #[.val (.int k)] []))
        exact L36 (by simp [own_al, *])
      · refine own_onJ (fun t_ k_ => XS.icmpNo X0.here hx rfl (hb hby d1_27) rfl (flt q2).1 k_) ?_
        show OwnGoJ p e below s _ _ _ (s₁.setTop (mkF m 30 #[.val (.int k)] []))
        refine own_onJ (fun t_ k_ => XS.iloadN X0.here hx rfl (hb hby d1_30) rfl k_) ?_
        show OwnGoJ p e below s _ _ _ (s₁.setTop (mkF m 31 #[.val (.int k)] [(.int k)]))
        refine own_onJ (fun t_ k_ => XS.bipush X0.here hx rfl (hb hby d1_31) k_) ?_
        show OwnGoJ p e below s _ _ _ (s₁.setTop (mkF m 33 #[.val (.int k)] [(.int (57 : Int32)), (.int k)]))
        by_cases q3 : (57 : Int32) < k
        · refine own_onJ (fun t_ k_ => XS.icmpNo X0.here hx rfl (hb hby d1_33) rfl (tlt q3).2.2.2 k_) ?_
          show OwnGoJ p e below s _ _ _ (s₁.setTop (mkF m 36 #[.val (.int k)] []))
          exact L36 (by simp [own_al, *])
        · refine own_onJ (fun t_ k_ => XS.icmpYes X0.here hx rfl (pc0 := 33) (pc' := 45) rfl (hb hby d1_33) rfl (flt q3).2.2.2 (by decide) (by decide) k_) ?_
          show OwnGoJ p e below s _ _ _ (s₁.setTop (mkF m 45 #[.val (.int k)] []))
          refine own_onJ (fun t_ k_ => XS.iconst X0.here hx rfl (hb hby d1_45) k_) ?_
          show OwnGoJ p e below s _ _ _ (s₁.setTop (mkF m 46 #[.val (.int k)] [(.int (1 : Int32))]))
          refine own_onJ (fun t_ k_ => XS.goto X0.here hx rfl (pc0 := 46) (pc' := 50) rfl (hb hby d1_46) (by decide) (by decide) k_) ?_
          show OwnGoJ p e below s _ _ _ (s₁.setTop (mkF m 50 #[.val (.int k)] [(.int (1 : Int32))]))
          have j9 := hJ0.warm X0.warmed
          exact own_retNJ X0 hx hlk (t := .boolean) Bd.returns (by simp) (hb hby d1_50) e0 ⟨(congrArg (fun z => some (Value.int z)) (by simp [own_tc, own_al, nar, *])), N0, K0, j9, P0⟩ (by decide) (by decide) hS0 (Nat.le_trans (Nat.zero_le _) (Nat.le_of_eq (congrArg Array.size e0.symm)))
    · refine own_onJ (fun t_ k_ => XS.icmpNo X0.here hx rfl (hb hby d1_15) rfl (flt q1).1 k_) ?_
      show OwnGoJ p e below s _ _ _ (s₁.setTop (mkF m 18 #[.val (.int k)] []))
      refine own_onJ (fun t_ k_ => XS.iloadN X0.here hx rfl (hb hby d1_18) rfl k_) ?_
      show OwnGoJ p e below s _ _ _ (s₁.setTop (mkF m 19 #[.val (.int k)] [(.int k)]))
      refine own_onJ (fun t_ k_ => XS.bipush X0.here hx rfl (hb hby d1_19) k_) ?_
      show OwnGoJ p e below s _ _ _ (s₁.setTop (mkF m 21 #[.val (.int k)] [(.int (90 : Int32)), (.int k)]))
      by_cases q2 : (90 : Int32) < k
      · refine own_onJ (fun t_ k_ => XS.icmpNo X0.here hx rfl (hb hby d1_21) rfl (tlt q2).2.2.2 k_) ?_
        show OwnGoJ p e below s _ _ _ (s₁.setTop (mkF m 24 #[.val (.int k)] []))
        refine own_onJ (fun t_ k_ => XS.iloadN X0.here hx rfl (hb hby d1_24) rfl k_) ?_
        show OwnGoJ p e below s _ _ _ (s₁.setTop (mkF m 25 #[.val (.int k)] [(.int k)]))
        refine own_onJ (fun t_ k_ => XS.bipush X0.here hx rfl (hb hby d1_25) k_) ?_
        show OwnGoJ p e below s _ _ _ (s₁.setTop (mkF m 27 #[.val (.int k)] [(.int (48 : Int32)), (.int k)]))
        by_cases q3 : k < (48 : Int32)
        · refine own_onJ (fun t_ k_ => XS.icmpYes X0.here hx rfl (pc0 := 27) (pc' := 36) rfl (hb hby d1_27) rfl (tlt q3).1 (by decide) (by decide) k_) ?_
          show OwnGoJ p e below s _ _ _ (s₁.setTop (mkF m 36 #[.val (.int k)] []))
          exact L36 (by simp [own_al, *])
        · refine own_onJ (fun t_ k_ => XS.icmpNo X0.here hx rfl (hb hby d1_27) rfl (flt q3).1 k_) ?_
          show OwnGoJ p e below s _ _ _ (s₁.setTop (mkF m 30 #[.val (.int k)] []))
          refine own_onJ (fun t_ k_ => XS.iloadN X0.here hx rfl (hb hby d1_30) rfl k_) ?_
          show OwnGoJ p e below s _ _ _ (s₁.setTop (mkF m 31 #[.val (.int k)] [(.int k)]))
          refine own_onJ (fun t_ k_ => XS.bipush X0.here hx rfl (hb hby d1_31) k_) ?_
          show OwnGoJ p e below s _ _ _ (s₁.setTop (mkF m 33 #[.val (.int k)] [(.int (57 : Int32)), (.int k)]))
          by_cases q4 : (57 : Int32) < k
          · refine own_onJ (fun t_ k_ => XS.icmpNo X0.here hx rfl (hb hby d1_33) rfl (tlt q4).2.2.2 k_) ?_
            show OwnGoJ p e below s _ _ _ (s₁.setTop (mkF m 36 #[.val (.int k)] []))
            exact L36 (by simp [own_al, *])
          · refine own_onJ (fun t_ k_ => XS.icmpYes X0.here hx rfl (pc0 := 33) (pc' := 45) rfl (hb hby d1_33) rfl (flt q4).2.2.2 (by decide) (by decide) k_) ?_
            show OwnGoJ p e below s _ _ _ (s₁.setTop (mkF m 45 #[.val (.int k)] []))
            refine own_onJ (fun t_ k_ => XS.iconst X0.here hx rfl (hb hby d1_45) k_) ?_
            show OwnGoJ p e below s _ _ _ (s₁.setTop (mkF m 46 #[.val (.int k)] [(.int (1 : Int32))]))
            refine own_onJ (fun t_ k_ => XS.goto X0.here hx rfl (pc0 := 46) (pc' := 50) rfl (hb hby d1_46) (by decide) (by decide) k_) ?_
            show OwnGoJ p e below s _ _ _ (s₁.setTop (mkF m 50 #[.val (.int k)] [(.int (1 : Int32))]))
            have j10 := hJ0.warm X0.warmed
            exact own_retNJ X0 hx hlk (t := .boolean) Bd.returns (by simp) (hb hby d1_50) e0 ⟨(congrArg (fun z => some (Value.int z)) (by simp [own_tc, own_al, nar, *])), N0, K0, j10, P0⟩ (by decide) (by decide) hS0 (Nat.le_trans (Nat.zero_le _) (Nat.le_of_eq (congrArg Array.size e0.symm)))
      · refine own_onJ (fun t_ k_ => XS.icmpYes X0.here hx rfl (pc0 := 21) (pc' := 45) rfl (hb hby d1_21) rfl (flt q2).2.2.2 (by decide) (by decide) k_) ?_
        show OwnGoJ p e below s _ _ _ (s₁.setTop (mkF m 45 #[.val (.int k)] []))
        refine own_onJ (fun t_ k_ => XS.iconst X0.here hx rfl (hb hby d1_45) k_) ?_
        show OwnGoJ p e below s _ _ _ (s₁.setTop (mkF m 46 #[.val (.int k)] [(.int (1 : Int32))]))
        refine own_onJ (fun t_ k_ => XS.goto X0.here hx rfl (pc0 := 46) (pc' := 50) rfl (hb hby d1_46) (by decide) (by decide) k_) ?_
        show OwnGoJ p e below s _ _ _ (s₁.setTop (mkF m 50 #[.val (.int k)] [(.int (1 : Int32))]))
        have j11 := hJ0.warm X0.warmed
        exact own_retNJ X0 hx hlk (t := .boolean) Bd.returns (by simp) (hb hby d1_50) e0 ⟨(congrArg (fun z => some (Value.int z)) (by simp [own_tc, own_al, nar, *])), N0, K0, j11, P0⟩ (by decide) (by decide) hS0 (Nat.le_trans (Nat.zero_le _) (Nat.le_of_eq (congrArg Array.size e0.symm)))
  · refine own_onJ (fun t_ k_ => XS.icmpNo X0.here hx rfl (hb hby d1_3) rfl (flt q0).1 k_) ?_
    show OwnGoJ p e below s _ _ _ (s₁.setTop (mkF m 6 #[.val (.int k)] []))
    refine own_onJ (fun t_ k_ => XS.iloadN X0.here hx rfl (hb hby d1_6) rfl k_) ?_
    show OwnGoJ p e below s _ _ _ (s₁.setTop (mkF m 7 #[.val (.int k)] [(.int k)]))
    refine own_onJ (fun t_ k_ => XS.bipush X0.here hx rfl (hb hby d1_7) k_) ?_
    show OwnGoJ p e below s _ _ _ (s₁.setTop (mkF m 9 #[.val (.int k)] [(.int (122 : Int32)), (.int k)]))
    by_cases q1 : (122 : Int32) < k
    · refine own_onJ (fun t_ k_ => XS.icmpNo X0.here hx rfl (hb hby d1_9) rfl (tlt q1).2.2.2 k_) ?_
      show OwnGoJ p e below s _ _ _ (s₁.setTop (mkF m 12 #[.val (.int k)] []))
      refine own_onJ (fun t_ k_ => XS.iloadN X0.here hx rfl (hb hby d1_12) rfl k_) ?_
      show OwnGoJ p e below s _ _ _ (s₁.setTop (mkF m 13 #[.val (.int k)] [(.int k)]))
      refine own_onJ (fun t_ k_ => XS.bipush X0.here hx rfl (hb hby d1_13) k_) ?_
      show OwnGoJ p e below s _ _ _ (s₁.setTop (mkF m 15 #[.val (.int k)] [(.int (65 : Int32)), (.int k)]))
      by_cases q2 : k < (65 : Int32)
      · refine own_onJ (fun t_ k_ => XS.icmpYes X0.here hx rfl (pc0 := 15) (pc' := 24) rfl (hb hby d1_15) rfl (tlt q2).1 (by decide) (by decide) k_) ?_
        show OwnGoJ p e below s _ _ _ (s₁.setTop (mkF m 24 #[.val (.int k)] []))
        refine own_onJ (fun t_ k_ => XS.iloadN X0.here hx rfl (hb hby d1_24) rfl k_) ?_
        show OwnGoJ p e below s _ _ _ (s₁.setTop (mkF m 25 #[.val (.int k)] [(.int k)]))
        refine own_onJ (fun t_ k_ => XS.bipush X0.here hx rfl (hb hby d1_25) k_) ?_
        show OwnGoJ p e below s _ _ _ (s₁.setTop (mkF m 27 #[.val (.int k)] [(.int (48 : Int32)), (.int k)]))
        by_cases q3 : k < (48 : Int32)
        · refine own_onJ (fun t_ k_ => XS.icmpYes X0.here hx rfl (pc0 := 27) (pc' := 36) rfl (hb hby d1_27) rfl (tlt q3).1 (by decide) (by decide) k_) ?_
          show OwnGoJ p e below s _ _ _ (s₁.setTop (mkF m 36 #[.val (.int k)] []))
          exact L36 (by simp [own_al, *])
        · refine own_onJ (fun t_ k_ => XS.icmpNo X0.here hx rfl (hb hby d1_27) rfl (flt q3).1 k_) ?_
          show OwnGoJ p e below s _ _ _ (s₁.setTop (mkF m 30 #[.val (.int k)] []))
          refine own_onJ (fun t_ k_ => XS.iloadN X0.here hx rfl (hb hby d1_30) rfl k_) ?_
          show OwnGoJ p e below s _ _ _ (s₁.setTop (mkF m 31 #[.val (.int k)] [(.int k)]))
          refine own_onJ (fun t_ k_ => XS.bipush X0.here hx rfl (hb hby d1_31) k_) ?_
          show OwnGoJ p e below s _ _ _ (s₁.setTop (mkF m 33 #[.val (.int k)] [(.int (57 : Int32)), (.int k)]))
          by_cases q4 : (57 : Int32) < k
          · refine own_onJ (fun t_ k_ => XS.icmpNo X0.here hx rfl (hb hby d1_33) rfl (tlt q4).2.2.2 k_) ?_
            show OwnGoJ p e below s _ _ _ (s₁.setTop (mkF m 36 #[.val (.int k)] []))
            exact L36 (by simp [own_al, *])
          · refine own_onJ (fun t_ k_ => XS.icmpYes X0.here hx rfl (pc0 := 33) (pc' := 45) rfl (hb hby d1_33) rfl (flt q4).2.2.2 (by decide) (by decide) k_) ?_
            show OwnGoJ p e below s _ _ _ (s₁.setTop (mkF m 45 #[.val (.int k)] []))
            refine own_onJ (fun t_ k_ => XS.iconst X0.here hx rfl (hb hby d1_45) k_) ?_
            show OwnGoJ p e below s _ _ _ (s₁.setTop (mkF m 46 #[.val (.int k)] [(.int (1 : Int32))]))
            refine own_onJ (fun t_ k_ => XS.goto X0.here hx rfl (pc0 := 46) (pc' := 50) rfl (hb hby d1_46) (by decide) (by decide) k_) ?_
            show OwnGoJ p e below s _ _ _ (s₁.setTop (mkF m 50 #[.val (.int k)] [(.int (1 : Int32))]))
            have j12 := hJ0.warm X0.warmed
            exact own_retNJ X0 hx hlk (t := .boolean) Bd.returns (by simp) (hb hby d1_50) e0 ⟨(congrArg (fun z => some (Value.int z)) (by simp [own_tc, own_al, nar, *])), N0, K0, j12, P0⟩ (by decide) (by decide) hS0 (Nat.le_trans (Nat.zero_le _) (Nat.le_of_eq (congrArg Array.size e0.symm)))
      · refine own_onJ (fun t_ k_ => XS.icmpNo X0.here hx rfl (hb hby d1_15) rfl (flt q2).1 k_) ?_
        show OwnGoJ p e below s _ _ _ (s₁.setTop (mkF m 18 #[.val (.int k)] []))
        refine own_onJ (fun t_ k_ => XS.iloadN X0.here hx rfl (hb hby d1_18) rfl k_) ?_
        show OwnGoJ p e below s _ _ _ (s₁.setTop (mkF m 19 #[.val (.int k)] [(.int k)]))
        refine own_onJ (fun t_ k_ => XS.bipush X0.here hx rfl (hb hby d1_19) k_) ?_
        show OwnGoJ p e below s _ _ _ (s₁.setTop (mkF m 21 #[.val (.int k)] [(.int (90 : Int32)), (.int k)]))
        by_cases q3 : (90 : Int32) < k
        · refine own_onJ (fun t_ k_ => XS.icmpNo X0.here hx rfl (hb hby d1_21) rfl (tlt q3).2.2.2 k_) ?_
          show OwnGoJ p e below s _ _ _ (s₁.setTop (mkF m 24 #[.val (.int k)] []))
          refine own_onJ (fun t_ k_ => XS.iloadN X0.here hx rfl (hb hby d1_24) rfl k_) ?_
          show OwnGoJ p e below s _ _ _ (s₁.setTop (mkF m 25 #[.val (.int k)] [(.int k)]))
          refine own_onJ (fun t_ k_ => XS.bipush X0.here hx rfl (hb hby d1_25) k_) ?_
          show OwnGoJ p e below s _ _ _ (s₁.setTop (mkF m 27 #[.val (.int k)] [(.int (48 : Int32)), (.int k)]))
          by_cases q4 : k < (48 : Int32)
          · refine own_onJ (fun t_ k_ => XS.icmpYes X0.here hx rfl (pc0 := 27) (pc' := 36) rfl (hb hby d1_27) rfl (tlt q4).1 (by decide) (by decide) k_) ?_
            show OwnGoJ p e below s _ _ _ (s₁.setTop (mkF m 36 #[.val (.int k)] []))
            exact L36 (by simp [own_al, *])
          · refine own_onJ (fun t_ k_ => XS.icmpNo X0.here hx rfl (hb hby d1_27) rfl (flt q4).1 k_) ?_
            show OwnGoJ p e below s _ _ _ (s₁.setTop (mkF m 30 #[.val (.int k)] []))
            refine own_onJ (fun t_ k_ => XS.iloadN X0.here hx rfl (hb hby d1_30) rfl k_) ?_
            show OwnGoJ p e below s _ _ _ (s₁.setTop (mkF m 31 #[.val (.int k)] [(.int k)]))
            refine own_onJ (fun t_ k_ => XS.bipush X0.here hx rfl (hb hby d1_31) k_) ?_
            show OwnGoJ p e below s _ _ _ (s₁.setTop (mkF m 33 #[.val (.int k)] [(.int (57 : Int32)), (.int k)]))
            by_cases q5 : (57 : Int32) < k
            · refine own_onJ (fun t_ k_ => XS.icmpNo X0.here hx rfl (hb hby d1_33) rfl (tlt q5).2.2.2 k_) ?_
              show OwnGoJ p e below s _ _ _ (s₁.setTop (mkF m 36 #[.val (.int k)] []))
              exact L36 (by simp [own_al, *])
            · refine own_onJ (fun t_ k_ => XS.icmpYes X0.here hx rfl (pc0 := 33) (pc' := 45) rfl (hb hby d1_33) rfl (flt q5).2.2.2 (by decide) (by decide) k_) ?_
              show OwnGoJ p e below s _ _ _ (s₁.setTop (mkF m 45 #[.val (.int k)] []))
              refine own_onJ (fun t_ k_ => XS.iconst X0.here hx rfl (hb hby d1_45) k_) ?_
              show OwnGoJ p e below s _ _ _ (s₁.setTop (mkF m 46 #[.val (.int k)] [(.int (1 : Int32))]))
              refine own_onJ (fun t_ k_ => XS.goto X0.here hx rfl (pc0 := 46) (pc' := 50) rfl (hb hby d1_46) (by decide) (by decide) k_) ?_
              show OwnGoJ p e below s _ _ _ (s₁.setTop (mkF m 50 #[.val (.int k)] [(.int (1 : Int32))]))
              have j13 := hJ0.warm X0.warmed
              exact own_retNJ X0 hx hlk (t := .boolean) Bd.returns (by simp) (hb hby d1_50) e0 ⟨(congrArg (fun z => some (Value.int z)) (by simp [own_tc, own_al, nar, *])), N0, K0, j13, P0⟩ (by decide) (by decide) hS0 (Nat.le_trans (Nat.zero_le _) (Nat.le_of_eq (congrArg Array.size e0.symm)))
        · refine own_onJ (fun t_ k_ => XS.icmpYes X0.here hx rfl (pc0 := 21) (pc' := 45) rfl (hb hby d1_21) rfl (flt q3).2.2.2 (by decide) (by decide) k_) ?_
          show OwnGoJ p e below s _ _ _ (s₁.setTop (mkF m 45 #[.val (.int k)] []))
          refine own_onJ (fun t_ k_ => XS.iconst X0.here hx rfl (hb hby d1_45) k_) ?_
          show OwnGoJ p e below s _ _ _ (s₁.setTop (mkF m 46 #[.val (.int k)] [(.int (1 : Int32))]))
          refine own_onJ (fun t_ k_ => XS.goto X0.here hx rfl (pc0 := 46) (pc' := 50) rfl (hb hby d1_46) (by decide) (by decide) k_) ?_
          show OwnGoJ p e below s _ _ _ (s₁.setTop (mkF m 50 #[.val (.int k)] [(.int (1 : Int32))]))
          have j14 := hJ0.warm X0.warmed
          exact own_retNJ X0 hx hlk (t := .boolean) Bd.returns (by simp) (hb hby d1_50) e0 ⟨(congrArg (fun z => some (Value.int z)) (by simp [own_tc, own_al, nar, *])), N0, K0, j14, P0⟩ (by decide) (by decide) hS0 (Nat.le_trans (Nat.zero_le _) (Nat.le_of_eq (congrArg Array.size e0.symm)))
    · refine own_onJ (fun t_ k_ => XS.icmpYes X0.here hx rfl (pc0 := 9) (pc' := 45) rfl (hb hby d1_9) rfl (flt q1).2.2.2 (by decide) (by decide) k_) ?_
      show OwnGoJ p e below s _ _ _ (s₁.setTop (mkF m 45 #[.val (.int k)] []))
      refine own_onJ (fun t_ k_ => XS.iconst X0.here hx rfl (hb hby d1_45) k_) ?_
      show OwnGoJ p e below s _ _ _ (s₁.setTop (mkF m 46 #[.val (.int k)] [(.int (1 : Int32))]))
      refine own_onJ (fun t_ k_ => XS.goto X0.here hx rfl (pc0 := 46) (pc' := 50) rfl (hb hby d1_46) (by decide) (by decide) k_) ?_
      show OwnGoJ p e below s _ _ _ (s₁.setTop (mkF m 50 #[.val (.int k)] [(.int (1 : Int32))]))
      have j15 := hJ0.warm X0.warmed
      exact own_retNJ X0 hx hlk (t := .boolean) Bd.returns (by simp) (hb hby d1_50) e0 ⟨(congrArg (fun z => some (Value.int z)) (by simp [own_tc, own_al, nar, *])), N0, K0, j15, P0⟩ (by decide) (by decide) hS0 (Nat.le_trans (Nat.zero_le _) (Nat.le_of_eq (congrArg Array.size e0.symm)))
theorem ef_0 (m : MethodId) (xx : Int32) (yy : Int32)  : entryFrame m #[(.int xx), (.int yy)] maxLocals = mkF m 0 #[.val (.int xx), .val (.int yy), .unset, .unset] [] := by first | (simp [entryFrame, mkF, argsToLocals, Value.category, maxLocals]; done) | rfl
def Q0 (Z : State) (xx : Int32) (yy : Int32) (cs : Int32) (h0 : Heap) (n0 : Nat) (v_ : Option Value) (vm_ : Vm) (h_ : Heap) (L_ : List Loc) : Prop := v_ = some (.int (1 : Int32)) ∧ Fr n0 L_ ∧ Keep h0 h_ []
set_option maxRecDepth 65536 in
set_option maxHeartbeats 40000000 in
theorem rm0 (l : Launch) (Z : State) (a0 : Array Value) (hw : ∀ d ∈ tables_1, d.before a0 Z = true) (ws : List Jvm.Cond) (xx : Int32) (yy : Int32) (cs : Int32) (h0 : Heap) (n0 : Nat) (Z0 : n0 ≤ h0.size) (P0 : Old Z n0 h0) (P1 : Sta Z Z.heap "java/lang/String" "COMPACT_STRINGS" "Z" (.int cs)) (P2 : ¬ (cs = (0 : Int32))) (P3 : Jvm.Lit.constHeld Z "org/pathbind/HeaderFields" 138) (P4 : Jvm.Lit.compactW.before a0 Z = true) :
    MetFree l x (head1 (Jvm.Cond.code x code maxLocals ret :: ws) room_1) (fun A_ U => A_ = #[(.int xx), (.int yy)] ∧ Z.Warmed39 U.vm ∧ U.heap = h0 ∧ OwnLd Z U.vm h0) (fun _ _ _ _ _ => True) (fun _ U_ o_ U'_ => ∃ v_ L_, o_ = .returned v_ ∧ Q0 Z xx yy cs h0 n0 v_ U'_.vm U'_.heap L_ ∧ ReturnedEndW U_ o_ U'_ L_ room_1.cells room_1.slots) := by
  refine MetFree.of_bodySF (plainFor_of_name pn_2) hisR ?_
  intro p e s m args below meth c s₁ Bd hml0 hP hK
  obtain ⟨rfl, hZ, hh, hJ⟩ := hP
  have hx := Bd.exec
  have hby := Bd.bytes
  have hml : c.maxLocals = 4 := hml0
  have hown : s.vm.findClass "org/pathbind/HeaderFieldsIsTokenCharacterPinLaw" = some m.cls := findClass_of_methodNamed Bd.named
  have hnm := (name_of_methodNamed Bd.named Bd.method).1
  have hlk : meth.locks = false := Bd.notSynchronized
  have X0 : Stand p l e room_1 s m #[(.int xx), (.int yy)] below meth c s₁ [] 0 0 := Stand.of_body Bd
  have e0 : s₁.heap = h0 := by rw [← hh, Bd.state]; rfl
  have N0 := Fr.nil n0
  have K0 : Keep h0 h0 [] := Keep.refl _ _
  have hJ0 : OwnLd Z (s.setVm s₁.vm).vm h0 := hJ.warm X0.warmed
  have hS0 : s.Since s₁.vm 0 := X0.warmed.since _
  have hZ : Z.Warmed39 (s.setVm s₁.vm).vm := wtrans hZ X0.warmed
  have hown : (s.setVm s₁.vm).vm.findClass "org/pathbind/HeaderFieldsIsTokenCharacterPinLaw" = some m.cls := (X0.warmed.alike.findClass _ _).trans hown
  have X0 := X0.retabled X0.warmed.wide
  have hml : c.maxLocals = 4 := hml
  refine own_castJ (ef_0 m xx yy) ?_
  show OwnGoJ p e below s (Q0 Z xx yy cs h0 n0) room_1.cells room_1.slots (s₁.setTop (mkF m 0 #[.val (.int xx), .val (.int yy), .unset, .unset] []))
  refine own_onJ (fun t_ k_ => XS.iloadN X0.here hx rfl (hb hby at_0) rfl k_) ?_
  show OwnGoJ p e below s _ _ _ (s₁.setTop (mkF m 1 #[.val (.int xx), .val (.int yy), .unset, .unset] [(.int yy)]))
  refine own_onJ (fun t_ k_ => XS.bipush X0.here hx rfl (hb hby at_1) k_) ?_
  show OwnGoJ p e below s _ _ _ (s₁.setTop (mkF m 3 #[.val (.int xx), .val (.int yy), .unset, .unset] [(.int (127 : Int32)), (.int yy)]))
  refine own_onJ (fun t_ k_ => XS.iand X0.here hx rfl (hb hby at_3) rfl k_) ?_
  show OwnGoJ p e below s _ _ _ (s₁.setTop (mkF m 4 #[.val (.int xx), .val (.int yy), .unset, .unset] [(.int (yy &&& (127 : Int32)))]))
  refine own_onJ (fun t_ k_ => XS.istoreN X0.here hx rfl (hb hby at_4) rfl (l' := #[.val (.int xx), .val (.int yy), .val (.int (yy &&& (127 : Int32))), .unset]) rfl k_) ?_
  show OwnGoJ p e below s _ _ _ (s₁.setTop (mkF m 5 #[.val (.int xx), .val (.int yy), .val (.int (yy &&& (127 : Int32))), .unset] []))
  refine own_onJ (fun t_ k_ => XS.iloadN X0.here hx rfl (hb hby at_5) rfl k_) ?_
  show OwnGoJ p e below s _ _ _ (s₁.setTop (mkF m 6 #[.val (.int xx), .val (.int yy), .val (.int (yy &&& (127 : Int32))), .unset] [(.int yy)]))
  refine own_onJ (fun t_ k_ => XS.bipush X0.here hx rfl (hb hby at_6) k_) ?_
  show OwnGoJ p e below s _ _ _ (s₁.setTop (mkF m 8 #[.val (.int xx), .val (.int yy), .val (.int (yy &&& (127 : Int32))), .unset] [(.int (7 : Int32)), (.int yy)]))
  refine own_onJ (fun t_ k_ => XS.iushr X0.here hx rfl (hb hby at_8) rfl k_) ?_
  show OwnGoJ p e below s _ _ _ (s₁.setTop (mkF m 9 #[.val (.int xx), .val (.int yy), .val (.int (yy &&& (127 : Int32))), .unset] [(.int ((yy.toUInt32 >>> ((7 : Int32) &&& 31).toUInt32).toInt32))]))
  refine own_onJ (fun t_ k_ => XS.sipush X0.here hx rfl (hb hby at_9) k_) ?_
  show OwnGoJ p e below s _ _ _ (s₁.setTop (mkF m 12 #[.val (.int xx), .val (.int yy), .val (.int (yy &&& (127 : Int32))), .unset] [(.int (511 : Int32)), (.int ((yy.toUInt32 >>> ((7 : Int32) &&& 31).toUInt32).toInt32))]))
  refine own_onJ (fun t_ k_ => XS.iand X0.here hx rfl (hb hby at_12) rfl k_) ?_
  show OwnGoJ p e below s _ _ _ (s₁.setTop (mkF m 13 #[.val (.int xx), .val (.int yy), .val (.int (yy &&& (127 : Int32))), .unset] [(.int (((yy.toUInt32 >>> ((7 : Int32) &&& 31).toUInt32).toInt32) &&& (511 : Int32)))]))
  refine own_onJ (fun t_ k_ => XS.istoreN X0.here hx rfl (hb hby at_13) rfl (l' := #[.val (.int xx), .val (.int yy), .val (.int (yy &&& (127 : Int32))), .val (.int (((yy.toUInt32 >>> ((7 : Int32) &&& 31).toUInt32).toInt32) &&& (511 : Int32)))]) rfl k_) ?_
  show OwnGoJ p e below s _ _ _ (s₁.setTop (mkF m 14 #[.val (.int xx), .val (.int yy), .val (.int (yy &&& (127 : Int32))), .val (.int (((yy.toUInt32 >>> ((7 : Int32) &&& 31).toUInt32).toInt32) &&& (511 : Int32)))] []))
  refine own_onJ (fun t_ k_ => XS.iloadN X0.here hx rfl (hb hby at_14) rfl k_) ?_
  show OwnGoJ p e below s _ _ _ (s₁.setTop (mkF m 15 #[.val (.int xx), .val (.int yy), .val (.int (yy &&& (127 : Int32))), .val (.int (((yy.toUInt32 >>> ((7 : Int32) &&& 31).toUInt32).toInt32) &&& (511 : Int32)))] [(.int xx)]))
  obtain ⟨_, _, ⟨T1, L1, k1, n1⟩, -, X1, hS1, hG1, ⟨Lc1, hQ1, l1, y1, z1⟩, st1⟩ := callSS X0 hx (y := (⟨"org/pathbind/HeaderFields", "isTokenCharacter", "(I)Z"⟩ : MethodName)) hown (mvT hZ (w0 hw)) (mvT hZ (w1 hw)) (mvT hZ (w2 hw)) (mvT hZ (w3 hw)) (by decide) (own_backJ (J := fun vm_ => OwnLd Z vm_ h0) (Q := Q1 Z xx cs h0 n0) (W := 0) (rm1 l Z a0 hw [] xx cs h0 n0 Z0 P0 P1 P2 P3 P4) hZ (w3 hw) (w2 hw) (by decide) (by decide)) (g := (mkF m 15 #[.val (.int xx), .val (.int yy), .val (.int (yy &&& (127 : Int32))), .val (.int (((yy.toUInt32 >>> ((7 : Int32) &&& 31).toUInt32).toInt32) &&& (511 : Int32)))] [(.int xx)])) rfl (by rw [hml]; rfl) (argsL := [(.int xx)]) (rest := []) (lenOf pd_1 rfl) rfl (by show 2 * 0 + _ ≤ _; exact Nat.le_of_eq rfl) (hb hby at_15) (fun _ hWx => ⟨rfl, e0, hJ0.warm hWx, (by decide : 0 + 2 ≤ _), (by decide : 0 + 64 ≤ _)⟩)
  dsimp only [Pt.U, Pt.locs, Pt.cells, Pt.slots] at X1 l1 y1 z1 st1 hQ1 hS1 hG1
  obtain ⟨X1, hS1, hZ, hown⟩ := rebS hS0 (Nat.le_trans (Nat.zero_le _) (Nat.le_of_eq (congrArg Array.size e0.symm))) X1 hS1 hG1 hZ hown
  replace X1 := own_num (c' := 2) (n' := 64) X1 l1 (y1.trans rfl) (z1.trans rfl)
  obtain ⟨rfl, N1q, K1q, c1_0, c1_1⟩ := hQ1
  have N1 := Fr.app N0 N1q
  have Z1 : n0 ≤ T1.heap.size := Nat.le_trans Z0 K1q.1
  have K1 : Keep h0 T1.heap [] := K0.trans K1q all0
  have hk1 : T1.heap.size ≤ T1.heap.size := Nat.le_refl _
  refine own_trJ st1 ?_
  show OwnGoJ p e below s _ _ _ (T1.setTop (mkF m 18 #[.val (.int xx), .val (.int yy), .val (.int (yy &&& (127 : Int32))), .val (.int (((yy.toUInt32 >>> ((7 : Int32) &&& 31).toUInt32).toInt32) &&& (511 : Int32)))] [(.int (own_tc xx))]))
  refine own_onJ (fun t_ k_ => XS.iloadN X1.here hx rfl (hb hby at_18) rfl k_) ?_
  show OwnGoJ p e below s _ _ _ (T1.setTop (mkF m 19 #[.val (.int xx), .val (.int yy), .val (.int (yy &&& (127 : Int32))), .val (.int (((yy.toUInt32 >>> ((7 : Int32) &&& 31).toUInt32).toInt32) &&& (511 : Int32)))] [(.int xx), (.int (own_tc xx))]))
  obtain ⟨_, _, ⟨T2, L2, k2, n2⟩, -, X2, ⟨Lc2, hQ2, l2, y2, z2⟩, st2⟩ := Jvm.LawKit.callS X1 hx (y := (⟨"org/pathbind/HeaderFieldsIsTokenCharacterPinLaw", "ref", "(I)Z"⟩ : MethodName)) hown (mvT hZ (w57 hw)) (mvT hZ (w58 hw)) (mvT hZ (w59 hw)) (mvT hZ (w60 hw)) (by decide) (backOf (W := 1) (rm12 l Z a0 hw [] xx T1.heap n0 Z1 ) hZ (w60 hw) (w59 hw) (by decide) (by decide)) (g := (mkF m 19 #[.val (.int xx), .val (.int yy), .val (.int (yy &&& (127 : Int32))), .val (.int (((yy.toUInt32 >>> ((7 : Int32) &&& 31).toUInt32).toInt32) &&& (511 : Int32)))] [(.int xx), (.int (own_tc xx))])) rfl (by rw [hml]; rfl) (argsL := [(.int xx)]) (rest := [(.int (own_tc xx))]) (lenOf pd_1 rfl) rfl (by show 2 * 0 + _ ≤ _; exact Nat.le_of_eq rfl) (hb hby at_19) (fun _ hWx => ⟨rfl, rfl, (by decide : 2 + 0 ≤ _), (by decide : 64 + 0 ≤ _)⟩)
  dsimp only [Pt.U, Pt.locs, Pt.cells, Pt.slots] at X2 l2 y2 z2 st2 hQ2
  replace X2 := own_num (c' := 2) (n' := 64) X2 l2 (y2.trans rfl) (z2.trans rfl)
  obtain ⟨rfl, N2q, e2⟩ := hQ2
  have N2 := Fr.app N1 N2q
  refine own_onJ st2 ?_
  show OwnGoJ p e below s _ _ _ (T2.setTop (mkF m 22 #[.val (.int xx), .val (.int yy), .val (.int (yy &&& (127 : Int32))), .val (.int (((yy.toUInt32 >>> ((7 : Int32) &&& 31).toUInt32).toInt32) &&& (511 : Int32)))] [(.int (own_rf xx)), (.int (own_tc xx))]))
  refine own_onJ (fun t_ k_ => XS.icmpNo X2.here hx rfl (hb hby at_22) rfl (teq (own_eq _ : (own_tc xx) = (own_rf xx))).2 k_) ?_
  show OwnGoJ p e below s _ _ _ (T2.setTop (mkF m 25 #[.val (.int xx), .val (.int yy), .val (.int (yy &&& (127 : Int32))), .val (.int (((yy.toUInt32 >>> ((7 : Int32) &&& 31).toUInt32).toInt32) &&& (511 : Int32)))] []))
  refine own_onJ (fun t_ k_ => XS.iloadN X2.here hx rfl (hb hby at_25) rfl k_) ?_
  show OwnGoJ p e below s _ _ _ (T2.setTop (mkF m 26 #[.val (.int xx), .val (.int yy), .val (.int (yy &&& (127 : Int32))), .val (.int (((yy.toUInt32 >>> ((7 : Int32) &&& 31).toUInt32).toInt32) &&& (511 : Int32)))] [(.int (yy &&& (127 : Int32)))]))
  obtain ⟨_, _, ⟨T3, L3, k3, n3⟩, -, X3, hS3, hG3, ⟨Lc3, hQ3, l3, y3, z3⟩, st3⟩ := callSS X2 hx (y := (⟨"org/pathbind/HeaderFields", "isTokenCharacter", "(I)Z"⟩ : MethodName)) hown (mvT hZ (w0 hw)) (mvT hZ (w1 hw)) (mvT hZ (w2 hw)) (mvT hZ (w3 hw)) (by decide) (own_backJ (J := fun vm_ => OwnLd Z vm_ T1.heap) (Q := Q1 Z (yy &&& (127 : Int32)) cs T1.heap n0) (W := 0) (rm1 l Z a0 hw [] (yy &&& (127 : Int32)) cs T1.heap n0 Z1 c1_1 P1 P2 P3 P4) hZ (w3 hw) (w2 hw) (by decide) (by decide)) (g := (mkF m 26 #[.val (.int xx), .val (.int yy), .val (.int (yy &&& (127 : Int32))), .val (.int (((yy.toUInt32 >>> ((7 : Int32) &&& 31).toUInt32).toInt32) &&& (511 : Int32)))] [(.int (yy &&& (127 : Int32)))])) rfl (by rw [hml]; rfl) (argsL := [(.int (yy &&& (127 : Int32)))]) (rest := []) (lenOf pd_1 rfl) rfl (by show 2 * 0 + _ ≤ _; exact Nat.le_of_eq rfl) (hb hby at_26) (fun _ hWx => ⟨rfl, e2, c1_0.warm hWx, (by decide : 2 + 2 ≤ _), (by decide : 64 + 64 ≤ _)⟩)
  dsimp only [Pt.U, Pt.locs, Pt.cells, Pt.slots] at X3 l3 y3 z3 st3 hQ3 hS3 hG3
  obtain ⟨X3, hS3, hZ, hown⟩ := rebS hS1 (Nat.le_trans hk1 (Nat.le_of_eq (congrArg Array.size e2.symm))) X3 hS3 hG3 hZ hown
  replace X3 := own_num (c' := 4) (n' := 128) X3 l3 (y3.trans rfl) (z3.trans rfl)
  obtain ⟨rfl, N3q, K3q, c3_0, c3_1⟩ := hQ3
  have N3 := Fr.app N2 N3q
  have Z3 : n0 ≤ T3.heap.size := Nat.le_trans Z1 K3q.1
  have K3 : Keep h0 T3.heap [] := K1.trans K3q all0
  have hk3 : T3.heap.size ≤ T3.heap.size := Nat.le_refl _
  refine own_trJ st3 ?_
  show OwnGoJ p e below s _ _ _ (T3.setTop (mkF m 29 #[.val (.int xx), .val (.int yy), .val (.int (yy &&& (127 : Int32))), .val (.int (((yy.toUInt32 >>> ((7 : Int32) &&& 31).toUInt32).toInt32) &&& (511 : Int32)))] [(.int (own_tc (yy &&& (127 : Int32))))]))
  refine own_onJ (fun t_ k_ => XS.iloadN X3.here hx rfl (hb hby at_29) rfl k_) ?_
  show OwnGoJ p e below s _ _ _ (T3.setTop (mkF m 30 #[.val (.int xx), .val (.int yy), .val (.int (yy &&& (127 : Int32))), .val (.int (((yy.toUInt32 >>> ((7 : Int32) &&& 31).toUInt32).toInt32) &&& (511 : Int32)))] [(.int (yy &&& (127 : Int32))), (.int (own_tc (yy &&& (127 : Int32))))]))
  obtain ⟨_, _, ⟨T4, L4, k4, n4⟩, -, X4, ⟨Lc4, hQ4, l4, y4, z4⟩, st4⟩ := Jvm.LawKit.callS X3 hx (y := (⟨"org/pathbind/HeaderFieldsIsTokenCharacterPinLaw", "ref", "(I)Z"⟩ : MethodName)) hown (mvT hZ (w57 hw)) (mvT hZ (w58 hw)) (mvT hZ (w59 hw)) (mvT hZ (w60 hw)) (by decide) (backOf (W := 1) (rm12 l Z a0 hw [] (yy &&& (127 : Int32)) T3.heap n0 Z3 ) hZ (w60 hw) (w59 hw) (by decide) (by decide)) (g := (mkF m 30 #[.val (.int xx), .val (.int yy), .val (.int (yy &&& (127 : Int32))), .val (.int (((yy.toUInt32 >>> ((7 : Int32) &&& 31).toUInt32).toInt32) &&& (511 : Int32)))] [(.int (yy &&& (127 : Int32))), (.int (own_tc (yy &&& (127 : Int32))))])) rfl (by rw [hml]; rfl) (argsL := [(.int (yy &&& (127 : Int32)))]) (rest := [(.int (own_tc (yy &&& (127 : Int32))))]) (lenOf pd_1 rfl) rfl (by show 2 * 0 + _ ≤ _; exact Nat.le_of_eq rfl) (hb hby at_30) (fun _ hWx => ⟨rfl, rfl, (by decide : 4 + 0 ≤ _), (by decide : 128 + 0 ≤ _)⟩)
  dsimp only [Pt.U, Pt.locs, Pt.cells, Pt.slots] at X4 l4 y4 z4 st4 hQ4
  replace X4 := own_num (c' := 4) (n' := 128) X4 l4 (y4.trans rfl) (z4.trans rfl)
  obtain ⟨rfl, N4q, e4⟩ := hQ4
  have N4 := Fr.app N3 N4q
  refine own_onJ st4 ?_
  show OwnGoJ p e below s _ _ _ (T4.setTop (mkF m 33 #[.val (.int xx), .val (.int yy), .val (.int (yy &&& (127 : Int32))), .val (.int (((yy.toUInt32 >>> ((7 : Int32) &&& 31).toUInt32).toInt32) &&& (511 : Int32)))] [(.int (own_rf (yy &&& (127 : Int32)))), (.int (own_tc (yy &&& (127 : Int32))))]))
  refine own_onJ (fun t_ k_ => XS.icmpNo X4.here hx rfl (hb hby at_33) rfl (teq (own_eq _ : (own_tc (yy &&& (127 : Int32))) = (own_rf (yy &&& (127 : Int32))))).2 k_) ?_
  show OwnGoJ p e below s _ _ _ (T4.setTop (mkF m 36 #[.val (.int xx), .val (.int yy), .val (.int (yy &&& (127 : Int32))), .val (.int (((yy.toUInt32 >>> ((7 : Int32) &&& 31).toUInt32).toInt32) &&& (511 : Int32)))] []))
  refine own_onJ (fun t_ k_ => XS.iloadN X4.here hx rfl (hb hby at_36) rfl k_) ?_
  show OwnGoJ p e below s _ _ _ (T4.setTop (mkF m 37 #[.val (.int xx), .val (.int yy), .val (.int (yy &&& (127 : Int32))), .val (.int (((yy.toUInt32 >>> ((7 : Int32) &&& 31).toUInt32).toInt32) &&& (511 : Int32)))] [(.int (((yy.toUInt32 >>> ((7 : Int32) &&& 31).toUInt32).toInt32) &&& (511 : Int32)))]))
  obtain ⟨_, _, ⟨T5, L5, k5, n5⟩, -, X5, hS5, hG5, ⟨Lc5, hQ5, l5, y5, z5⟩, st5⟩ := callSS X4 hx (y := (⟨"org/pathbind/HeaderFields", "isTokenCharacter", "(I)Z"⟩ : MethodName)) hown (mvT hZ (w0 hw)) (mvT hZ (w1 hw)) (mvT hZ (w2 hw)) (mvT hZ (w3 hw)) (by decide) (own_backJ (J := fun vm_ => OwnLd Z vm_ T3.heap) (Q := Q1 Z (((yy.toUInt32 >>> ((7 : Int32) &&& 31).toUInt32).toInt32) &&& (511 : Int32)) cs T3.heap n0) (W := 0) (rm1 l Z a0 hw [] (((yy.toUInt32 >>> ((7 : Int32) &&& 31).toUInt32).toInt32) &&& (511 : Int32)) cs T3.heap n0 Z3 c3_1 P1 P2 P3 P4) hZ (w3 hw) (w2 hw) (by decide) (by decide)) (g := (mkF m 37 #[.val (.int xx), .val (.int yy), .val (.int (yy &&& (127 : Int32))), .val (.int (((yy.toUInt32 >>> ((7 : Int32) &&& 31).toUInt32).toInt32) &&& (511 : Int32)))] [(.int (((yy.toUInt32 >>> ((7 : Int32) &&& 31).toUInt32).toInt32) &&& (511 : Int32)))])) rfl (by rw [hml]; rfl) (argsL := [(.int (((yy.toUInt32 >>> ((7 : Int32) &&& 31).toUInt32).toInt32) &&& (511 : Int32)))]) (rest := []) (lenOf pd_1 rfl) rfl (by show 2 * 0 + _ ≤ _; exact Nat.le_of_eq rfl) (hb hby at_37) (fun _ hWx => ⟨rfl, e4, c3_0.warm hWx, (by decide : 4 + 2 ≤ _), (by decide : 128 + 64 ≤ _)⟩)
  dsimp only [Pt.U, Pt.locs, Pt.cells, Pt.slots] at X5 l5 y5 z5 st5 hQ5 hS5 hG5
  obtain ⟨X5, hS5, hZ, hown⟩ := rebS hS3 (Nat.le_trans hk3 (Nat.le_of_eq (congrArg Array.size e4.symm))) X5 hS5 hG5 hZ hown
  replace X5 := own_num (c' := 6) (n' := 192) X5 l5 (y5.trans rfl) (z5.trans rfl)
  obtain ⟨rfl, N5q, K5q, c5_0, c5_1⟩ := hQ5
  have N5 := Fr.app N4 N5q
  have Z5 : n0 ≤ T5.heap.size := Nat.le_trans Z3 K5q.1
  have K5 : Keep h0 T5.heap [] := K3.trans K5q all0
  have hk5 : T5.heap.size ≤ T5.heap.size := Nat.le_refl _
  refine own_trJ st5 ?_
  show OwnGoJ p e below s _ _ _ (T5.setTop (mkF m 40 #[.val (.int xx), .val (.int yy), .val (.int (yy &&& (127 : Int32))), .val (.int (((yy.toUInt32 >>> ((7 : Int32) &&& 31).toUInt32).toInt32) &&& (511 : Int32)))] [(.int (own_tc (((yy.toUInt32 >>> ((7 : Int32) &&& 31).toUInt32).toInt32) &&& (511 : Int32))))]))
  refine own_onJ (fun t_ k_ => XS.iloadN X5.here hx rfl (hb hby at_40) rfl k_) ?_
  show OwnGoJ p e below s _ _ _ (T5.setTop (mkF m 41 #[.val (.int xx), .val (.int yy), .val (.int (yy &&& (127 : Int32))), .val (.int (((yy.toUInt32 >>> ((7 : Int32) &&& 31).toUInt32).toInt32) &&& (511 : Int32)))] [(.int (((yy.toUInt32 >>> ((7 : Int32) &&& 31).toUInt32).toInt32) &&& (511 : Int32))), (.int (own_tc (((yy.toUInt32 >>> ((7 : Int32) &&& 31).toUInt32).toInt32) &&& (511 : Int32))))]))
  obtain ⟨_, _, ⟨T6, L6, k6, n6⟩, -, X6, ⟨Lc6, hQ6, l6, y6, z6⟩, st6⟩ := Jvm.LawKit.callS X5 hx (y := (⟨"org/pathbind/HeaderFieldsIsTokenCharacterPinLaw", "ref", "(I)Z"⟩ : MethodName)) hown (mvT hZ (w57 hw)) (mvT hZ (w58 hw)) (mvT hZ (w59 hw)) (mvT hZ (w60 hw)) (by decide) (backOf (W := 1) (rm12 l Z a0 hw [] (((yy.toUInt32 >>> ((7 : Int32) &&& 31).toUInt32).toInt32) &&& (511 : Int32)) T5.heap n0 Z5 ) hZ (w60 hw) (w59 hw) (by decide) (by decide)) (g := (mkF m 41 #[.val (.int xx), .val (.int yy), .val (.int (yy &&& (127 : Int32))), .val (.int (((yy.toUInt32 >>> ((7 : Int32) &&& 31).toUInt32).toInt32) &&& (511 : Int32)))] [(.int (((yy.toUInt32 >>> ((7 : Int32) &&& 31).toUInt32).toInt32) &&& (511 : Int32))), (.int (own_tc (((yy.toUInt32 >>> ((7 : Int32) &&& 31).toUInt32).toInt32) &&& (511 : Int32))))])) rfl (by rw [hml]; rfl) (argsL := [(.int (((yy.toUInt32 >>> ((7 : Int32) &&& 31).toUInt32).toInt32) &&& (511 : Int32)))]) (rest := [(.int (own_tc (((yy.toUInt32 >>> ((7 : Int32) &&& 31).toUInt32).toInt32) &&& (511 : Int32))))]) (lenOf pd_1 rfl) rfl (by show 2 * 0 + _ ≤ _; exact Nat.le_of_eq rfl) (hb hby at_41) (fun _ hWx => ⟨rfl, rfl, (by decide : 6 + 0 ≤ _), (by decide : 192 + 0 ≤ _)⟩)
  dsimp only [Pt.U, Pt.locs, Pt.cells, Pt.slots] at X6 l6 y6 z6 st6 hQ6
  replace X6 := own_num (c' := 6) (n' := 192) X6 l6 (y6.trans rfl) (z6.trans rfl)
  obtain ⟨rfl, N6q, e6⟩ := hQ6
  have N6 := Fr.app N5 N6q
  refine own_onJ st6 ?_
  show OwnGoJ p e below s _ _ _ (T6.setTop (mkF m 44 #[.val (.int xx), .val (.int yy), .val (.int (yy &&& (127 : Int32))), .val (.int (((yy.toUInt32 >>> ((7 : Int32) &&& 31).toUInt32).toInt32) &&& (511 : Int32)))] [(.int (own_rf (((yy.toUInt32 >>> ((7 : Int32) &&& 31).toUInt32).toInt32) &&& (511 : Int32)))), (.int (own_tc (((yy.toUInt32 >>> ((7 : Int32) &&& 31).toUInt32).toInt32) &&& (511 : Int32))))]))
  refine own_onJ (fun t_ k_ => XS.icmpNo X6.here hx rfl (hb hby at_44) rfl (teq (own_eq _ : (own_tc (((yy.toUInt32 >>> ((7 : Int32) &&& 31).toUInt32).toInt32) &&& (511 : Int32))) = (own_rf (((yy.toUInt32 >>> ((7 : Int32) &&& 31).toUInt32).toInt32) &&& (511 : Int32))))).2 k_) ?_
  show OwnGoJ p e below s _ _ _ (T6.setTop (mkF m 47 #[.val (.int xx), .val (.int yy), .val (.int (yy &&& (127 : Int32))), .val (.int (((yy.toUInt32 >>> ((7 : Int32) &&& 31).toUInt32).toInt32) &&& (511 : Int32)))] []))
  refine own_onJ (fun t_ k_ => XS.iconst X6.here hx rfl (hb hby at_47) k_) ?_
  show OwnGoJ p e below s _ _ _ (T6.setTop (mkF m 48 #[.val (.int xx), .val (.int yy), .val (.int (yy &&& (127 : Int32))), .val (.int (((yy.toUInt32 >>> ((7 : Int32) &&& 31).toUInt32).toInt32) &&& (511 : Int32)))] [(.int (1 : Int32))]))
  refine own_onJ (fun t_ k_ => XS.goto X6.here hx rfl (pc0 := 48) (pc' := 52) rfl (hb hby at_48) (by decide) (by decide) k_) ?_
  show OwnGoJ p e below s _ _ _ (T6.setTop (mkF m 52 #[.val (.int xx), .val (.int yy), .val (.int (yy &&& (127 : Int32))), .val (.int (((yy.toUInt32 >>> ((7 : Int32) &&& 31).toUInt32).toInt32) &&& (511 : Int32)))] [(.int (1 : Int32))]))
  exact own_retNJ X6 hx hlk (t := .boolean) Bd.returns (by simp) (hb hby at_52) e6 ⟨rfl, N6, K5⟩ (by decide) (by decide) hS5 (Nat.le_trans hk5 (Nat.le_of_eq (congrArg Array.size e6.symm)))
set_option maxRecDepth 65536 in
set_option maxHeartbeats 40000000 in
theorem comes_1 {Post : Tables → Env → Array Value → State → Outcome → State → Prop} (hpost : ∀ tb e args s v u, (limb_1_1.after args s (.returned v) u = true ∧ limb_1_2.after args s (.returned v) u = true ∧ True) → ReturnedEndW s (.returned v) u (Jvm.fieldLocs frame_1_writes args s ++ Jvm.arrayLocs frame_1_arrays args s ++ Jvm.staticLocs frame_1_statics s) 8 1088 → Post tb e args s (.returned v) u) :
    ArmFor flags0 classFile x code maxLocals ret World_1 tables_1 room_1 Calls_1 rest_1 Pre_1 Post := by
  intro l hfl _ _ p e ha hc hk s m args below hf hA hF happ hP
  obtain ⟨hcalls, hrest, hpre⟩ := hP
  obtain ⟨-, -, -, hnamed, -, -, -, hat⟩ := (Spec.applies_iff hf).mp happ
  obtain ⟨hg, hn⟩ := and_e (Cond.before_iff.mp (show (Jvm.Cond.and given_1 narrow_1).before args s = true from hpre))
  obtain ⟨gc, gr0⟩ := and_e hg
  obtain ⟨gi0, gr1⟩ := and_e gr0
  have gi1 := gr1
  obtain ⟨w_0, w_1, rfl⟩ : ∃ w_0 w_1 : Value, args = #[w_0, w_1] := by
    have hs : args.size = 2 := by simpa [Cond.value, given_1] using gc
    obtain ⟨L⟩ := args
    match L, hs with
    | [w_0, w_1], _ => exact ⟨w_0, w_1, rfl⟩
  have hw := fun d (hd : d ∈ tables_1) => atoms_spec (ws := Jvm.Cond.code x code maxLocals ret :: tables_1) hat d (List.mem_cons_of_mem _ hd)
  have hfit : Fit s := fun {y c} hc i hi => by
    obtain ⟨ha, rfl⟩ := Array.getElem?_eq_some_iff.mp hc
    have q := List.all_eq_true.mp ((Array.all_eq_true_iff_forall_mem.mp hF) _ (Array.getElem_mem ha)) i (List.mem_range.mpr hi)
    simpa [Array.getElem?_eq_getElem hi] using q
  obtain ⟨hsets, hown0⟩ := atoms_of _ (rest_1_c_eq ▸ (show rest_1_c.before _ s = true from hrest))
  obtain ⟨i0, ei0⟩ := is_v gi0
  obtain rfl : w_0 = (.int i0) := Option.some.inj ei0
  obtain ⟨i1, ei1⟩ := is_v gi1
  obtain rfl : w_1 = (.int i1) := Option.some.inj ei1
  obtain ⟨cs, ecs⟩ := is_v (Cond.before_iff.mp (hsets _ (List.mem_of_getElem? (i := 1) rfl)))
  obtain ⟨n, o, h1, h2, h3, _, L, rfl, ⟨rfl, N, _⟩, hq⟩ := rm0 l s _ hw tables_1 i0 i1 cs s.heap s.heap.size (Nat.le_refl _) (Old.start s) (Sta.start ecs (Or.inl (hsets _ (List.mem_of_getElem? (i := 0) rfl)))) (own_nz ecs (Cond.before_iff.mp (hsets _ (List.mem_of_getElem? (i := 2) rfl)))) (hcalls.1 ("org/pathbind/HeaderFields", 138) (by simp [consts_1])) (hsets _ (List.mem_of_getElem? (i := 2) rfl)) p e ha hc hk s m _ below hf ((Spec.applies_iff_loose hf).mp happ).1 ⟨rfl, State.Warmed39.refl s, rfl, Or.inl IB.start⟩ trivial
  refine ⟨n, _, h1, h2, h3, hpost _ _ _ _ _ _ ⟨Cond.after_iff.mpr rfl, Cond.after_iff.mpr (eq_i res_at (Term.int_eval (1)) rfl), trivial⟩ ⟨hq.1, hq.2.1, hq.2.2.1, (hq.2.2.2.sift fun y hy => Or.inr (N y hy)).mono (by decide) (by decide)⟩⟩
theorem main_1_1 : Claimed_1_1 := comes_1 fun _ _ _ _ _ _ h hF => ⟨h.1, hF⟩
theorem main_1_2 : Claimed_1_2 := comes_1 fun _ _ _ _ _ _ h hF => ⟨h.2.1, hF⟩
end Jvm.Pilot.@@N@@
namespace Jvm.Pilot.@@N@@
open Jvm Jvm.ClassFile Sem Op Lib Jvm.Free Jvm.Stand Jvm.Pilot.@@N@@.Jvm.D
/-! MADE BY PROGRAM (witnessworld.py) out of the Statement's table words and the real class files: 18 classes; the members and pool entries that the words name. The judged class is class 1, her method 3. -/
namespace start1
open Jvm.ClassFile
def u (s : String) : CpInfo := .utf8 (stringToUtf16 s)
/-- a pool by its gaps: so many unusable entries, then the entry; so many at the end -/
def gap : Nat → List CpInfo → List CpInfo
  | 0, r => r
  | n + 1, r => .unusable :: gap n r
def poolList (es : List (Nat × CpInfo)) (last : Nat) : List CpInfo := es.foldr (fun e r => gap e.1 (e.2 :: r)) (gap last [])
def pool (es : List (Nat × CpInfo)) (last : Nat) : Array CpInfo := ⟨poolList es last⟩
def fileOf (pool : Array CpInfo) (this : Nat) (attrs : Array Attribute := #[]) (ms : Array MethodInfo := #[]) (fl : Nat := 33) (sup : Nat := 0) (ifs : Array Nat := #[]) (fds : Array FieldInfo := #[]) : ClassFile where
  minorVersion := 0
  majorVersion := 65
  constantPool := pool
  accessFlags := fl
  thisClass := this
  superClass := sup
  interfaces := ifs
  fields := fds
  methods := ms
  attributes := attrs
def plain (name : String) (sup : Option ClassId) : Class where
  name := name
  kind := .ordinary
  loader := none
  accessFlags := 33
  super := sup
  interfaces := #[]
  cf := none
  fields := #[]
  methods := #[]
  instanceTypes := #[]
  staticTypes := #[]
  resolved := #[]
  callSites := []
  init := .initialized
  statics := none
  mirror := none

def pool0 : Array CpInfo := pool [(5, u "<init>"), (0, u "()V"), (1, .class_ 10), (1, u "java/lang/Object")] 113

def k0m0 : Method := { name := "<init>", desc := "()V", sig := { parameters := [], returnType := none }, accessFlags := 1, code := none }
/-- java/lang/Object -/
def k0 : Class := { plain "java/lang/Object" none with
  accessFlags := 33
  interfaces := #[]
  cf := some (fileOf pool0 8 #[] #[{ accessFlags := 1, nameIndex := 5, descriptorIndex := 6, attributes := #[] }] 33 0 #[] #[])
  fields := #[]
  methods := #[k0m0]
  instanceTypes := #[]
  staticTypes := #[]
  resolved := Array.replicate 124 none
  statics := none }

def pool1 : Array CpInfo := pool [(2, .class_ 4), (1, u "java/lang/Object"), (0, u "<init>"), (0, u "()V"), (0, .methodref 8 9), (0, .class_ 10), (0, .nameAndType 11 12), (0, u "org/pathbind/HeaderFieldsIsTokenCharacterPinLaw"), (0, u "isDelimiter"), (0, u "(I)Z"), (0, .methodref 14 15), (0, .class_ 16), (0, .nameAndType 17 12), (0, u "org/pathbind/HeaderFields"), (0, u "isTokenCharacter"), (0, .methodref 8 19), (0, .nameAndType 20 12), (0, u "ref"), (3, u "law"), (0, u "(II)Z")] 2

def k1m0 : Method := { name := "<init>", desc := "()V", sig := { parameters := [], returnType := none }, accessFlags := 2, code := none }
def k1c1 : Code := { maxStack := 2, maxLocals := 1, code := method_2_code, exceptionTable := #[], attributes := #[] }
def k1m1 : Method := { name := "isDelimiter", desc := "(I)Z", sig := { parameters := [.int], returnType := some .boolean }, accessFlags := 10, code := some k1c1 }
def k1c2 : Code := { maxStack := 2, maxLocals := 1, code := method_3_code, exceptionTable := #[], attributes := #[] }
def k1m2 : Method := { name := "ref", desc := "(I)Z", sig := { parameters := [.int], returnType := some .boolean }, accessFlags := 10, code := some k1c2 }
def k1c3 : Code := { maxStack := 2, maxLocals := 4, code := code, exceptionTable := #[], attributes := #[] }
def k1m3 : Method := { name := "law", desc := "(II)Z", sig := { parameters := [.int, .int], returnType := some .boolean }, accessFlags := 9, code := some k1c3 }
/-- org/pathbind/HeaderFieldsIsTokenCharacterPinLaw -/
def k1 : Class := { plain "org/pathbind/HeaderFieldsIsTokenCharacterPinLaw" (some 0) with
  accessFlags := 49
  interfaces := #[]
  cf := some (fileOf pool1 8 #[] #[{ accessFlags := 2, nameIndex := 5, descriptorIndex := 6, attributes := #[] }, { accessFlags := 10, nameIndex := 11, descriptorIndex := 12, attributes := #[] }, { accessFlags := 10, nameIndex := 20, descriptorIndex := 12, attributes := #[] }, { accessFlags := 9, nameIndex := 24, descriptorIndex := 25, attributes := #[] }] 49 2 #[] #[])
  fields := #[]
  methods := #[k1m0, k1m1, k1m2, k1m3]
  instanceTypes := #[]
  staticTypes := #[]
  resolved := Array.replicate 28 none
  statics := none }

def pool2 : Array CpInfo := pool [(2, .class_ 4), (1, u "java/lang/Object"), (3, .class_ 10), (1, u "org/pathbind/HeaderFields"), (0, u "headers"), (0, u "Lcom/sun/net/httpserver/Headers;"), (50, .class_ 64), (0, u "java/lang/String"), (6, u "indexOf"), (21, u "COOKIE"), (44, .string 139), (0, u "!#$%&'*+-.^_`|~"), (0, .methodref 63 141), (0, .nameAndType 71 142), (0, u "(I)I"), (15, .class_ 159), (0, u "org/pathbind/HeaderFields$Elements"), (8, u "Ljava/lang/String;"), (1, u "TOKEN_MARKS"), (15, u "isTokenCharacter"), (0, u "(I)Z")] 37

def k2c0 : Code := { maxStack := 2, maxLocals := 1, code := prog_25_method_7_code, exceptionTable := #[], attributes := #[] }
def k2m0 : Method := { name := "isTokenCharacter", desc := "(I)Z", sig := { parameters := [.int], returnType := some .boolean }, accessFlags := 8, code := some k2c0 }
/-- org/pathbind/HeaderFields -/
def k2 : Class := { plain "org/pathbind/HeaderFields" (some 0) with
  accessFlags := 48
  interfaces := #[]
  cf := some (fileOf pool2 8 #[.nestMembers #[158]] #[{ accessFlags := 8, nameIndex := 186, descriptorIndex := 187, attributes := #[] }] 48 2 #[] #[{ accessFlags := 26, nameIndex := 93, descriptorIndex := 168, attributes := #[] }, { accessFlags := 24, nameIndex := 170, descriptorIndex := 168, attributes := #[] }, { accessFlags := 18, nameIndex := 11, descriptorIndex := 12, attributes := #[] }])
  fields := #[{ name := "COOKIE", type := (.object "java/lang/String"), accessFlags := 26, slot := 0, constantValue := 0 }, { name := "TOKEN_MARKS", type := (.object "java/lang/String"), accessFlags := 24, slot := 1, constantValue := 0 }, { name := "headers", type := (.object "com/sun/net/httpserver/Headers"), accessFlags := 18, slot := 0, constantValue := 0 }]
  methods := #[k2m0]
  instanceTypes := #[(.object "com/sun/net/httpserver/Headers")]
  staticTypes := #[(.object "java/lang/String"), (.object "java/lang/String")]
  resolved := Array.replicate 225 none
  statics := none }

def pool3 : Array CpInfo := pool [(1, .class_ 2), (0, u "java/io/Serializable"), (0, .class_ 4), (0, u "java/lang/Object")] 2

/-- java/io/Serializable -/
def k3 : Class := { plain "java/io/Serializable" (some 0) with
  accessFlags := 1537
  interfaces := #[]
  cf := some (fileOf pool3 1 #[] #[] 1537 3 #[] #[])
  fields := #[]
  methods := #[]
  instanceTypes := #[]
  staticTypes := #[]
  resolved := Array.replicate 7 none
  statics := none }

def pool4 : Array CpInfo := pool [(1, .class_ 2), (0, u "java/lang/Comparable"), (0, .class_ 4), (0, u "java/lang/Object")] 7

/-- java/lang/Comparable -/
def k4 : Class := { plain "java/lang/Comparable" (some 0) with
  accessFlags := 1537
  interfaces := #[]
  cf := some (fileOf pool4 1 #[] #[] 1537 3 #[] #[])
  fields := #[]
  methods := #[]
  instanceTypes := #[]
  staticTypes := #[]
  resolved := Array.replicate 12 none
  statics := none }

def pool5 : Array CpInfo := pool [(2, .class_ 4), (1, u "java/lang/CharSequence"), (42, .class_ 48), (0, u "java/lang/CharSequence$1CodePointIterator"), (10, .class_ 60), (0, u "java/lang/CharSequence$1CharIterator"), (5, .class_ 67), (0, u "java/lang/Object")] 63

/-- java/lang/CharSequence -/
def k5 : Class := { plain "java/lang/CharSequence" (some 0) with
  accessFlags := 1537
  interfaces := #[]
  cf := some (fileOf pool5 2 #[.nestMembers #[47, 59]] #[] 1537 66 #[] #[])
  fields := #[]
  methods := #[]
  instanceTypes := #[]
  staticTypes := #[]
  resolved := Array.replicate 131 none
  statics := none }

def pool6 : Array CpInfo := pool [(1, .class_ 2), (0, u "java/lang/constant/Constable"), (0, .class_ 4), (0, u "java/lang/Object")] 6

/-- java/lang/constant/Constable -/
def k6 : Class := { plain "java/lang/constant/Constable" (some 0) with
  accessFlags := 1537
  interfaces := #[]
  cf := some (fileOf pool6 1 #[] #[] 1537 3 #[] #[])
  fields := #[]
  methods := #[]
  instanceTypes := #[]
  staticTypes := #[]
  resolved := Array.replicate 11 none
  statics := none }

def pool7 : Array CpInfo := pool [(1, .class_ 2), (0, u "java/lang/constant/ConstantDesc"), (0, .class_ 4), (0, u "java/lang/Object")] 32

/-- java/lang/constant/ConstantDesc -/
def k7 : Class := { plain "java/lang/constant/ConstantDesc" (some 0) with
  accessFlags := 1537
  interfaces := #[]
  cf := some (fileOf pool7 1 #[] #[] 1537 3 #[] #[])
  fields := #[]
  methods := #[]
  instanceTypes := #[]
  staticTypes := #[]
  resolved := Array.replicate 37 none
  statics := none }

def pool8 : Array CpInfo := pool [(2, .class_ 4), (1, u "java/lang/Object"), (0, u "<init>"), (0, u "()V"), (2, .fieldref 10 11), (0, .class_ 12), (0, .nameAndType 13 14), (0, u "java/lang/String"), (0, u "value"), (0, u "[B"), (0, .fieldref 10 16), (0, .nameAndType 17 18), (0, u "coder"), (0, u "B"), (2, u "hash"), (0, u "I"), (2, u "hashIsZero"), (0, u "Z"), (11, .fieldref 10 39), (0, .nameAndType 40 26), (0, u "COMPACT_STRINGS"), (66, .class_ 109), (1, u "java/lang/StringLatin1"), (32, u "()Z"), (191, u "()I"), (0, .methodref 10 336), (0, .nameAndType 17 337), (0, u "()B"), (154, .methodref 10 493), (0, .nameAndType 494 142), (0, u "isLatin1"), (10, .methodref 10 506), (0, .nameAndType 507 334), (0, u "length"), (67, .class_ 576), (0, u "java/lang/CharSequence"), (22, u "CASE_INSENSITIVE_ORDER"), (0, u "Ljava/util/Comparator;"), (32, .methodref 10 634), (0, .nameAndType 635 636), (0, u "indexOf"), (0, u "(II)I"), (0, .methodref 107 638), (0, .nameAndType 635 639), (0, u "([BIII)I"), (125, u "(I)I"), (335, u "serialPersistentFields"), (0, u "[Ljava/io/ObjectStreamField;"), (0, .class_ 1104), (0, u "java/lang/String$CaseInsensitiveComparator"), (1, .class_ 1107), (0, u "java/io/Serializable"), (0, .class_ 1109), (0, u "java/lang/Comparable"), (0, .class_ 1111), (0, u "java/lang/constant/Constable"), (0, .class_ 1113), (0, u "java/lang/constant/ConstantDesc"), (2, u "serialVersionUID"), (0, u "J"), (3, u "REPL"), (0, u "C"), (2, u "LATIN1"), (1, u "UTF16")] 323

def k8m0 : Method := { name := "<init>", desc := "()V", sig := { parameters := [], returnType := none }, accessFlags := 1, code := none }
def k8c1 : Code := { maxStack := 2, maxLocals := 1, code := jdk_42_method_54_code, exceptionTable := #[], attributes := #[] }
def k8m1 : Method := { name := "length", desc := "()I", sig := { parameters := [], returnType := some .int }, accessFlags := 1, code := some k8c1 }
def k8c2 : Code := { maxStack := 3, maxLocals := 2, code := jdk_42_method_79_code, exceptionTable := #[], attributes := #[] }
def k8m2 : Method := { name := "indexOf", desc := "(I)I", sig := { parameters := [.int], returnType := some .int }, accessFlags := 1, code := some k8c2 }
def k8c3 : Code := { maxStack := 4, maxLocals := 3, code := jdk_42_method_80_code, exceptionTable := #[], attributes := #[] }
def k8m3 : Method := { name := "indexOf", desc := "(II)I", sig := { parameters := [.int, .int], returnType := some .int }, accessFlags := 1, code := some k8c3 }
def k8c4 : Code := { maxStack := 1, maxLocals := 1, code := jdk_42_method_152_code, exceptionTable := #[], attributes := #[] }
def k8m4 : Method := { name := "coder", desc := "()B", sig := { parameters := [], returnType := some .byte }, accessFlags := 0, code := some k8c4 }
def k8c5 : Code := { maxStack := 1, maxLocals := 1, code := jdk_42_method_154_code, exceptionTable := #[], attributes := #[] }
def k8m5 : Method := { name := "isLatin1", desc := "()Z", sig := { parameters := [], returnType := some .boolean }, accessFlags := 0, code := some k8c5 }
/-- java/lang/String -/
def k8 : Class := { plain "java/lang/String" (some 0) with
  accessFlags := 49
  interfaces := #[3, 4, 5, 6, 7]
  cf := some (fileOf pool8 10 #[.nestMembers #[1103]] #[{ accessFlags := 1, nameIndex := 5, descriptorIndex := 6, attributes := #[] }, { accessFlags := 1, nameIndex := 507, descriptorIndex := 334, attributes := #[] }, { accessFlags := 1, nameIndex := 635, descriptorIndex := 765, attributes := #[] }, { accessFlags := 1, nameIndex := 635, descriptorIndex := 636, attributes := #[] }, { accessFlags := 0, nameIndex := 17, descriptorIndex := 337, attributes := #[] }, { accessFlags := 0, nameIndex := 494, descriptorIndex := 142, attributes := #[] }] 49 2 #[1106, 1108, 575, 1110, 1112] #[{ accessFlags := 18, nameIndex := 13, descriptorIndex := 14, attributes := #[] }, { accessFlags := 18, nameIndex := 17, descriptorIndex := 18, attributes := #[] }, { accessFlags := 2, nameIndex := 21, descriptorIndex := 22, attributes := #[] }, { accessFlags := 2, nameIndex := 25, descriptorIndex := 26, attributes := #[] }, { accessFlags := 26, nameIndex := 1116, descriptorIndex := 1117, attributes := #[] }, { accessFlags := 24, nameIndex := 40, descriptorIndex := 26, attributes := #[] }, { accessFlags := 26, nameIndex := 1101, descriptorIndex := 1102, attributes := #[] }, { accessFlags := 26, nameIndex := 1121, descriptorIndex := 1122, attributes := #[] }, { accessFlags := 25, nameIndex := 599, descriptorIndex := 600, attributes := #[] }, { accessFlags := 24, nameIndex := 1125, descriptorIndex := 18, attributes := #[] }, { accessFlags := 24, nameIndex := 1127, descriptorIndex := 18, attributes := #[] }])
  fields := #[{ name := "value", type := (.array .byte), accessFlags := 18, slot := 0, constantValue := 0 }, { name := "coder", type := .byte, accessFlags := 18, slot := 1, constantValue := 0 }, { name := "hash", type := .int, accessFlags := 2, slot := 2, constantValue := 0 }, { name := "hashIsZero", type := .boolean, accessFlags := 2, slot := 3, constantValue := 0 }, { name := "serialVersionUID", type := .long, accessFlags := 26, slot := 0, constantValue := 0 }, { name := "COMPACT_STRINGS", type := .boolean, accessFlags := 24, slot := 1, constantValue := 0 }, { name := "serialPersistentFields", type := (.array (.object "java/io/ObjectStreamField")), accessFlags := 26, slot := 2, constantValue := 0 }, { name := "REPL", type := .char, accessFlags := 26, slot := 3, constantValue := 0 }, { name := "CASE_INSENSITIVE_ORDER", type := (.object "java/util/Comparator"), accessFlags := 25, slot := 4, constantValue := 0 }, { name := "LATIN1", type := .byte, accessFlags := 24, slot := 5, constantValue := 0 }, { name := "UTF16", type := .byte, accessFlags := 24, slot := 6, constantValue := 0 }]
  methods := #[k8m0, k8m1, k8m2, k8m3, k8m4, k8m5]
  instanceTypes := #[(.array .byte), .byte, .int, .boolean]
  staticTypes := #[.long, .boolean, (.array (.object "java/io/ObjectStreamField")), .char, (.object "java/util/Comparator"), .byte, .byte]
  resolved := Array.replicate 1451 none
  statics := some 0 }

def pool9 : Array CpInfo := pool [(4, .class_ 6), (1, u "java/lang/Object"), (0, u "<init>"), (0, u "()V"), (5, .class_ 16), (1, u "java/lang/StringLatin1"), (21, .methodref 39 40), (0, .class_ 41), (0, .nameAndType 42 43), (0, u "java/lang/Math"), (0, u "min"), (0, u "(II)I"), (44, .methodref 14 89), (0, .nameAndType 90 91), (0, u "canEncode"), (0, u "(I)Z"), (0, .methodref 39 93), (0, .nameAndType 94 43), (0, u "max"), (0, .methodref 14 96), (0, .nameAndType 97 98), (0, u "indexOfChar"), (0, u "([BIII)I"), (2, u "indexOf"), (19, u "$assertionsDisabled"), (0, u "Z"), (98, .class_ 223), (1, u "java/lang/StringLatin1$LinesSpliterator"), (166, .class_ 391), (0, u "java/lang/StringLatin1$CharsSpliterator")] 3

def k9m0 : Method := { name := "<init>", desc := "()V", sig := { parameters := [], returnType := none }, accessFlags := 0, code := none }
def k9c1 : Code := { maxStack := 2, maxLocals := 1, code := jdk_43_method_4_code, exceptionTable := #[], attributes := #[] }
def k9m1 : Method := { name := "canEncode", desc := "(I)Z", sig := { parameters := [.int], returnType := some .boolean }, accessFlags := 9, code := some k9c1 }
def k9c2 : Code := { maxStack := 4, maxLocals := 4, code := jdk_43_method_22_code, exceptionTable := #[], attributes := #[] }
def k9m2 : Method := { name := "indexOf", desc := "([BIII)I", sig := { parameters := [(.array .byte), .int, .int, .int], returnType := some .int }, accessFlags := 9, code := some k9c2 }
def k9c3 : Code := { maxStack := 2, maxLocals := 6, code := jdk_43_method_23_code, exceptionTable := #[], attributes := #[] }
def k9m3 : Method := { name := "indexOfChar", desc := "([BIII)I", sig := { parameters := [(.array .byte), .int, .int, .int], returnType := some .int }, accessFlags := 10, code := some k9c3 }
/-- java/lang/StringLatin1 -/
def k9 : Class := { plain "java/lang/StringLatin1" (some 0) with
  accessFlags := 48
  interfaces := #[]
  cf := some (fileOf pool9 14 #[.nestMembers #[390, 221]] #[{ accessFlags := 0, nameIndex := 7, descriptorIndex := 8, attributes := #[] }, { accessFlags := 9, nameIndex := 90, descriptorIndex := 91, attributes := #[] }, { accessFlags := 9, nameIndex := 101, descriptorIndex := 98, attributes := #[] }, { accessFlags := 10, nameIndex := 97, descriptorIndex := 98, attributes := #[] }] 48 4 #[] #[{ accessFlags := 4120, nameIndex := 121, descriptorIndex := 122, attributes := #[] }])
  fields := #[{ name := "$assertionsDisabled", type := .boolean, accessFlags := 4120, slot := 0, constantValue := 0 }]
  methods := #[k9m0, k9m1, k9m2, k9m3]
  instanceTypes := #[]
  staticTypes := #[.boolean]
  resolved := Array.replicate 395 none
  statics := none }

def pool10 : Array CpInfo := pool [(1, .class_ 2), (0, u "java/lang/Math"), (1, .class_ 6), (1, u "java/lang/Object"), (0, u "<init>"), (0, u "()V"), (89, .class_ 100), (1, u "java/lang/Math$RandomNumberGeneratorHolder"), (71, u "negativeZeroFloatBits"), (0, u "J"), (2, u "negativeZeroDoubleBits"), (21, u "max"), (2, u "min"), (43, u "$assertionsDisabled"), (0, u "Z"), (88, u "(II)I"), (2, u "twoToTheDoubleScaleDown"), (0, u "D"), (4, u "twoToTheDoubleScaleUp"), (9, u "E"), (3, u "PI"), (2, u "TAU"), (2, u "DEGREES_TO_RADIANS"), (0, u "RADIANS_TO_DEGREES")] 94

def k10m0 : Method := { name := "<init>", desc := "()V", sig := { parameters := [], returnType := none }, accessFlags := 2, code := none }
def k10c1 : Code := { maxStack := 2, maxLocals := 2, code := jdk_29_method_65_code, exceptionTable := #[], attributes := #[] }
def k10m1 : Method := { name := "max", desc := "(II)I", sig := { parameters := [.int, .int], returnType := some .int }, accessFlags := 9, code := some k10c1 }
def k10c2 : Code := { maxStack := 2, maxLocals := 2, code := jdk_29_method_69_code, exceptionTable := #[], attributes := #[] }
def k10m2 : Method := { name := "min", desc := "(II)I", sig := { parameters := [.int, .int], returnType := some .int }, accessFlags := 9, code := some k10c2 }
/-- java/lang/Math -/
def k10 : Class := { plain "java/lang/Math" (some 0) with
  accessFlags := 49
  interfaces := #[]
  cf := some (fileOf pool10 1 #[.nestMembers #[98]] #[{ accessFlags := 2, nameIndex := 7, descriptorIndex := 8, attributes := #[] }, { accessFlags := 9, nameIndex := 198, descriptorIndex := 335, attributes := #[] }, { accessFlags := 9, nameIndex := 201, descriptorIndex := 335, attributes := #[] }] 49 4 #[] #[{ accessFlags := 25, nameIndex := 354, descriptorIndex := 339, attributes := #[] }, { accessFlags := 25, nameIndex := 358, descriptorIndex := 339, attributes := #[] }, { accessFlags := 25, nameIndex := 361, descriptorIndex := 339, attributes := #[] }, { accessFlags := 26, nameIndex := 364, descriptorIndex := 339, attributes := #[] }, { accessFlags := 26, nameIndex := 365, descriptorIndex := 339, attributes := #[] }, { accessFlags := 26, nameIndex := 172, descriptorIndex := 173, attributes := #[] }, { accessFlags := 26, nameIndex := 176, descriptorIndex := 173, attributes := #[] }, { accessFlags := 8, nameIndex := 344, descriptorIndex := 339, attributes := #[] }, { accessFlags := 8, nameIndex := 338, descriptorIndex := 339, attributes := #[] }, { accessFlags := 4120, nameIndex := 245, descriptorIndex := 246, attributes := #[] }])
  fields := #[{ name := "E", type := .double, accessFlags := 25, slot := 0, constantValue := 0 }, { name := "PI", type := .double, accessFlags := 25, slot := 1, constantValue := 0 }, { name := "TAU", type := .double, accessFlags := 25, slot := 2, constantValue := 0 }, { name := "DEGREES_TO_RADIANS", type := .double, accessFlags := 26, slot := 3, constantValue := 0 }, { name := "RADIANS_TO_DEGREES", type := .double, accessFlags := 26, slot := 4, constantValue := 0 }, { name := "negativeZeroFloatBits", type := .long, accessFlags := 26, slot := 5, constantValue := 0 }, { name := "negativeZeroDoubleBits", type := .long, accessFlags := 26, slot := 6, constantValue := 0 }, { name := "twoToTheDoubleScaleUp", type := .double, accessFlags := 8, slot := 7, constantValue := 0 }, { name := "twoToTheDoubleScaleDown", type := .double, accessFlags := 8, slot := 8, constantValue := 0 }, { name := "$assertionsDisabled", type := .boolean, accessFlags := 4120, slot := 9, constantValue := 0 }]
  methods := #[k10m0, k10m1, k10m2]
  instanceTypes := #[]
  staticTypes := #[.double, .double, .double, .double, .double, .long, .long, .double, .double, .boolean]
  resolved := Array.replicate 460 none
  statics := none }

def pool11 : Array CpInfo := pool [(2, .class_ 4), (1, u "java/lang/Object"), (0, u "<init>"), (0, u "()V"), (17, .class_ 26), (1, u "jdk/internal/util/Preconditions"), (28, .class_ 56), (0, u "jdk/internal/util/Preconditions$4"), (57, .class_ 115), (0, u "jdk/internal/util/Preconditions$1"), (7, u "SIOOBE_FORMATTER"), (0, u "Ljava/util/function/BiFunction;"), (0, .class_ 126), (0, u "jdk/internal/util/Preconditions$2"), (3, u "AIOOBE_FORMATTER"), (0, .class_ 132), (0, u "jdk/internal/util/Preconditions$3"), (3, u "IOOBE_FORMATTER")] 57

def k11m0 : Method := { name := "<init>", desc := "()V", sig := { parameters := [], returnType := none }, accessFlags := 1, code := none }
/-- jdk/internal/util/Preconditions -/
def k11 : Class := { plain "jdk/internal/util/Preconditions" (some 0) with
  accessFlags := 33
  interfaces := #[]
  cf := some (fileOf pool11 24 #[.nestMembers #[55, 131, 125, 114]] #[{ accessFlags := 1, nameIndex := 5, descriptorIndex := 6, attributes := #[] }] 33 2 #[] #[{ accessFlags := 25, nameIndex := 123, descriptorIndex := 124, attributes := #[] }, { accessFlags := 25, nameIndex := 130, descriptorIndex := 124, attributes := #[] }, { accessFlags := 25, nameIndex := 136, descriptorIndex := 124, attributes := #[] }])
  fields := #[{ name := "SIOOBE_FORMATTER", type := (.object "java/util/function/BiFunction"), accessFlags := 25, slot := 0, constantValue := 0 }, { name := "AIOOBE_FORMATTER", type := (.object "java/util/function/BiFunction"), accessFlags := 25, slot := 1, constantValue := 0 }, { name := "IOOBE_FORMATTER", type := (.object "java/util/function/BiFunction"), accessFlags := 25, slot := 2, constantValue := 0 }]
  methods := #[k11m0]
  instanceTypes := #[]
  staticTypes := #[(.object "java/util/function/BiFunction"), (.object "java/util/function/BiFunction"), (.object "java/util/function/BiFunction")]
  resolved := Array.replicate 194 none
  statics := some 1 }

def pool12 : Array CpInfo := pool [(9, u "<init>"), (6, .class_ 18), (1, u "java/lang/Object"), (0, u "()V"), (1, .class_ 23), (1, u "jdk/internal/util/ArraysSupport"), (0, u "LOG2_ARRAY_LONG_INDEX_SCALE"), (0, u "I"), (2, u "U"), (0, u "Ljdk/internal/misc/Unsafe;"), (8, u "BIG_ENDIAN"), (0, u "Z"), (8, u "LOG2_BYTE_BIT_SIZE"), (4, u "LOG2_ARRAY_INT_INDEX_SCALE"), (54, u "JLA"), (0, u "Ljdk/internal/access/JavaLangAccess;"), (11, u "LOG2_ARRAY_BOOLEAN_INDEX_SCALE"), (9, u "LOG2_ARRAY_BYTE_INDEX_SCALE"), (5, u "LOG2_ARRAY_CHAR_INDEX_SCALE"), (5, u "LOG2_ARRAY_SHORT_INDEX_SCALE"), (18, u "LOG2_ARRAY_FLOAT_INDEX_SCALE"), (24, u "LOG2_ARRAY_DOUBLE_INDEX_SCALE"), (89, u "T_BOOLEAN"), (2, u "T_CHAR"), (1, u "T_FLOAT"), (1, u "T_DOUBLE"), (1, u "T_BYTE"), (1, u "T_SHORT"), (1, u "T_INT"), (1, u "T_LONG"), (1, u "SOFT_MAX_ARRAY_LENGTH")] 83

def k12m0 : Method := { name := "<init>", desc := "()V", sig := { parameters := [], returnType := none }, accessFlags := 2, code := none }
/-- jdk/internal/util/ArraysSupport -/
def k12 : Class := { plain "jdk/internal/util/ArraysSupport" (some 0) with
  accessFlags := 33
  interfaces := #[]
  cf := some (fileOf pool12 21 #[] #[{ accessFlags := 2, nameIndex := 9, descriptorIndex := 19, attributes := #[] }] 33 16 #[] #[{ accessFlags := 24, nameIndex := 28, descriptorIndex := 29, attributes := #[] }, { accessFlags := 26, nameIndex := 38, descriptorIndex := 39, attributes := #[] }, { accessFlags := 25, nameIndex := 121, descriptorIndex := 25, attributes := #[] }, { accessFlags := 25, nameIndex := 131, descriptorIndex := 25, attributes := #[] }, { accessFlags := 25, nameIndex := 137, descriptorIndex := 25, attributes := #[] }, { accessFlags := 25, nameIndex := 143, descriptorIndex := 25, attributes := #[] }, { accessFlags := 25, nameIndex := 53, descriptorIndex := 25, attributes := #[] }, { accessFlags := 25, nameIndex := 24, descriptorIndex := 25, attributes := #[] }, { accessFlags := 25, nameIndex := 162, descriptorIndex := 25, attributes := #[] }, { accessFlags := 25, nameIndex := 187, descriptorIndex := 25, attributes := #[] }, { accessFlags := 26, nameIndex := 48, descriptorIndex := 25, attributes := #[] }, { accessFlags := 25, nameIndex := 277, descriptorIndex := 25, attributes := #[] }, { accessFlags := 25, nameIndex := 280, descriptorIndex := 25, attributes := #[] }, { accessFlags := 25, nameIndex := 282, descriptorIndex := 25, attributes := #[] }, { accessFlags := 25, nameIndex := 284, descriptorIndex := 25, attributes := #[] }, { accessFlags := 25, nameIndex := 286, descriptorIndex := 25, attributes := #[] }, { accessFlags := 25, nameIndex := 288, descriptorIndex := 25, attributes := #[] }, { accessFlags := 25, nameIndex := 290, descriptorIndex := 25, attributes := #[] }, { accessFlags := 25, nameIndex := 292, descriptorIndex := 25, attributes := #[] }, { accessFlags := 26, nameIndex := 108, descriptorIndex := 109, attributes := #[] }, { accessFlags := 25, nameIndex := 294, descriptorIndex := 25, attributes := #[] }])
  fields := #[{ name := "U", type := (.object "jdk/internal/misc/Unsafe"), accessFlags := 24, slot := 0, constantValue := 0 }, { name := "BIG_ENDIAN", type := .boolean, accessFlags := 26, slot := 1, constantValue := 0 }, { name := "LOG2_ARRAY_BOOLEAN_INDEX_SCALE", type := .int, accessFlags := 25, slot := 2, constantValue := 0 }, { name := "LOG2_ARRAY_BYTE_INDEX_SCALE", type := .int, accessFlags := 25, slot := 3, constantValue := 0 }, { name := "LOG2_ARRAY_CHAR_INDEX_SCALE", type := .int, accessFlags := 25, slot := 4, constantValue := 0 }, { name := "LOG2_ARRAY_SHORT_INDEX_SCALE", type := .int, accessFlags := 25, slot := 5, constantValue := 0 }, { name := "LOG2_ARRAY_INT_INDEX_SCALE", type := .int, accessFlags := 25, slot := 6, constantValue := 0 }, { name := "LOG2_ARRAY_LONG_INDEX_SCALE", type := .int, accessFlags := 25, slot := 7, constantValue := 0 }, { name := "LOG2_ARRAY_FLOAT_INDEX_SCALE", type := .int, accessFlags := 25, slot := 8, constantValue := 0 }, { name := "LOG2_ARRAY_DOUBLE_INDEX_SCALE", type := .int, accessFlags := 25, slot := 9, constantValue := 0 }, { name := "LOG2_BYTE_BIT_SIZE", type := .int, accessFlags := 26, slot := 10, constantValue := 0 }, { name := "T_BOOLEAN", type := .int, accessFlags := 25, slot := 11, constantValue := 0 }, { name := "T_CHAR", type := .int, accessFlags := 25, slot := 12, constantValue := 0 }, { name := "T_FLOAT", type := .int, accessFlags := 25, slot := 13, constantValue := 0 }, { name := "T_DOUBLE", type := .int, accessFlags := 25, slot := 14, constantValue := 0 }, { name := "T_BYTE", type := .int, accessFlags := 25, slot := 15, constantValue := 0 }, { name := "T_SHORT", type := .int, accessFlags := 25, slot := 16, constantValue := 0 }, { name := "T_INT", type := .int, accessFlags := 25, slot := 17, constantValue := 0 }, { name := "T_LONG", type := .int, accessFlags := 25, slot := 18, constantValue := 0 }, { name := "JLA", type := (.object "jdk/internal/access/JavaLangAccess"), accessFlags := 26, slot := 19, constantValue := 0 }, { name := "SOFT_MAX_ARRAY_LENGTH", type := .int, accessFlags := 25, slot := 20, constantValue := 0 }]
  methods := #[k12m0]
  instanceTypes := #[]
  staticTypes := #[(.object "jdk/internal/misc/Unsafe"), .boolean, .int, .int, .int, .int, .int, .int, .int, .int, .int, .int, .int, .int, .int, .int, .int, .int, .int, (.object "jdk/internal/access/JavaLangAccess"), .int]
  resolved := Array.replicate 378 none
  statics := none }

def pool13 : Array CpInfo := pool [(1, u "java/lang/Cloneable"), (0, .class_ 1), (0, u "java/lang/Object"), (0, .class_ 3)] 3

/-- java/lang/Cloneable -/
def k13 : Class := { plain "java/lang/Cloneable" (some 0) with
  accessFlags := 1537
  interfaces := #[]
  cf := some (fileOf pool13 2 #[] #[] 1537 4 #[] #[])
  fields := #[]
  methods := #[]
  instanceTypes := #[]
  staticTypes := #[]
  resolved := Array.replicate 8 none
  statics := none }

/-- the primitive byte -/
def k14 : Class := { plain "byte" none with kind := .primitive 'B', accessFlags := 0x411 }
/-- [B -/
def k15 : Class := { plain "[B" (some 0) with kind := .array 14 .byte, interfaces := #[13, 3], accessFlags := 1041 }

/-- the primitive int -/
def k16 : Class := { plain "int" none with kind := .primitive 'I', accessFlags := 0x411 }
/-- [I -/
def k17 : Class := { plain "[I" (some 0) with kind := .array 16 .int, interfaces := #[13, 3], accessFlags := 1041 }

def heap : Heap := #[{ cls := 8, slots := #[.long 0, .int 1, .null, .int 0, .null, .int 0, .int 0], vm := .statics 8 },
  { cls := 11, slots := #[.null, .null, .null], vm := .statics 11 }]
def classes : Array Class := #[k0, k1, k2, k3, k4, k5, k6, k7, k8, k9, k10, k11, k12, k13, k14, k15, k16, k17]
def interned : List (Array UInt16 × Addr) := []
def slotsUsed : Nat := 10
def theMethod : MethodId := ⟨1, 3⟩
def args0 : Array Value := #[.int 65, .int 77]
def aboutOver (below : List Frame) : State where
  vm := { classes := classes, interned := interned.toArray }
  heap := heap
  slotsUsed := slotsUsed
  threads := #[{ frames := .invoking theMethod args0 :: below }]
def below0 : List Frame := [.native { method := ⟨0, 0⟩, args := #[] }]
def about1 : State := aboutOver below0
def p0 : Program := .bare "" "" ""
def e0 : Env := launch0.env 0 0 0
theorem w_frames : about1.frames = Frame.invoking theMethod args0 :: below0 := rfl
set_option maxRecDepth 65536 in
theorem w_args : argsFit about1.vm theMethod args0 = true := by decide +kernel
set_option maxRecDepth 65536 in
theorem w_heap : heapFits about1 = true := by decide +kernel
set_option maxRecDepth 65536 in
theorem w_runnable : about1.curStatus? = some .runnable := by decide +kernel
set_option maxRecDepth 65536 in
theorem w_alone : about1.alone = true := by decide +kernel
set_option maxRecDepth 65536 in
theorem w_named : about1.methodNamed? x = some theMethod := by decide +kernel
set_option maxRecDepth 65536 in
theorem w_hears : about1.hears theMethod below0 = true := by decide +kernel
set_option maxRecDepth 65536 in
theorem w_ripe : about1.ripe theMethod args0 below0 = true := by decide +kernel
theorem w_running : about1.status = .running := rfl
set_option maxRecDepth 65536 in
theorem w_room : about1.hasRoom e0.platform room_1 = true :=
  launch0.hasRoom_least _ room_1 (by decide +kernel) (by decide +kernel) (by decide +kernel) (by decide +kernel) (by decide +kernel) (by decide +kernel)
theorem allAtoms_all (ts : List Jvm.Cond) (a : Array Jvm.Value) (st : Jvm.State) : (allAtoms ts).before a st = ts.all (fun c => c.before a st) := by
  induction ts with
  | nil => rfl
  | cons c t ih =>
    show (Jvm.Cond.and c (allAtoms t)).before a st = _
    rw [Jvm.Cond.before_and, ih, List.all_cons]
def words1 : List Jvm.Cond := Jvm.Cond.code x code maxLocals ret :: tables_1
/-- a 'code' word, met by the world's own term for the bytes: nothing is compared byte by byte -/
theorem code_word {y : MethodName} {bytes : ByteArray} {mx : Nat} {rt : Option FieldType} {a : Array Value} {s : State} {m : MethodId} {meth : Method} {c : Code} (h1 : s.methodNamed? y = some m) (h2 : s.vm.method? m = some meth) (h3 : meth.code = some c) (h4 : c.code = bytes)
    (h5 : (c.maxLocals == mx && c.exceptionTable.isEmpty && decide (c.maxStack ≤ mostOperands) && decide (meth.sig.returnType = rt) && !meth.locks && decide (parseMethodDescriptor y.desc = some meth.sig)) = true) : (Jvm.Cond.code y bytes mx rt).before a s = true := by
  simp only [Bool.and_eq_true, beq_iff_eq, Bool.not_eq_true', decide_eq_true_eq] at h5
  obtain ⟨⟨⟨⟨⟨g1, g2⟩, g3⟩, g4⟩, g5⟩, g6⟩ := h5
  simp [Cond.before, Cond.holds, Cond.value, h1, h2, h3, h4, g1, g2, g3, g4, g5, g6]
def isCode : Jvm.Cond → Bool
  | .code _ _ _ _ => true
  | _ => false
theorem all_split {L : List Jvm.Cond} {P : Jvm.Cond → Bool} (h1 : L.all (fun c => isCode c || P c) = true) (h2 : ∀ c ∈ L.filter isCode, P c = true) : L.all P = true := by
  refine List.all_eq_true.mpr fun c hc => ?_
  have h := List.all_eq_true.mp h1 c hc
  rcases Bool.eq_false_or_eq_true (isCode c) with hi | hi
  · exact h2 c (List.mem_filter.mpr ⟨hc, hi⟩)
  · simpa [hi] using h
set_option maxRecDepth 65536 in
theorem w_c0 : (Jvm.Cond.code x code maxLocals ret).before args0 about1 = true := code_word (m := ⟨1, 3⟩) (meth := k1m3) (c := k1c3) (by decide +kernel) rfl rfl rfl (by decide +kernel)
set_option maxRecDepth 65536 in
theorem w_c1 : (Jvm.Cond.code ({ cls := "org/pathbind/HeaderFields", name := "isTokenCharacter", desc := "(I)Z" } : Jvm.MethodName) prog_25_method_7_code (1 : Nat) (Option.some Jvm.ClassFile.FieldType.boolean)).before args0 about1 = true := code_word (m := ⟨2, 0⟩) (meth := k2m0) (c := k2c0) (by decide +kernel) rfl rfl rfl (by decide +kernel)
set_option maxRecDepth 65536 in
theorem w_c2 : (Jvm.Cond.code ({ cls := "java/lang/String", name := "indexOf", desc := "(I)I" } : Jvm.MethodName) jdk_42_method_79_code (2 : Nat) (Option.some Jvm.ClassFile.FieldType.int)).before args0 about1 = true := code_word (m := ⟨8, 2⟩) (meth := k8m2) (c := k8c2) (by decide +kernel) rfl rfl rfl (by decide +kernel)
set_option maxRecDepth 65536 in
theorem w_c3 : (Jvm.Cond.code ({ cls := "java/lang/String", name := "indexOf", desc := "(II)I" } : Jvm.MethodName) jdk_42_method_80_code (3 : Nat) (Option.some Jvm.ClassFile.FieldType.int)).before args0 about1 = true := code_word (m := ⟨8, 3⟩) (meth := k8m3) (c := k8c3) (by decide +kernel) rfl rfl rfl (by decide +kernel)
set_option maxRecDepth 65536 in
theorem w_c4 : (Jvm.Cond.code ({ cls := "java/lang/String", name := "isLatin1", desc := "()Z" } : Jvm.MethodName) jdk_42_method_154_code (1 : Nat) (Option.some Jvm.ClassFile.FieldType.boolean)).before args0 about1 = true := code_word (m := ⟨8, 5⟩) (meth := k8m5) (c := k8c5) (by decide +kernel) rfl rfl rfl (by decide +kernel)
set_option maxRecDepth 65536 in
theorem w_c5 : (Jvm.Cond.code ({ cls := "java/lang/String", name := "length", desc := "()I" } : Jvm.MethodName) jdk_42_method_54_code (1 : Nat) (Option.some Jvm.ClassFile.FieldType.int)).before args0 about1 = true := code_word (m := ⟨8, 1⟩) (meth := k8m1) (c := k8c1) (by decide +kernel) rfl rfl rfl (by decide +kernel)
set_option maxRecDepth 65536 in
theorem w_c6 : (Jvm.Cond.code ({ cls := "java/lang/String", name := "coder", desc := "()B" } : Jvm.MethodName) jdk_42_method_152_code (1 : Nat) (Option.some Jvm.ClassFile.FieldType.byte)).before args0 about1 = true := code_word (m := ⟨8, 4⟩) (meth := k8m4) (c := k8c4) (by decide +kernel) rfl rfl rfl (by decide +kernel)
set_option maxRecDepth 65536 in
theorem w_c7 : (Jvm.Cond.code ({ cls := "java/lang/StringLatin1", name := "indexOf", desc := "([BIII)I" } : Jvm.MethodName) jdk_43_method_22_code (4 : Nat) (Option.some Jvm.ClassFile.FieldType.int)).before args0 about1 = true := code_word (m := ⟨9, 2⟩) (meth := k9m2) (c := k9c2) (by decide +kernel) rfl rfl rfl (by decide +kernel)
set_option maxRecDepth 65536 in
theorem w_c8 : (Jvm.Cond.code ({ cls := "java/lang/StringLatin1", name := "canEncode", desc := "(I)Z" } : Jvm.MethodName) jdk_43_method_4_code (1 : Nat) (Option.some Jvm.ClassFile.FieldType.boolean)).before args0 about1 = true := code_word (m := ⟨9, 1⟩) (meth := k9m1) (c := k9c1) (by decide +kernel) rfl rfl rfl (by decide +kernel)
set_option maxRecDepth 65536 in
theorem w_c9 : (Jvm.Cond.code ({ cls := "java/lang/Math", name := "max", desc := "(II)I" } : Jvm.MethodName) jdk_29_method_65_code (2 : Nat) (Option.some Jvm.ClassFile.FieldType.int)).before args0 about1 = true := code_word (m := ⟨10, 1⟩) (meth := k10m1) (c := k10c1) (by decide +kernel) rfl rfl rfl (by decide +kernel)
set_option maxRecDepth 65536 in
theorem w_c10 : (Jvm.Cond.code ({ cls := "java/lang/Math", name := "min", desc := "(II)I" } : Jvm.MethodName) jdk_29_method_69_code (2 : Nat) (Option.some Jvm.ClassFile.FieldType.int)).before args0 about1 = true := code_word (m := ⟨10, 2⟩) (meth := k10m2) (c := k10c2) (by decide +kernel) rfl rfl rfl (by decide +kernel)
set_option maxRecDepth 65536 in
theorem w_c11 : (Jvm.Cond.code ({ cls := "java/lang/StringLatin1", name := "indexOfChar", desc := "([BIII)I" } : Jvm.MethodName) jdk_43_method_23_code (6 : Nat) (Option.some Jvm.ClassFile.FieldType.int)).before args0 about1 = true := code_word (m := ⟨9, 3⟩) (meth := k9m3) (c := k9c3) (by decide +kernel) rfl rfl rfl (by decide +kernel)
set_option maxRecDepth 65536 in
theorem w_c12 : (Jvm.Cond.code ({ cls := "org/pathbind/HeaderFieldsIsTokenCharacterPinLaw", name := "ref", desc := "(I)Z" } : Jvm.MethodName) method_3_code (1 : Nat) (Option.some Jvm.ClassFile.FieldType.boolean)).before args0 about1 = true := code_word (m := ⟨1, 2⟩) (meth := k1m2) (c := k1c2) (by decide +kernel) rfl rfl rfl (by decide +kernel)
set_option maxRecDepth 65536 in
theorem w_c13 : (Jvm.Cond.code ({ cls := "org/pathbind/HeaderFieldsIsTokenCharacterPinLaw", name := "isDelimiter", desc := "(I)Z" } : Jvm.MethodName) method_2_code (1 : Nat) (Option.some Jvm.ClassFile.FieldType.boolean)).before args0 about1 = true := code_word (m := ⟨1, 1⟩) (meth := k1m1) (c := k1c1) (by decide +kernel) rfl rfl rfl (by decide +kernel)
def codes1 : List Jvm.Cond := [Jvm.Cond.code x code maxLocals ret, Jvm.Cond.code ({ cls := "org/pathbind/HeaderFields", name := "isTokenCharacter", desc := "(I)Z" } : Jvm.MethodName) prog_25_method_7_code (1 : Nat) (Option.some Jvm.ClassFile.FieldType.boolean), Jvm.Cond.code ({ cls := "java/lang/String", name := "indexOf", desc := "(I)I" } : Jvm.MethodName) jdk_42_method_79_code (2 : Nat) (Option.some Jvm.ClassFile.FieldType.int), Jvm.Cond.code ({ cls := "java/lang/String", name := "indexOf", desc := "(II)I" } : Jvm.MethodName) jdk_42_method_80_code (3 : Nat) (Option.some Jvm.ClassFile.FieldType.int), Jvm.Cond.code ({ cls := "java/lang/String", name := "isLatin1", desc := "()Z" } : Jvm.MethodName) jdk_42_method_154_code (1 : Nat) (Option.some Jvm.ClassFile.FieldType.boolean), Jvm.Cond.code ({ cls := "java/lang/String", name := "length", desc := "()I" } : Jvm.MethodName) jdk_42_method_54_code (1 : Nat) (Option.some Jvm.ClassFile.FieldType.int), Jvm.Cond.code ({ cls := "java/lang/String", name := "coder", desc := "()B" } : Jvm.MethodName) jdk_42_method_152_code (1 : Nat) (Option.some Jvm.ClassFile.FieldType.byte), Jvm.Cond.code ({ cls := "java/lang/StringLatin1", name := "indexOf", desc := "([BIII)I" } : Jvm.MethodName) jdk_43_method_22_code (4 : Nat) (Option.some Jvm.ClassFile.FieldType.int), Jvm.Cond.code ({ cls := "java/lang/StringLatin1", name := "canEncode", desc := "(I)Z" } : Jvm.MethodName) jdk_43_method_4_code (1 : Nat) (Option.some Jvm.ClassFile.FieldType.boolean), Jvm.Cond.code ({ cls := "java/lang/Math", name := "max", desc := "(II)I" } : Jvm.MethodName) jdk_29_method_65_code (2 : Nat) (Option.some Jvm.ClassFile.FieldType.int), Jvm.Cond.code ({ cls := "java/lang/Math", name := "min", desc := "(II)I" } : Jvm.MethodName) jdk_29_method_69_code (2 : Nat) (Option.some Jvm.ClassFile.FieldType.int), Jvm.Cond.code ({ cls := "java/lang/StringLatin1", name := "indexOfChar", desc := "([BIII)I" } : Jvm.MethodName) jdk_43_method_23_code (6 : Nat) (Option.some Jvm.ClassFile.FieldType.int), Jvm.Cond.code ({ cls := "org/pathbind/HeaderFieldsIsTokenCharacterPinLaw", name := "ref", desc := "(I)Z" } : Jvm.MethodName) method_3_code (1 : Nat) (Option.some Jvm.ClassFile.FieldType.boolean), Jvm.Cond.code ({ cls := "org/pathbind/HeaderFieldsIsTokenCharacterPinLaw", name := "isDelimiter", desc := "(I)Z" } : Jvm.MethodName) method_2_code (1 : Nat) (Option.some Jvm.ClassFile.FieldType.boolean)]
set_option maxRecDepth 65536 in
theorem codes_eq : words1.filter isCode = codes1 := rfl
theorem w_codes : ∀ c ∈ words1.filter isCode, c.before args0 about1 = true := by
  rw [codes_eq]
  intro c hc
  simp only [codes1, List.mem_cons, List.not_mem_nil, or_false] at hc
  rcases hc with rfl | rfl | rfl | rfl | rfl | rfl | rfl | rfl | rfl | rfl | rfl | rfl | rfl | rfl
  · exact w_c0
  · exact w_c1
  · exact w_c2
  · exact w_c3
  · exact w_c4
  · exact w_c5
  · exact w_c6
  · exact w_c7
  · exact w_c8
  · exact w_c9
  · exact w_c10
  · exact w_c11
  · exact w_c12
  · exact w_c13
set_option maxRecDepth 65536 in
theorem w_t1 : (words1.take 24).all (fun c => isCode c || c.before args0 about1) = true := by decide +kernel
set_option maxRecDepth 65536 in
theorem w_t2 : ((words1.drop 24).take 24).all (fun c => isCode c || c.before args0 about1) = true := by decide +kernel
set_option maxRecDepth 65536 in
theorem w_t3 : ((words1.drop 24).drop 24).all (fun c => isCode c || c.before args0 about1) = true := by decide +kernel
theorem w_tables : (allAtoms (Jvm.Cond.code x code maxLocals ret :: tables_1)).before args0 about1 = true := by
  rw [allAtoms_all]
  show words1.all (fun c => c.before args0 about1) = true
  refine all_split ?_ w_codes
  rw [← List.take_append_drop 24 words1, List.all_append, w_t1, ← List.take_append_drop 24 (words1.drop 24), List.all_append, w_t2, w_t3]
  rfl
set_option maxRecDepth 65536 in
theorem w_rest : rest_1_c.before args0 about1 = true := by decide +kernel
set_option maxRecDepth 65536 in
theorem w_case : (Jvm.Cond.and given_1 narrow_1).before args0 about1 = true := by decide +kernel
set_option maxRecDepth 65536 in
theorem w_consts : constsHeld consts_1 about1 := Jvm.Lit.constsHeldB_iff.mp (by decide +kernel)
theorem w_applies : (headSpec (Jvm.Cond.code x code maxLocals ret :: tables_1) room_1).applies x e0.platform about1 = true :=
  (Spec.applies_iff w_frames).mpr ⟨w_running, w_runnable, w_alone, w_named, w_hears, w_ripe, w_room, w_tables⟩
theorem atStart : AtStart classFile x code maxLocals ret World_1 tables_1 room_1 Calls_1 rest_1 Pre_1 launch0 p0 e0 about1 theMethod args0 below0 :=
  ⟨lists_1, trivial, launch0.admits_env _ _ _, launch0.least_env, fairChoices_fair.cas, fairChoices_fair.clock, w_frames, w_args, w_heap, w_applies, ⟨w_consts, trivial⟩, w_rest, w_case⟩
end start1
theorem witness_1 : WitnessClaimed_1 := ⟨start1.p0, start1.e0, start1.about1, start1.theMethod, start1.args0, start1.below0, start1.atStart⟩
end Jvm.Pilot.@@N@@
