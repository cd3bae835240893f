import JvmDerived
import JvmDerived.Pilot.@@N@@Statement
import JvmDerived.Pilot.@@N@@Code
set_option linter.unusedVariables false
set_option linter.unusedSimpArgs false
namespace Jvm.RoadKit
open Sem ClassFile Op Lib Jvm.Stand Jvm.Free Jvm.LawKit
section New
variable {p : Program} {l : Launch} {e : Env} {R : Room} {s : State} {m : MethodId} {args : Array Value} {below : List Frame} {meth : Method} {c : Code} {T : State} {locs : List Loc} {cells slots : Nat}
theorem retI (X : Stand p l e R s m args below meth c T locs cells slots) (hx : p.tables.exec = Jvm.exec) {pc : Nat} {Ls : Array Slot} {z : Int32} {rest : List Value} (hret : meth.sig.returnType = some .int) (hd : decode c.code pc = .ok (.ireturn, 1)) {fs : List Frame}
    (hl : ∀ (f : JFrame) (acts : List Action), f.method = m → f.locked = none → f.entered = [] → (doReturn e (T.setTop f) acts (some (.int z))).1 = T.setFrames fs) : Steps p.tables e below (T.setTop (mkF m pc Ls (.int z :: rest))) (T.setFrames fs) := by
  have hm' : T.vm.method? m = some meth := X.method'
  have hn : narrow .int (.int z) = .int z := rfl
  show Steps p.tables e below (T.setTop { method := m, pc := pc, locals := Ls, stack := _ :: rest, locked := none }) _
  jvm_step X.here [X.here.top, hx, hd, hm', hret, hn]
  first | (intro acts; rw [hl _ acts rfl rfl rfl]) | rw [hl _ _ rfl rfl rfl]
  exact Steps.refl _
end New
end Jvm.RoadKit
namespace Jvm.Pilot.@@N@@
open Jvm Jvm.ClassFile Sem Op Lib Jvm.Free Jvm.Stand Jvm.LawKit Jvm.RoadKit Bundle Jvm.Pilot.@@N@@.Jvm.D
/-! the rest of a walk, from a state on: it returns, and what it leaves -/
def OwnGo (p : Program) (e : Env) (below : List Frame) (s : State) (Q : Option Value → Heap → List Loc → Prop) (K N : Nat) (U : State) : Prop :=
  ∃ t o, Steps p.tables e below U t ∧ t.status = .running ∧ Ended t below o ∧ ∃ v L, o = .returned v ∧ Q v t.heap L ∧ FrameEnd s o t L K N
section OwnKit
variable {p : Program} {l : Launch} {e : Env} {R : Room} {s : State} {m : MethodId} {args : Array Value} {below : List Frame} {meth : Method} {c : Code} {T : State} {locs : List Loc} {cells slots : Nat} {Q : Option Value → Heap → List Loc → Prop} {K N : Nat} {U U' : State} {h : Heap}
theorem own_on (st : ∀ t, Steps p.tables e below U' t → Steps p.tables e below U t) (k : OwnGo p e below s Q K N U') : OwnGo p e below s Q K N U := by
  obtain ⟨t, o, h1, r⟩ := k; exact ⟨t, o, st t h1, r⟩
theorem own_tr (st : Steps p.tables e below U U') (k : OwnGo p e below s Q K N U') : OwnGo p e below s Q K N U := own_on (fun _ q => st.trans q) k
theorem own_num {c' n' : Nat} {l' : List Loc} (X : Stand p l e R s m args below meth c T locs cells slots) (h0 : locs = l') (h1 : cells = c') (h2 : slots = n') : Stand p l e R s m args below meth c T l' c' n' := by
  subst h0 h1 h2; exact X
theorem own_cast {g g' : JFrame} (q : g = g') (k : OwnGo p e below s Q K N (T.setTop g')) : OwnGo p e below s Q K N (T.setTop g) := q ▸ k
theorem own_end (X : Stand p l e R s m args below meth c T locs cells slots) (hlk : meth.locks = false) {v : Option Value} (hv : meth.sig.returnType = none → v = none) (eT : T.heap = h) (q : Q v h locs) (hk : cells ≤ K) (hn : slots ≤ N)
    (st : ∀ fs, (∀ (f : JFrame) (acts : List Action), f.method = m → f.locked = none → f.entered = [] → (doReturn e (T.setTop f) acts v).1 = T.setFrames fs) → Steps p.tables e below U (T.setFrames fs)) : OwnGo p e below s Q K N U := by
  obtain ⟨fs, hr, hrun, hended, hW, hsame⟩ := X.leave (v := v) hv hlk
  refine ⟨_, _, st fs hr, hrun, hended, v, locs, rfl, ?_, ⟨_, rfl⟩, hW, hsame.mono hk hn⟩
  have : (T.setFrames fs).heap = h := eT
  rw [this]; exact q
theorem own_retN (X : Stand p l e R s m args below meth c T locs cells slots) (hx : p.tables.exec = Jvm.exec) (hlk : meth.locks = false) {pc : Nat} {Ls : Array Slot} {z : Int32} {t : FieldType} {rest : List Value} (hret : meth.sig.returnType = some t) (ht : t = .boolean ∨ t = .byte ∨ t = .char ∨ t = .short)
    (hd : decode c.code pc = .ok (.ireturn, 1)) (eT : T.heap = h) (q : Q (some (.int (nar t z))) h locs) (hk : cells ≤ K) (hn : slots ≤ N) : OwnGo p e below s Q K N (T.setTop (mkF m pc Ls (.int z :: rest))) :=
  own_end X hlk (fun h => by rw [hret] at h; cases h) eT q hk hn fun fs hr => retN X hx hret ht hd hr
theorem own_retI (X : Stand p l e R s m args below meth c T locs cells slots) (hx : p.tables.exec = Jvm.exec) (hlk : meth.locks = false) {pc : Nat} {Ls : Array Slot} {z : Int32} {rest : List Value} (hret : meth.sig.returnType = some .int)
    (hd : decode c.code pc = .ok (.ireturn, 1)) (eT : T.heap = h) (q : Q (some (.int z)) h locs) (hk : cells ≤ K) (hn : slots ≤ N) : OwnGo p e below s Q K N (T.setTop (mkF m pc Ls (.int z :: rest))) :=
  own_end X hlk (fun h => by rw [hret] at h; cases h) eT q hk hn fun fs hr => retI X hx hret hd hr
theorem own_retA (X : Stand p l e R s m args below meth c T locs cells slots) (hx : p.tables.exec = Jvm.exec) (hlk : meth.locks = false) {pc : Nat} {Ls : Array Slot} {w : Value} {t : FieldType} {rest : List Value} (hret : meth.sig.returnType = some t) (ht : t.isReference = true) (hw : w.isRef = true)
    (hd : decode c.code pc = .ok (.areturn, 1)) (eT : T.heap = h) (q : Q (some w) h locs) (hk : cells ≤ K) (hn : slots ≤ N) : OwnGo p e below s Q K N (T.setTop (mkF m pc Ls (w :: rest))) :=
  own_end X hlk (fun h => by rw [hret] at h; cases h) eT q hk hn fun fs hr => retOut X hx hret (by rcases ref_cases hw with rfl | ⟨a, rfl⟩ <;> cases t <;> rfl) (Or.inr (Or.inr (Or.inr (Or.inr ⟨rfl, ht, hw⟩)))) hd hr
theorem own_retV (X : Stand p l e R s m args below meth c T locs cells slots) (hx : p.tables.exec = Jvm.exec) (hlk : meth.locks = false) {pc : Nat} {Ls : Array Slot} (hret : meth.sig.returnType = none)
    (hd : decode c.code pc = .ok (.return_, 1)) (eT : T.heap = h) (q : Q none h locs) (hk : cells ≤ K) (hn : slots ≤ N) : OwnGo p e below s Q K N (T.setTop (mkF m pc Ls [])) :=
  own_end X hlk (fun _ => rfl) eT q hk hn fun fs hr => X.returnOut hx hret hd hr
end OwnKit

def OwnGoW (p : Program) (e : Env) (below : List Frame) (s : State) (Q : Option Value → Heap → List Loc → Prop) (K N : Nat) (U : State) : Prop :=
  ∃ t o, Steps p.tables e below U t ∧ t.status = .running ∧ Ended t below o ∧ ∃ v L, o = .returned v ∧ Q v t.heap L ∧ ReturnedEndW s o t L K N
section OwnKitW
variable {p : Program} {l : Launch} {e : Env} {R : Room} {s : State} {vm0 : Vm} {m : MethodId} {args : Array Value} {below : List Frame} {meth : Method} {c : Code} {T : State} {locs : List Loc} {cells slots : Nat} {Q : Option Value → Heap → List Loc → Prop} {K N k0 : Nat} {U U' : State} {h : Heap}
theorem own_onW (st : ∀ t, Steps p.tables e below U' t → Steps p.tables e below U t) (k : OwnGoW p e below s Q K N U') : OwnGoW p e below s Q K N U := by
  obtain ⟨t, o, h1, r⟩ := k; exact ⟨t, o, st t h1, r⟩
theorem own_trW (st : Steps p.tables e below U U') (k : OwnGoW p e below s Q K N U') : OwnGoW p e below s Q K N U := own_onW (fun _ q => st.trans q) k
theorem own_castW {g g' : JFrame} (q : g = g') (k : OwnGoW p e below s Q K N (T.setTop g')) : OwnGoW p e below s Q K N (T.setTop g) := q ▸ k
theorem own_endW (X : Stand p l e R (s.setVm vm0) m args below meth c T locs cells slots) (hlk : meth.locks = false) {v : Option Value} (hv : meth.sig.returnType = none → v = none) (eT : T.heap = h) (q : Q v h locs) (hk : cells ≤ K) (hn : slots ≤ N) (hS : s.Since vm0 k0) (hk0 : k0 ≤ T.heap.size)
    (st : ∀ fs, (∀ (f : JFrame) (acts : List Action), f.method = m → f.locked = none → f.entered = [] → (doReturn e (T.setTop f) acts v).1 = T.setFrames fs) → Steps p.tables e below U (T.setFrames fs)) : OwnGoW p e below s Q K N U := by
  obtain ⟨fs, hr, hrun, hended, ⟨h1, h2, h3, h4⟩⟩ := X.leaveW hS hk0 (v := v) hv hlk
  refine ⟨_, _, st fs hr, hrun, hended, v, locs, rfl, ?_, h1, h2, h3, h4.mono hk hn⟩
  have : (T.setFrames fs).heap = h := eT
  rw [this]; exact q
theorem own_retNW (X : Stand p l e R (s.setVm vm0) m args below meth c T locs cells slots) (hx : p.tables.exec = Jvm.exec) (hlk : meth.locks = false) {pc : Nat} {Ls : Array Slot} {z : Int32} {t : FieldType} {rest : List Value} (hret : meth.sig.returnType = some t) (ht : t = .boolean ∨ t = .byte ∨ t = .char ∨ t = .short)
    (hd : decode c.code pc = .ok (.ireturn, 1)) (eT : T.heap = h) (q : Q (some (.int (nar t z))) h locs) (hk : cells ≤ K) (hn : slots ≤ N) (hS : s.Since vm0 k0) (hk0 : k0 ≤ T.heap.size) : OwnGoW p e below s Q K N (T.setTop (mkF m pc Ls (.int z :: rest))) :=
  own_endW X hlk (fun h => by rw [hret] at h; cases h) eT q hk hn hS hk0 fun fs hr => retN X hx hret ht hd hr
theorem own_retIW (X : Stand p l e R (s.setVm vm0) m args below meth c T locs cells slots) (hx : p.tables.exec = Jvm.exec) (hlk : meth.locks = false) {pc : Nat} {Ls : Array Slot} {z : Int32} {rest : List Value} (hret : meth.sig.returnType = some .int)
    (hd : decode c.code pc = .ok (.ireturn, 1)) (eT : T.heap = h) (q : Q (some (.int z)) h locs) (hk : cells ≤ K) (hn : slots ≤ N) (hS : s.Since vm0 k0) (hk0 : k0 ≤ T.heap.size) : OwnGoW p e below s Q K N (T.setTop (mkF m pc Ls (.int z :: rest))) :=
  own_endW X hlk (fun h => by rw [hret] at h; cases h) eT q hk hn hS hk0 fun fs hr => retI X hx hret hd hr
theorem own_retAW (X : Stand p l e R (s.setVm vm0) m args below meth c T locs cells slots) (hx : p.tables.exec = Jvm.exec) (hlk : meth.locks = false) {pc : Nat} {Ls : Array Slot} {w : Value} {t : FieldType} {rest : List Value} (hret : meth.sig.returnType = some t) (ht : t.isReference = true) (hw : w.isRef = true)
    (hd : decode c.code pc = .ok (.areturn, 1)) (eT : T.heap = h) (q : Q (some w) h locs) (hk : cells ≤ K) (hn : slots ≤ N) (hS : s.Since vm0 k0) (hk0 : k0 ≤ T.heap.size) : OwnGoW p e below s Q K N (T.setTop (mkF m pc Ls (w :: rest))) :=
  own_endW X hlk (fun h => by rw [hret] at h; cases h) eT q hk hn hS hk0 fun fs hr => retOut X hx hret (by rcases ref_cases hw with rfl | ⟨a, rfl⟩ <;> cases t <;> rfl) (Or.inr (Or.inr (Or.inr (Or.inr ⟨rfl, ht, hw⟩)))) hd hr
theorem own_retVW (X : Stand p l e R (s.setVm vm0) m args below meth c T locs cells slots) (hx : p.tables.exec = Jvm.exec) (hlk : meth.locks = false) {pc : Nat} {Ls : Array Slot} (hret : meth.sig.returnType = none)
    (hd : decode c.code pc = .ok (.return_, 1)) (eT : T.heap = h) (q : Q none h locs) (hk : cells ≤ K) (hn : slots ≤ N) (hS : s.Since vm0 k0) (hk0 : k0 ≤ T.heap.size) : OwnGoW p e below s Q K N (T.setTop (mkF m pc Ls [])) :=
  own_endW X hlk (fun _ => rfl) eT q hk hn hS hk0 fun fs hr => X.returnOut hx hret hd hr
end OwnKitW

theorem own_ib {Z s : State} {vm1 : Vm} {Ts : List String} (I : IB Z s.vm Ts) (h : s.WarmedH vm1) : IB Z vm1 Ts := by
  obtain ⟨more, e, r⟩ := I; exact ⟨more, by rw [h.interned_eq]; exact e, r⟩
theorem own_i2c (x : Int32) : (x &&& (255 : Int32)).toUInt32.toUInt16.toUInt32.toInt32 = x &&& (255 : Int32) := by
  apply Int32.toBitVec_inj.mp
  simp only [UInt32.toBitVec_toInt32, UInt16.toBitVec_toUInt32, UInt32.toBitVec_toUInt16, Int32.toBitVec_toUInt32, Int32.toBitVec_and]
  have e : (255 : Int32).toBitVec = 255#32 := rfl
  rw [e]; generalize x.toBitVec = y
  apply BitVec.eq_of_toNat_eq
  have : (y &&& 255#32).toNat ≤ 255 := by rw [BitVec.toNat_and]; exact Nat.and_le_right
  simp only [BitVec.toNat_setWidth]; omega
theorem own_chr (x : Int32) : nar .char ((x &&& (255 : Int32)).toUInt32.toUInt16.toUInt32.toInt32) = x &&& (255 : Int32) ∧ nar .char (x &&& (255 : Int32)) = x &&& (255 : Int32) :=
  ⟨by simp only [nar, own_i2c], by simp only [nar, own_i2c]⟩
theorem own_shr0 (z : Int32) : z >>> ((0 : Int32) &&& 31) = z := by
  have : ((0 : Int32) &&& 31) = 0 := by decide
  rw [this]; simp
def own_isz (z : Int32) : Int32 := if z = 0 then 1 else 0
theorem own_str {Z : State} {a0 : Array Value} (hw : ∀ d ∈ tables_1, d.before a0 Z = true) : ∀ a ∈ Bundle.stringAtoms, a.before a0 Z = true := fun d hd => hw d (by
  simp only [Bundle.stringAtoms, Bundle.sN, List.mem_cons, List.not_mem_nil, or_false] at hd
  rcases hd with rfl | rfl | rfl | rfl | rfl | rfl | rfl <;> (simp [tables_1]))
theorem own_le255 (x : Int32) : ¬ (255 : Int32) < ((x &&& (255 : Int32)).toUInt32.toUInt16.toUInt32.toInt32) := by
  rw [own_i2c]
  rw [Int32.lt_iff_toInt_lt]
  have e : (x &&& (255 : Int32)).toInt = ((x.toBitVec &&& 255#32).toNat : Int) := by
    show (x.toBitVec &&& 255#32).toInt = _
    have : (x.toBitVec &&& 255#32).toNat ≤ 255 := by rw [BitVec.toNat_and]; exact Nat.and_le_right
    rw [BitVec.toInt_eq_toNat_cond, if_pos (by omega)]
  have : (x.toBitVec &&& 255#32).toNat ≤ 255 := by rw [BitVec.toNat_and]; exact Nat.and_le_right
  rw [e, show (255 : Int32).toInt = 255 from rfl]; omega
theorem own_tok (t : Int64) (h : ¬ (lcmpW (t &&& (9223372036854775807 : Int64)) (0 : Int64)) = (0 : Int32)) : ¬ ((lcmpW (t &&& (9223372036854775807 : Int64)) (1 : Int64)) < (0 : Int32)) := by
  rw [lw_lt]; rw [lw_eq] at h
  have e := c_maskL t (9223372036854775807 : Int64) 63 (by decide) (by decide)
  rw [Int64.lt_iff_toInt_lt, show (1 : Int64).toInt = 1 from rfl]
  intro q; apply h; apply Int64.toInt_inj.mp; rw [show (0 : Int64).toInt = 0 from rfl]
  omega
theorem own_nz {t : Term} {args : Array Value} {s : State} {z : Int32} (ev : t.eval args s none [] s = some (.int z)) (h : (Cond.not (Cond.eq t (.int 0))).value args s none s [] = some true) : ¬ (z = (0 : Int32)) := by
  have h1 := not_v h
  rintro rfl
  simp [Cond.value, Term.eval, ev] at h1
theorem w0 {a0 : Array Value} {Z : State} (hw : ∀ d ∈ tables_1, d.before a0 Z = true) : ((Jvm.Cond.classLink "com/example/orderly_lock/orderlylock/LockStateHeldPinLaw" (7 : Nat) "com/example/orderly_lock/orderlylock/LockName") : Jvm.Cond).before a0 Z = true := hw _ (List.mem_of_getElem? (i := 0) rfl)
theorem w1 {a0 : Array Value} {Z : State} (hw : ∀ d ∈ tables_1, d.before a0 Z = true) : ((Jvm.Cond.instantiable "com/example/orderly_lock/orderlylock/LockName" (1 : Nat)) : Jvm.Cond).before a0 Z = true := hw _ (List.mem_of_getElem? (i := 1) rfl)
theorem w2 {a0 : Array Value} {Z : State} (hw : ∀ d ∈ tables_1, d.before a0 Z = true) : ((Jvm.Cond.initialized "com/example/orderly_lock/orderlylock/LockName") : Jvm.Cond).before a0 Z = true := hw _ (List.mem_of_getElem? (i := 2) rfl)
theorem w3 {a0 : Array Value} {Z : State} (hw : ∀ d ∈ tables_1, d.before a0 Z = true) : ((Jvm.Cond.stringLink "com/example/orderly_lock/orderlylock/LockStateHeldPinLaw" (9 : Nat) "ledger") : Jvm.Cond).before a0 Z = true := hw _ (List.mem_of_getElem? (i := 3) rfl)
theorem w4 {a0 : Array Value} {Z : State} (hw : ∀ d ∈ tables_1, d.before a0 Z = true) : ((Jvm.Cond.initialized "java/lang/String") : Jvm.Cond).before a0 Z = true := hw _ (List.mem_of_getElem? (i := 4) rfl)
theorem w5 {a0 : Array Value} {Z : State} (hw : ∀ d ∈ tables_1, d.before a0 Z = true) : ((Jvm.Cond.instantiable "java/lang/String" (4 : Nat)) : Jvm.Cond).before a0 Z = true := hw _ (List.mem_of_getElem? (i := 5) rfl)
theorem w6 {a0 : Array Value} {Z : State} (hw : ∀ d ∈ tables_1, d.before a0 Z = true) : ((Jvm.Cond.arrayClass Jvm.ClassFile.FieldType.byte) : Jvm.Cond).before a0 Z = true := hw _ (List.mem_of_getElem? (i := 6) rfl)
theorem w7 {a0 : Array Value} {Z : State} (hw : ∀ d ∈ tables_1, d.before a0 Z = true) : ((Jvm.Cond.laysFinal "java/lang/String" "java/lang/String" "value" "[B") : Jvm.Cond).before a0 Z = true := hw _ (List.mem_of_getElem? (i := 7) rfl)
theorem w8 {a0 : Array Value} {Z : State} (hw : ∀ d ∈ tables_1, d.before a0 Z = true) : ((Jvm.Cond.laysFinal "java/lang/String" "java/lang/String" "coder" "B") : Jvm.Cond).before a0 Z = true := hw _ (List.mem_of_getElem? (i := 8) rfl)
theorem w11 {a0 : Array Value} {Z : State} (hw : ∀ d ∈ tables_1, d.before a0 Z = true) : ((Jvm.Cond.methodLink "com/example/orderly_lock/orderlylock/LockStateHeldPinLaw" (11 : Nat) ({ cls := "com/example/orderly_lock/orderlylock/LockName", name := "<init>", desc := "(Ljava/lang/String;)V" } : Jvm.MethodName)) : Jvm.Cond).before a0 Z = true := hw _ (List.mem_of_getElem? (i := 11) rfl)
theorem w12 {a0 : Array Value} {Z : State} (hw : ∀ d ∈ tables_1, d.before a0 Z = true) : ((Jvm.Cond.instanceMethod ({ cls := "com/example/orderly_lock/orderlylock/LockName", name := "<init>", desc := "(Ljava/lang/String;)V" } : Jvm.MethodName)) : Jvm.Cond).before a0 Z = true := hw _ (List.mem_of_getElem? (i := 12) rfl)
theorem w13 {a0 : Array Value} {Z : State} (hw : ∀ d ∈ tables_1, d.before a0 Z = true) : ((Jvm.Cond.code ({ cls := "com/example/orderly_lock/orderlylock/LockName", name := "<init>", desc := "(Ljava/lang/String;)V" } : Jvm.MethodName) prog_9_method_1_code (4 : Nat) (Option.none : Option Jvm.ClassFile.FieldType)) : Jvm.Cond).before a0 Z = true := hw _ (List.mem_of_getElem? (i := 13) rfl)
theorem w14 {a0 : Array Value} {Z : State} (hw : ∀ d ∈ tables_1, d.before a0 Z = true) : ((Jvm.Cond.methodLink "com/example/orderly_lock/orderlylock/LockName" (1 : Nat) ({ cls := "java/lang/Record", name := "<init>", desc := "()V" } : Jvm.MethodName)) : Jvm.Cond).before a0 Z = true := hw _ (List.mem_of_getElem? (i := 14) rfl)
theorem w15 {a0 : Array Value} {Z : State} (hw : ∀ d ∈ tables_1, d.before a0 Z = true) : ((Jvm.Cond.instanceMethod ({ cls := "java/lang/Record", name := "<init>", desc := "()V" } : Jvm.MethodName)) : Jvm.Cond).before a0 Z = true := hw _ (List.mem_of_getElem? (i := 15) rfl)
theorem w17 {a0 : Array Value} {Z : State} (hw : ∀ d ∈ tables_1, d.before a0 Z = true) : ((Jvm.Cond.initialized "java/lang/Record") : Jvm.Cond).before a0 Z = true := hw _ (List.mem_of_getElem? (i := 17) rfl)
theorem w18 {a0 : Array Value} {Z : State} (hw : ∀ d ∈ tables_1, d.before a0 Z = true) : ((Jvm.Cond.code ({ cls := "java/lang/Record", name := "<init>", desc := "()V" } : Jvm.MethodName) jdk_30_method_1_code (1 : Nat) (Option.none : Option Jvm.ClassFile.FieldType)) : Jvm.Cond).before a0 Z = true := hw _ (List.mem_of_getElem? (i := 18) rfl)
theorem w19 {a0 : Array Value} {Z : State} (hw : ∀ d ∈ tables_1, d.before a0 Z = true) : ((Jvm.Cond.methodLink "java/lang/Record" (1 : Nat) ({ cls := "java/lang/Object", name := "<init>", desc := "()V" } : Jvm.MethodName)) : Jvm.Cond).before a0 Z = true := hw _ (List.mem_of_getElem? (i := 19) rfl)
theorem w20 {a0 : Array Value} {Z : State} (hw : ∀ d ∈ tables_1, d.before a0 Z = true) : ((Jvm.Cond.instanceMethod ({ cls := "java/lang/Object", name := "<init>", desc := "()V" } : Jvm.MethodName)) : Jvm.Cond).before a0 Z = true := hw _ (List.mem_of_getElem? (i := 20) rfl)
theorem w21 {a0 : Array Value} {Z : State} (hw : ∀ d ∈ tables_1, d.before a0 Z = true) : ((Jvm.Cond.code ({ cls := "java/lang/Object", name := "<init>", desc := "()V" } : Jvm.MethodName) object_method_1_code (1 : Nat) (Option.none : Option Jvm.ClassFile.FieldType)) : Jvm.Cond).before a0 Z = true := hw _ (List.mem_of_getElem? (i := 21) rfl)
theorem w22 {a0 : Array Value} {Z : State} (hw : ∀ d ∈ tables_1, d.before a0 Z = true) : ((Jvm.Cond.stringLink "com/example/orderly_lock/orderlylock/LockName" (7 : Nat) "lock name") : Jvm.Cond).before a0 Z = true := hw _ (List.mem_of_getElem? (i := 22) rfl)
theorem w23 {a0 : Array Value} {Z : State} (hw : ∀ d ∈ tables_1, d.before a0 Z = true) : ((Jvm.Cond.methodLink "com/example/orderly_lock/orderlylock/LockName" (9 : Nat) ({ cls := "java/util/Objects", name := "requireNonNull", desc := "(Ljava/lang/Object;Ljava/lang/String;)Ljava/lang/Object;" } : Jvm.MethodName)) : Jvm.Cond).before a0 Z = true := hw _ (List.mem_of_getElem? (i := 23) rfl)
theorem w24 {a0 : Array Value} {Z : State} (hw : ∀ d ∈ tables_1, d.before a0 Z = true) : ((Jvm.Cond.static ({ cls := "java/util/Objects", name := "requireNonNull", desc := "(Ljava/lang/Object;Ljava/lang/String;)Ljava/lang/Object;" } : Jvm.MethodName)) : Jvm.Cond).before a0 Z = true := hw _ (List.mem_of_getElem? (i := 24) rfl)
theorem w25 {a0 : Array Value} {Z : State} (hw : ∀ d ∈ tables_1, d.before a0 Z = true) : ((Jvm.Cond.initialized "java/util/Objects") : Jvm.Cond).before a0 Z = true := hw _ (List.mem_of_getElem? (i := 25) rfl)
theorem w26 {a0 : Array Value} {Z : State} (hw : ∀ d ∈ tables_1, d.before a0 Z = true) : ((Jvm.Cond.code ({ cls := "java/util/Objects", name := "requireNonNull", desc := "(Ljava/lang/Object;Ljava/lang/String;)Ljava/lang/Object;" } : Jvm.MethodName) jdk_31_method_11_code (2 : Nat) (Option.some (Jvm.ClassFile.FieldType.object "java/lang/Object"))) : Jvm.Cond).before a0 Z = true := hw _ (List.mem_of_getElem? (i := 26) rfl)
theorem w27 {a0 : Array Value} {Z : State} (hw : ∀ d ∈ tables_1, d.before a0 Z = true) : ((Jvm.Cond.methodLink "com/example/orderly_lock/orderlylock/LockName" (15 : Nat) ({ cls := "java/lang/String", name := "isEmpty", desc := "()Z" } : Jvm.MethodName)) : Jvm.Cond).before a0 Z = true := hw _ (List.mem_of_getElem? (i := 27) rfl)
theorem w28 {a0 : Array Value} {Z : State} (hw : ∀ d ∈ tables_1, d.before a0 Z = true) : ((Jvm.Cond.declares ({ cls := "java/lang/String", name := "isEmpty", desc := "()Z" } : Jvm.MethodName)) : Jvm.Cond).before a0 Z = true := hw _ (List.mem_of_getElem? (i := 28) rfl)
theorem w29 {a0 : Array Value} {Z : State} (hw : ∀ d ∈ tables_1, d.before a0 Z = true) : ((Jvm.Cond.instanceMethod ({ cls := "java/lang/String", name := "isEmpty", desc := "()Z" } : Jvm.MethodName)) : Jvm.Cond).before a0 Z = true := hw _ (List.mem_of_getElem? (i := 29) rfl)
theorem w30 {a0 : Array Value} {Z : State} (hw : ∀ d ∈ tables_1, d.before a0 Z = true) : ((Jvm.Cond.selects "java/lang/String" ({ cls := "java/lang/String", name := "isEmpty", desc := "()Z" } : Jvm.MethodName) ({ cls := "java/lang/String", name := "isEmpty", desc := "()Z" } : Jvm.MethodName)) : Jvm.Cond).before a0 Z = true := hw _ (List.mem_of_getElem? (i := 30) rfl)
theorem w31 {a0 : Array Value} {Z : State} (hw : ∀ d ∈ tables_1, d.before a0 Z = true) : ((Jvm.Cond.code ({ cls := "java/lang/String", name := "isEmpty", desc := "()Z" } : Jvm.MethodName) jdk_42_method_55_code (1 : Nat) (Option.some Jvm.ClassFile.FieldType.boolean)) : Jvm.Cond).before a0 Z = true := hw _ (List.mem_of_getElem? (i := 31) rfl)
theorem w32 {a0 : Array Value} {Z : State} (hw : ∀ d ∈ tables_1, d.before a0 Z = true) : ((Jvm.Cond.fieldLink "java/lang/String" (9 : Nat) "java/lang/String" "value" "[B") : Jvm.Cond).before a0 Z = true := hw _ (List.mem_of_getElem? (i := 32) rfl)
theorem w33 {a0 : Array Value} {Z : State} (hw : ∀ d ∈ tables_1, d.before a0 Z = true) : ((Jvm.Cond.methodLink "com/example/orderly_lock/orderlylock/LockName" (21 : Nat) ({ cls := "java/lang/String", name := "length", desc := "()I" } : Jvm.MethodName)) : Jvm.Cond).before a0 Z = true := hw _ (List.mem_of_getElem? (i := 33) rfl)
theorem w34 {a0 : Array Value} {Z : State} (hw : ∀ d ∈ tables_1, d.before a0 Z = true) : ((Jvm.Cond.declares ({ cls := "java/lang/String", name := "length", desc := "()I" } : Jvm.MethodName)) : Jvm.Cond).before a0 Z = true := hw _ (List.mem_of_getElem? (i := 34) rfl)
theorem w35 {a0 : Array Value} {Z : State} (hw : ∀ d ∈ tables_1, d.before a0 Z = true) : ((Jvm.Cond.instanceMethod ({ cls := "java/lang/String", name := "length", desc := "()I" } : Jvm.MethodName)) : Jvm.Cond).before a0 Z = true := hw _ (List.mem_of_getElem? (i := 35) rfl)
theorem w36 {a0 : Array Value} {Z : State} (hw : ∀ d ∈ tables_1, d.before a0 Z = true) : ((Jvm.Cond.selects "java/lang/String" ({ cls := "java/lang/String", name := "length", desc := "()I" } : Jvm.MethodName) ({ cls := "java/lang/String", name := "length", desc := "()I" } : Jvm.MethodName)) : Jvm.Cond).before a0 Z = true := hw _ (List.mem_of_getElem? (i := 36) rfl)
theorem w37 {a0 : Array Value} {Z : State} (hw : ∀ d ∈ tables_1, d.before a0 Z = true) : ((Jvm.Cond.code ({ cls := "java/lang/String", name := "length", desc := "()I" } : Jvm.MethodName) jdk_42_method_54_code (1 : Nat) (Option.some Jvm.ClassFile.FieldType.int)) : Jvm.Cond).before a0 Z = true := hw _ (List.mem_of_getElem? (i := 37) rfl)
theorem w38 {a0 : Array Value} {Z : State} (hw : ∀ d ∈ tables_1, d.before a0 Z = true) : ((Jvm.Cond.methodLink "java/lang/String" (335 : Nat) ({ cls := "java/lang/String", name := "coder", desc := "()B" } : Jvm.MethodName)) : Jvm.Cond).before a0 Z = true := hw _ (List.mem_of_getElem? (i := 38) rfl)
theorem w39 {a0 : Array Value} {Z : State} (hw : ∀ d ∈ tables_1, d.before a0 Z = true) : ((Jvm.Cond.declares ({ cls := "java/lang/String", name := "coder", desc := "()B" } : Jvm.MethodName)) : Jvm.Cond).before a0 Z = true := hw _ (List.mem_of_getElem? (i := 39) rfl)
theorem w40 {a0 : Array Value} {Z : State} (hw : ∀ d ∈ tables_1, d.before a0 Z = true) : ((Jvm.Cond.instanceMethod ({ cls := "java/lang/String", name := "coder", desc := "()B" } : Jvm.MethodName)) : Jvm.Cond).before a0 Z = true := hw _ (List.mem_of_getElem? (i := 40) rfl)
theorem w41 {a0 : Array Value} {Z : State} (hw : ∀ d ∈ tables_1, d.before a0 Z = true) : ((Jvm.Cond.selects "java/lang/String" ({ cls := "java/lang/String", name := "coder", desc := "()B" } : Jvm.MethodName) ({ cls := "java/lang/String", name := "coder", desc := "()B" } : Jvm.MethodName)) : Jvm.Cond).before a0 Z = true := hw _ (List.mem_of_getElem? (i := 41) rfl)
theorem w42 {a0 : Array Value} {Z : State} (hw : ∀ d ∈ tables_1, d.before a0 Z = true) : ((Jvm.Cond.code ({ cls := "java/lang/String", name := "coder", desc := "()B" } : Jvm.MethodName) jdk_42_method_152_code (1 : Nat) (Option.some Jvm.ClassFile.FieldType.byte)) : Jvm.Cond).before a0 Z = true := hw _ (List.mem_of_getElem? (i := 42) rfl)
theorem w43 {a0 : Array Value} {Z : State} (hw : ∀ d ∈ tables_1, d.before a0 Z = true) : ((Jvm.Cond.fieldLink "java/lang/String" (38 : Nat) "java/lang/String" "COMPACT_STRINGS" "Z") : Jvm.Cond).before a0 Z = true := hw _ (List.mem_of_getElem? (i := 43) rfl)
theorem w44 {a0 : Array Value} {Z : State} (hw : ∀ d ∈ tables_1, d.before a0 Z = true) : ((Jvm.Cond.fieldLink "java/lang/String" (15 : Nat) "java/lang/String" "coder" "B") : Jvm.Cond).before a0 Z = true := hw _ (List.mem_of_getElem? (i := 44) rfl)
theorem w45 {a0 : Array Value} {Z : State} (hw : ∀ d ∈ tables_1, d.before a0 Z = true) : ((Jvm.Cond.methodLink "com/example/orderly_lock/orderlylock/LockName" (36 : Nat) ({ cls := "java/lang/String", name := "charAt", desc := "(I)C" } : Jvm.MethodName)) : Jvm.Cond).before a0 Z = true := hw _ (List.mem_of_getElem? (i := 45) rfl)
theorem w46 {a0 : Array Value} {Z : State} (hw : ∀ d ∈ tables_1, d.before a0 Z = true) : ((Jvm.Cond.declares ({ cls := "java/lang/String", name := "charAt", desc := "(I)C" } : Jvm.MethodName)) : Jvm.Cond).before a0 Z = true := hw _ (List.mem_of_getElem? (i := 46) rfl)
theorem w47 {a0 : Array Value} {Z : State} (hw : ∀ d ∈ tables_1, d.before a0 Z = true) : ((Jvm.Cond.instanceMethod ({ cls := "java/lang/String", name := "charAt", desc := "(I)C" } : Jvm.MethodName)) : Jvm.Cond).before a0 Z = true := hw _ (List.mem_of_getElem? (i := 47) rfl)
theorem w48 {a0 : Array Value} {Z : State} (hw : ∀ d ∈ tables_1, d.before a0 Z = true) : ((Jvm.Cond.selects "java/lang/String" ({ cls := "java/lang/String", name := "charAt", desc := "(I)C" } : Jvm.MethodName) ({ cls := "java/lang/String", name := "charAt", desc := "(I)C" } : Jvm.MethodName)) : Jvm.Cond).before a0 Z = true := hw _ (List.mem_of_getElem? (i := 48) rfl)
theorem w49 {a0 : Array Value} {Z : State} (hw : ∀ d ∈ tables_1, d.before a0 Z = true) : ((Jvm.Cond.code ({ cls := "java/lang/String", name := "charAt", desc := "(I)C" } : Jvm.MethodName) jdk_42_method_56_code (2 : Nat) (Option.some Jvm.ClassFile.FieldType.char)) : Jvm.Cond).before a0 Z = true := hw _ (List.mem_of_getElem? (i := 49) rfl)
theorem w50 {a0 : Array Value} {Z : State} (hw : ∀ d ∈ tables_1, d.before a0 Z = true) : ((Jvm.Cond.methodLink "java/lang/String" (492 : Nat) ({ cls := "java/lang/String", name := "isLatin1", desc := "()Z" } : Jvm.MethodName)) : Jvm.Cond).before a0 Z = true := hw _ (List.mem_of_getElem? (i := 50) rfl)
theorem w51 {a0 : Array Value} {Z : State} (hw : ∀ d ∈ tables_1, d.before a0 Z = true) : ((Jvm.Cond.declares ({ cls := "java/lang/String", name := "isLatin1", desc := "()Z" } : Jvm.MethodName)) : Jvm.Cond).before a0 Z = true := hw _ (List.mem_of_getElem? (i := 51) rfl)
theorem w52 {a0 : Array Value} {Z : State} (hw : ∀ d ∈ tables_1, d.before a0 Z = true) : ((Jvm.Cond.instanceMethod ({ cls := "java/lang/String", name := "isLatin1", desc := "()Z" } : Jvm.MethodName)) : Jvm.Cond).before a0 Z = true := hw _ (List.mem_of_getElem? (i := 52) rfl)
theorem w53 {a0 : Array Value} {Z : State} (hw : ∀ d ∈ tables_1, d.before a0 Z = true) : ((Jvm.Cond.selects "java/lang/String" ({ cls := "java/lang/String", name := "isLatin1", desc := "()Z" } : Jvm.MethodName) ({ cls := "java/lang/String", name := "isLatin1", desc := "()Z" } : Jvm.MethodName)) : Jvm.Cond).before a0 Z = true := hw _ (List.mem_of_getElem? (i := 53) rfl)
theorem w54 {a0 : Array Value} {Z : State} (hw : ∀ d ∈ tables_1, d.before a0 Z = true) : ((Jvm.Cond.code ({ cls := "java/lang/String", name := "isLatin1", desc := "()Z" } : Jvm.MethodName) jdk_42_method_154_code (1 : Nat) (Option.some Jvm.ClassFile.FieldType.boolean)) : Jvm.Cond).before a0 Z = true := hw _ (List.mem_of_getElem? (i := 54) rfl)
theorem w55 {a0 : Array Value} {Z : State} (hw : ∀ d ∈ tables_1, d.before a0 Z = true) : ((Jvm.Cond.methodLink "java/lang/String" (495 : Nat) ({ cls := "java/lang/StringLatin1", name := "charAt", desc := "([BI)C" } : Jvm.MethodName)) : Jvm.Cond).before a0 Z = true := hw _ (List.mem_of_getElem? (i := 55) rfl)
theorem w56 {a0 : Array Value} {Z : State} (hw : ∀ d ∈ tables_1, d.before a0 Z = true) : ((Jvm.Cond.static ({ cls := "java/lang/StringLatin1", name := "charAt", desc := "([BI)C" } : Jvm.MethodName)) : Jvm.Cond).before a0 Z = true := hw _ (List.mem_of_getElem? (i := 56) rfl)
theorem w57 {a0 : Array Value} {Z : State} (hw : ∀ d ∈ tables_1, d.before a0 Z = true) : ((Jvm.Cond.initialized "java/lang/StringLatin1") : Jvm.Cond).before a0 Z = true := hw _ (List.mem_of_getElem? (i := 57) rfl)
theorem w58 {a0 : Array Value} {Z : State} (hw : ∀ d ∈ tables_1, d.before a0 Z = true) : ((Jvm.Cond.code ({ cls := "java/lang/StringLatin1", name := "charAt", desc := "([BI)C" } : Jvm.MethodName) jdk_43_method_2_code (2 : Nat) (Option.some Jvm.ClassFile.FieldType.char)) : Jvm.Cond).before a0 Z = true := hw _ (List.mem_of_getElem? (i := 58) rfl)
theorem w59 {a0 : Array Value} {Z : State} (hw : ∀ d ∈ tables_1, d.before a0 Z = true) : ((Jvm.Cond.methodLink "java/lang/StringLatin1" (9 : Nat) ({ cls := "java/lang/String", name := "checkIndex", desc := "(II)V" } : Jvm.MethodName)) : Jvm.Cond).before a0 Z = true := hw _ (List.mem_of_getElem? (i := 59) rfl)
theorem w60 {a0 : Array Value} {Z : State} (hw : ∀ d ∈ tables_1, d.before a0 Z = true) : ((Jvm.Cond.static ({ cls := "java/lang/String", name := "checkIndex", desc := "(II)V" } : Jvm.MethodName)) : Jvm.Cond).before a0 Z = true := hw _ (List.mem_of_getElem? (i := 60) rfl)
theorem w61 {a0 : Array Value} {Z : State} (hw : ∀ d ∈ tables_1, d.before a0 Z = true) : ((Jvm.Cond.code ({ cls := "java/lang/String", name := "checkIndex", desc := "(II)V" } : Jvm.MethodName) jdk_42_method_155_code (2 : Nat) (Option.none : Option Jvm.ClassFile.FieldType)) : Jvm.Cond).before a0 Z = true := hw _ (List.mem_of_getElem? (i := 61) rfl)
theorem w62 {a0 : Array Value} {Z : State} (hw : ∀ d ∈ tables_1, d.before a0 Z = true) : ((Jvm.Cond.fieldLink "java/lang/String" (1053 : Nat) "jdk/internal/util/Preconditions" "SIOOBE_FORMATTER" "Ljava/util/function/BiFunction;") : Jvm.Cond).before a0 Z = true := hw _ (List.mem_of_getElem? (i := 62) rfl)
theorem w63 {a0 : Array Value} {Z : State} (hw : ∀ d ∈ tables_1, d.before a0 Z = true) : ((Jvm.Cond.initialized "jdk/internal/util/Preconditions") : Jvm.Cond).before a0 Z = true := hw _ (List.mem_of_getElem? (i := 63) rfl)
theorem w64 {a0 : Array Value} {Z : State} (hw : ∀ d ∈ tables_1, d.before a0 Z = true) : ((Jvm.Cond.methodLink "java/lang/String" (1059 : Nat) ({ cls := "jdk/internal/util/Preconditions", name := "checkIndex", desc := "(IILjava/util/function/BiFunction;)I" } : Jvm.MethodName)) : Jvm.Cond).before a0 Z = true := hw _ (List.mem_of_getElem? (i := 64) rfl)
theorem w65 {a0 : Array Value} {Z : State} (hw : ∀ d ∈ tables_1, d.before a0 Z = true) : ((Jvm.Cond.static ({ cls := "jdk/internal/util/Preconditions", name := "checkIndex", desc := "(IILjava/util/function/BiFunction;)I" } : Jvm.MethodName)) : Jvm.Cond).before a0 Z = true := hw _ (List.mem_of_getElem? (i := 65) rfl)
theorem w66 {a0 : Array Value} {Z : State} (hw : ∀ d ∈ tables_1, d.before a0 Z = true) : ((Jvm.Cond.code ({ cls := "jdk/internal/util/Preconditions", name := "checkIndex", desc := "(IILjava/util/function/BiFunction;)I" } : Jvm.MethodName) jdk_41_method_11_code (3 : Nat) (Option.some Jvm.ClassFile.FieldType.int)) : Jvm.Cond).before a0 Z = true := hw _ (List.mem_of_getElem? (i := 66) rfl)
theorem w67 {a0 : Array Value} {Z : State} (hw : ∀ d ∈ tables_1, d.before a0 Z = true) : ((Jvm.Cond.methodLink "com/example/orderly_lock/orderlylock/LockName" (40 : Nat) ({ cls := "com/example/orderly_lock/orderlylock/LockName", name := "isNameCharacter", desc := "(C)Z" } : Jvm.MethodName)) : Jvm.Cond).before a0 Z = true := hw _ (List.mem_of_getElem? (i := 67) rfl)
theorem w68 {a0 : Array Value} {Z : State} (hw : ∀ d ∈ tables_1, d.before a0 Z = true) : ((Jvm.Cond.static ({ cls := "com/example/orderly_lock/orderlylock/LockName", name := "isNameCharacter", desc := "(C)Z" } : Jvm.MethodName)) : Jvm.Cond).before a0 Z = true := hw _ (List.mem_of_getElem? (i := 68) rfl)
theorem w69 {a0 : Array Value} {Z : State} (hw : ∀ d ∈ tables_1, d.before a0 Z = true) : ((Jvm.Cond.code ({ cls := "com/example/orderly_lock/orderlylock/LockName", name := "isNameCharacter", desc := "(C)Z" } : Jvm.MethodName) prog_9_method_3_code (1 : Nat) (Option.some Jvm.ClassFile.FieldType.boolean)) : Jvm.Cond).before a0 Z = true := hw _ (List.mem_of_getElem? (i := 69) rfl)
theorem w70 {a0 : Array Value} {Z : State} (hw : ∀ d ∈ tables_1, d.before a0 Z = true) : ((Jvm.Cond.fieldLink "com/example/orderly_lock/orderlylock/LockName" (58 : Nat) "com/example/orderly_lock/orderlylock/LockName" "value" "Ljava/lang/String;") : Jvm.Cond).before a0 Z = true := hw _ (List.mem_of_getElem? (i := 70) rfl)
theorem w71 {a0 : Array Value} {Z : State} (hw : ∀ d ∈ tables_1, d.before a0 Z = true) : ((Jvm.Cond.laysFinal "com/example/orderly_lock/orderlylock/LockName" "com/example/orderly_lock/orderlylock/LockName" "value" "Ljava/lang/String;") : Jvm.Cond).before a0 Z = true := hw _ (List.mem_of_getElem? (i := 71) rfl)
theorem w72 {a0 : Array Value} {Z : State} (hw : ∀ d ∈ tables_1, d.before a0 Z = true) : ((Jvm.Cond.classLink "com/example/orderly_lock/orderlylock/LockStateHeldPinLaw" (29 : Nat) "com/example/orderly_lock/orderlylock/LockState") : Jvm.Cond).before a0 Z = true := hw _ (List.mem_of_getElem? (i := 72) rfl)
theorem w73 {a0 : Array Value} {Z : State} (hw : ∀ d ∈ tables_1, d.before a0 Z = true) : ((Jvm.Cond.instantiable "com/example/orderly_lock/orderlylock/LockState" (4 : Nat)) : Jvm.Cond).before a0 Z = true := hw _ (List.mem_of_getElem? (i := 73) rfl)
theorem w74 {a0 : Array Value} {Z : State} (hw : ∀ d ∈ tables_1, d.before a0 Z = true) : ((Jvm.Cond.initialized "com/example/orderly_lock/orderlylock/LockState") : Jvm.Cond).before a0 Z = true := hw _ (List.mem_of_getElem? (i := 74) rfl)
theorem w75 {a0 : Array Value} {Z : State} (hw : ∀ d ∈ tables_1, d.before a0 Z = true) : ((Jvm.Cond.methodLink "com/example/orderly_lock/orderlylock/LockStateHeldPinLaw" (31 : Nat) ({ cls := "com/example/orderly_lock/orderlylock/LockState", name := "<init>", desc := "(Lcom/example/orderly_lock/orderlylock/LockName;Lcom/example/orderly_lock/orderlylock/Grant;JZ)V" } : Jvm.MethodName)) : Jvm.Cond).before a0 Z = true := hw _ (List.mem_of_getElem? (i := 75) rfl)
theorem w76 {a0 : Array Value} {Z : State} (hw : ∀ d ∈ tables_1, d.before a0 Z = true) : ((Jvm.Cond.instanceMethod ({ cls := "com/example/orderly_lock/orderlylock/LockState", name := "<init>", desc := "(Lcom/example/orderly_lock/orderlylock/LockName;Lcom/example/orderly_lock/orderlylock/Grant;JZ)V" } : Jvm.MethodName)) : Jvm.Cond).before a0 Z = true := hw _ (List.mem_of_getElem? (i := 76) rfl)
theorem w77 {a0 : Array Value} {Z : State} (hw : ∀ d ∈ tables_1, d.before a0 Z = true) : ((Jvm.Cond.code ({ cls := "com/example/orderly_lock/orderlylock/LockState", name := "<init>", desc := "(Lcom/example/orderly_lock/orderlylock/LockName;Lcom/example/orderly_lock/orderlylock/Grant;JZ)V" } : Jvm.MethodName) prog_10_method_1_code (6 : Nat) (Option.none : Option Jvm.ClassFile.FieldType)) : Jvm.Cond).before a0 Z = true := hw _ (List.mem_of_getElem? (i := 77) rfl)
theorem w78 {a0 : Array Value} {Z : State} (hw : ∀ d ∈ tables_1, d.before a0 Z = true) : ((Jvm.Cond.methodLink "com/example/orderly_lock/orderlylock/LockState" (1 : Nat) ({ cls := "java/lang/Record", name := "<init>", desc := "()V" } : Jvm.MethodName)) : Jvm.Cond).before a0 Z = true := hw _ (List.mem_of_getElem? (i := 78) rfl)
theorem w79 {a0 : Array Value} {Z : State} (hw : ∀ d ∈ tables_1, d.before a0 Z = true) : ((Jvm.Cond.stringLink "com/example/orderly_lock/orderlylock/LockState" (7 : Nat) "lock") : Jvm.Cond).before a0 Z = true := hw _ (List.mem_of_getElem? (i := 79) rfl)
theorem w80 {a0 : Array Value} {Z : State} (hw : ∀ d ∈ tables_1, d.before a0 Z = true) : ((Jvm.Cond.methodLink "com/example/orderly_lock/orderlylock/LockState" (9 : Nat) ({ cls := "java/util/Objects", name := "requireNonNull", desc := "(Ljava/lang/Object;Ljava/lang/String;)Ljava/lang/Object;" } : Jvm.MethodName)) : Jvm.Cond).before a0 Z = true := hw _ (List.mem_of_getElem? (i := 80) rfl)
theorem w81 {a0 : Array Value} {Z : State} (hw : ∀ d ∈ tables_1, d.before a0 Z = true) : ((Jvm.Cond.fieldLink "com/example/orderly_lock/orderlylock/LockState" (22 : Nat) "com/example/orderly_lock/orderlylock/LockState" "lock" "Lcom/example/orderly_lock/orderlylock/LockName;") : Jvm.Cond).before a0 Z = true := hw _ (List.mem_of_getElem? (i := 81) rfl)
theorem w82 {a0 : Array Value} {Z : State} (hw : ∀ d ∈ tables_1, d.before a0 Z = true) : ((Jvm.Cond.laysFinal "com/example/orderly_lock/orderlylock/LockState" "com/example/orderly_lock/orderlylock/LockState" "lock" "Lcom/example/orderly_lock/orderlylock/LockName;") : Jvm.Cond).before a0 Z = true := hw _ (List.mem_of_getElem? (i := 82) rfl)
theorem w83 {a0 : Array Value} {Z : State} (hw : ∀ d ∈ tables_1, d.before a0 Z = true) : ((Jvm.Cond.fieldLink "com/example/orderly_lock/orderlylock/LockState" (27 : Nat) "com/example/orderly_lock/orderlylock/LockState" "holder" "Lcom/example/orderly_lock/orderlylock/Grant;") : Jvm.Cond).before a0 Z = true := hw _ (List.mem_of_getElem? (i := 83) rfl)
theorem w84 {a0 : Array Value} {Z : State} (hw : ∀ d ∈ tables_1, d.before a0 Z = true) : ((Jvm.Cond.laysFinal "com/example/orderly_lock/orderlylock/LockState" "com/example/orderly_lock/orderlylock/LockState" "holder" "Lcom/example/orderly_lock/orderlylock/Grant;") : Jvm.Cond).before a0 Z = true := hw _ (List.mem_of_getElem? (i := 84) rfl)
theorem w85 {a0 : Array Value} {Z : State} (hw : ∀ d ∈ tables_1, d.before a0 Z = true) : ((Jvm.Cond.fieldLink "com/example/orderly_lock/orderlylock/LockState" (31 : Nat) "com/example/orderly_lock/orderlylock/LockState" "highestToken" "J") : Jvm.Cond).before a0 Z = true := hw _ (List.mem_of_getElem? (i := 85) rfl)
theorem w86 {a0 : Array Value} {Z : State} (hw : ∀ d ∈ tables_1, d.before a0 Z = true) : ((Jvm.Cond.laysFinal "com/example/orderly_lock/orderlylock/LockState" "com/example/orderly_lock/orderlylock/LockState" "highestToken" "J") : Jvm.Cond).before a0 Z = true := hw _ (List.mem_of_getElem? (i := 86) rfl)
theorem w87 {a0 : Array Value} {Z : State} (hw : ∀ d ∈ tables_1, d.before a0 Z = true) : ((Jvm.Cond.fieldLink "com/example/orderly_lock/orderlylock/LockState" (35 : Nat) "com/example/orderly_lock/orderlylock/LockState" "delayed" "Z") : Jvm.Cond).before a0 Z = true := hw _ (List.mem_of_getElem? (i := 87) rfl)
theorem w88 {a0 : Array Value} {Z : State} (hw : ∀ d ∈ tables_1, d.before a0 Z = true) : ((Jvm.Cond.laysFinal "com/example/orderly_lock/orderlylock/LockState" "com/example/orderly_lock/orderlylock/LockState" "delayed" "Z") : Jvm.Cond).before a0 Z = true := hw _ (List.mem_of_getElem? (i := 88) rfl)
theorem w89 {a0 : Array Value} {Z : State} (hw : ∀ d ∈ tables_1, d.before a0 Z = true) : ((Jvm.Cond.methodLink "com/example/orderly_lock/orderlylock/LockStateHeldPinLaw" (34 : Nat) ({ cls := "com/example/orderly_lock/orderlylock/LockState", name := "held", desc := "()Z" } : Jvm.MethodName)) : Jvm.Cond).before a0 Z = true := hw _ (List.mem_of_getElem? (i := 89) rfl)
theorem w90 {a0 : Array Value} {Z : State} (hw : ∀ d ∈ tables_1, d.before a0 Z = true) : ((Jvm.Cond.declares ({ cls := "com/example/orderly_lock/orderlylock/LockState", name := "held", desc := "()Z" } : Jvm.MethodName)) : Jvm.Cond).before a0 Z = true := hw _ (List.mem_of_getElem? (i := 90) rfl)
theorem w91 {a0 : Array Value} {Z : State} (hw : ∀ d ∈ tables_1, d.before a0 Z = true) : ((Jvm.Cond.instanceMethod ({ cls := "com/example/orderly_lock/orderlylock/LockState", name := "held", desc := "()Z" } : Jvm.MethodName)) : Jvm.Cond).before a0 Z = true := hw _ (List.mem_of_getElem? (i := 91) rfl)
theorem w92 {a0 : Array Value} {Z : State} (hw : ∀ d ∈ tables_1, d.before a0 Z = true) : ((Jvm.Cond.selects "com/example/orderly_lock/orderlylock/LockState" ({ cls := "com/example/orderly_lock/orderlylock/LockState", name := "held", desc := "()Z" } : Jvm.MethodName) ({ cls := "com/example/orderly_lock/orderlylock/LockState", name := "held", desc := "()Z" } : Jvm.MethodName)) : Jvm.Cond).before a0 Z = true := hw _ (List.mem_of_getElem? (i := 92) rfl)
theorem w93 {a0 : Array Value} {Z : State} (hw : ∀ d ∈ tables_1, d.before a0 Z = true) : ((Jvm.Cond.code ({ cls := "com/example/orderly_lock/orderlylock/LockState", name := "held", desc := "()Z" } : Jvm.MethodName) prog_10_method_2_code (1 : Nat) (Option.some Jvm.ClassFile.FieldType.boolean)) : Jvm.Cond).before a0 Z = true := hw _ (List.mem_of_getElem? (i := 93) rfl)
theorem w94 {a0 : Array Value} {Z : State} (hw : ∀ d ∈ tables_1, d.before a0 Z = true) : ((Jvm.Cond.constantLong "com/example/orderly_lock/orderlylock/LockStateHeldPinLaw" (16 : Nat) (9223372036854775807 : Int64)) : Jvm.Cond).before a0 Z = true := hw _ (List.mem_of_getElem? (i := 94) rfl)
theorem w95 {a0 : Array Value} {Z : State} (hw : ∀ d ∈ tables_1, d.before a0 Z = true) : ((Jvm.Cond.classLink "com/example/orderly_lock/orderlylock/LockStateHeldPinLaw" (18 : Nat) "com/example/orderly_lock/orderlylock/Grant") : Jvm.Cond).before a0 Z = true := hw _ (List.mem_of_getElem? (i := 95) rfl)
theorem w96 {a0 : Array Value} {Z : State} (hw : ∀ d ∈ tables_1, d.before a0 Z = true) : ((Jvm.Cond.instantiable "com/example/orderly_lock/orderlylock/Grant" (3 : Nat)) : Jvm.Cond).before a0 Z = true := hw _ (List.mem_of_getElem? (i := 96) rfl)
theorem w97 {a0 : Array Value} {Z : State} (hw : ∀ d ∈ tables_1, d.before a0 Z = true) : ((Jvm.Cond.initialized "com/example/orderly_lock/orderlylock/Grant") : Jvm.Cond).before a0 Z = true := hw _ (List.mem_of_getElem? (i := 97) rfl)
theorem w98 {a0 : Array Value} {Z : State} (hw : ∀ d ∈ tables_1, d.before a0 Z = true) : ((Jvm.Cond.methodLink "com/example/orderly_lock/orderlylock/LockStateHeldPinLaw" (20 : Nat) ({ cls := "java/lang/String", name := "valueOf", desc := "(C)Ljava/lang/String;" } : Jvm.MethodName)) : Jvm.Cond).before a0 Z = true := hw _ (List.mem_of_getElem? (i := 98) rfl)
theorem w99 {a0 : Array Value} {Z : State} (hw : ∀ d ∈ tables_1, d.before a0 Z = true) : ((Jvm.Cond.static ({ cls := "java/lang/String", name := "valueOf", desc := "(C)Ljava/lang/String;" } : Jvm.MethodName)) : Jvm.Cond).before a0 Z = true := hw _ (List.mem_of_getElem? (i := 99) rfl)
theorem w100 {a0 : Array Value} {Z : State} (hw : ∀ d ∈ tables_1, d.before a0 Z = true) : ((Jvm.Cond.code ({ cls := "java/lang/String", name := "valueOf", desc := "(C)Ljava/lang/String;" } : Jvm.MethodName) jdk_42_method_139_code (1 : Nat) (Option.some (Jvm.ClassFile.FieldType.object "java/lang/String"))) : Jvm.Cond).before a0 Z = true := hw _ (List.mem_of_getElem? (i := 100) rfl)
theorem w101 {a0 : Array Value} {Z : State} (hw : ∀ d ∈ tables_1, d.before a0 Z = true) : ((Jvm.Cond.methodLink "java/lang/String" (1015 : Nat) ({ cls := "java/lang/StringLatin1", name := "canEncode", desc := "(C)Z" } : Jvm.MethodName)) : Jvm.Cond).before a0 Z = true := hw _ (List.mem_of_getElem? (i := 101) rfl)
theorem w102 {a0 : Array Value} {Z : State} (hw : ∀ d ∈ tables_1, d.before a0 Z = true) : ((Jvm.Cond.static ({ cls := "java/lang/StringLatin1", name := "canEncode", desc := "(C)Z" } : Jvm.MethodName)) : Jvm.Cond).before a0 Z = true := hw _ (List.mem_of_getElem? (i := 102) rfl)
theorem w103 {a0 : Array Value} {Z : State} (hw : ∀ d ∈ tables_1, d.before a0 Z = true) : ((Jvm.Cond.code ({ cls := "java/lang/StringLatin1", name := "canEncode", desc := "(C)Z" } : Jvm.MethodName) jdk_43_method_3_code (1 : Nat) (Option.some Jvm.ClassFile.FieldType.boolean)) : Jvm.Cond).before a0 Z = true := hw _ (List.mem_of_getElem? (i := 103) rfl)
theorem w104 {a0 : Array Value} {Z : State} (hw : ∀ d ∈ tables_1, d.before a0 Z = true) : ((Jvm.Cond.classLink "java/lang/String" (10 : Nat) "java/lang/String") : Jvm.Cond).before a0 Z = true := hw _ (List.mem_of_getElem? (i := 104) rfl)
theorem w105 {a0 : Array Value} {Z : State} (hw : ∀ d ∈ tables_1, d.before a0 Z = true) : ((Jvm.Cond.methodLink "java/lang/String" (1018 : Nat) ({ cls := "java/lang/StringLatin1", name := "toBytes", desc := "(C)[B" } : Jvm.MethodName)) : Jvm.Cond).before a0 Z = true := hw _ (List.mem_of_getElem? (i := 105) rfl)
theorem w106 {a0 : Array Value} {Z : State} (hw : ∀ d ∈ tables_1, d.before a0 Z = true) : ((Jvm.Cond.static ({ cls := "java/lang/StringLatin1", name := "toBytes", desc := "(C)[B" } : Jvm.MethodName)) : Jvm.Cond).before a0 Z = true := hw _ (List.mem_of_getElem? (i := 106) rfl)
theorem w107 {a0 : Array Value} {Z : State} (hw : ∀ d ∈ tables_1, d.before a0 Z = true) : ((Jvm.Cond.code ({ cls := "java/lang/StringLatin1", name := "toBytes", desc := "(C)[B" } : Jvm.MethodName) jdk_43_method_46_code (1 : Nat) (Option.some (Jvm.ClassFile.FieldType.array Jvm.ClassFile.FieldType.byte))) : Jvm.Cond).before a0 Z = true := hw _ (List.mem_of_getElem? (i := 107) rfl)
theorem w108 {a0 : Array Value} {Z : State} (hw : ∀ d ∈ tables_1, d.before a0 Z = true) : ((Jvm.Cond.methodLink "java/lang/String" (209 : Nat) ({ cls := "java/lang/String", name := "<init>", desc := "([BB)V" } : Jvm.MethodName)) : Jvm.Cond).before a0 Z = true := hw _ (List.mem_of_getElem? (i := 108) rfl)
theorem w109 {a0 : Array Value} {Z : State} (hw : ∀ d ∈ tables_1, d.before a0 Z = true) : ((Jvm.Cond.instanceMethod ({ cls := "java/lang/String", name := "<init>", desc := "([BB)V" } : Jvm.MethodName)) : Jvm.Cond).before a0 Z = true := hw _ (List.mem_of_getElem? (i := 109) rfl)
theorem w111 {a0 : Array Value} {Z : State} (hw : ∀ d ∈ tables_1, d.before a0 Z = true) : ((Jvm.Cond.code ({ cls := "java/lang/String", name := "<init>", desc := "([BB)V" } : Jvm.MethodName) jdk_42_method_151_code (3 : Nat) (Option.none : Option Jvm.ClassFile.FieldType)) : Jvm.Cond).before a0 Z = true := hw _ (List.mem_of_getElem? (i := 111) rfl)
theorem w112 {a0 : Array Value} {Z : State} (hw : ∀ d ∈ tables_1, d.before a0 Z = true) : ((Jvm.Cond.methodLink "java/lang/String" (1 : Nat) ({ cls := "java/lang/Object", name := "<init>", desc := "()V" } : Jvm.MethodName)) : Jvm.Cond).before a0 Z = true := hw _ (List.mem_of_getElem? (i := 112) rfl)
theorem w113 {a0 : Array Value} {Z : State} (hw : ∀ d ∈ tables_1, d.before a0 Z = true) : ((Jvm.Cond.methodLink "com/example/orderly_lock/orderlylock/LockStateHeldPinLaw" (26 : Nat) ({ cls := "com/example/orderly_lock/orderlylock/Grant", name := "<init>", desc := "(Lcom/example/orderly_lock/orderlylock/LockName;Ljava/lang/String;J)V" } : Jvm.MethodName)) : Jvm.Cond).before a0 Z = true := hw _ (List.mem_of_getElem? (i := 113) rfl)
theorem w114 {a0 : Array Value} {Z : State} (hw : ∀ d ∈ tables_1, d.before a0 Z = true) : ((Jvm.Cond.instanceMethod ({ cls := "com/example/orderly_lock/orderlylock/Grant", name := "<init>", desc := "(Lcom/example/orderly_lock/orderlylock/LockName;Ljava/lang/String;J)V" } : Jvm.MethodName)) : Jvm.Cond).before a0 Z = true := hw _ (List.mem_of_getElem? (i := 114) rfl)
theorem w115 {a0 : Array Value} {Z : State} (hw : ∀ d ∈ tables_1, d.before a0 Z = true) : ((Jvm.Cond.code ({ cls := "com/example/orderly_lock/orderlylock/Grant", name := "<init>", desc := "(Lcom/example/orderly_lock/orderlylock/LockName;Ljava/lang/String;J)V" } : Jvm.MethodName) prog_2_method_1_code (5 : Nat) (Option.none : Option Jvm.ClassFile.FieldType)) : Jvm.Cond).before a0 Z = true := hw _ (List.mem_of_getElem? (i := 115) rfl)
theorem w116 {a0 : Array Value} {Z : State} (hw : ∀ d ∈ tables_1, d.before a0 Z = true) : ((Jvm.Cond.methodLink "com/example/orderly_lock/orderlylock/Grant" (1 : Nat) ({ cls := "java/lang/Record", name := "<init>", desc := "()V" } : Jvm.MethodName)) : Jvm.Cond).before a0 Z = true := hw _ (List.mem_of_getElem? (i := 116) rfl)
theorem w117 {a0 : Array Value} {Z : State} (hw : ∀ d ∈ tables_1, d.before a0 Z = true) : ((Jvm.Cond.stringLink "com/example/orderly_lock/orderlylock/Grant" (7 : Nat) "lock") : Jvm.Cond).before a0 Z = true := hw _ (List.mem_of_getElem? (i := 117) rfl)
theorem w118 {a0 : Array Value} {Z : State} (hw : ∀ d ∈ tables_1, d.before a0 Z = true) : ((Jvm.Cond.methodLink "com/example/orderly_lock/orderlylock/Grant" (9 : Nat) ({ cls := "java/util/Objects", name := "requireNonNull", desc := "(Ljava/lang/Object;Ljava/lang/String;)Ljava/lang/Object;" } : Jvm.MethodName)) : Jvm.Cond).before a0 Z = true := hw _ (List.mem_of_getElem? (i := 118) rfl)
theorem w119 {a0 : Array Value} {Z : State} (hw : ∀ d ∈ tables_1, d.before a0 Z = true) : ((Jvm.Cond.stringLink "com/example/orderly_lock/orderlylock/Grant" (15 : Nat) "session") : Jvm.Cond).before a0 Z = true := hw _ (List.mem_of_getElem? (i := 119) rfl)
theorem w120 {a0 : Array Value} {Z : State} (hw : ∀ d ∈ tables_1, d.before a0 Z = true) : ((Jvm.Cond.fieldLink "com/example/orderly_lock/orderlylock/Grant" (26 : Nat) "com/example/orderly_lock/orderlylock/Grant" "lock" "Lcom/example/orderly_lock/orderlylock/LockName;") : Jvm.Cond).before a0 Z = true := hw _ (List.mem_of_getElem? (i := 120) rfl)
theorem w121 {a0 : Array Value} {Z : State} (hw : ∀ d ∈ tables_1, d.before a0 Z = true) : ((Jvm.Cond.laysFinal "com/example/orderly_lock/orderlylock/Grant" "com/example/orderly_lock/orderlylock/Grant" "lock" "Lcom/example/orderly_lock/orderlylock/LockName;") : Jvm.Cond).before a0 Z = true := hw _ (List.mem_of_getElem? (i := 121) rfl)
theorem w122 {a0 : Array Value} {Z : State} (hw : ∀ d ∈ tables_1, d.before a0 Z = true) : ((Jvm.Cond.fieldLink "com/example/orderly_lock/orderlylock/Grant" (31 : Nat) "com/example/orderly_lock/orderlylock/Grant" "session" "Ljava/lang/String;") : Jvm.Cond).before a0 Z = true := hw _ (List.mem_of_getElem? (i := 122) rfl)
theorem w123 {a0 : Array Value} {Z : State} (hw : ∀ d ∈ tables_1, d.before a0 Z = true) : ((Jvm.Cond.laysFinal "com/example/orderly_lock/orderlylock/Grant" "com/example/orderly_lock/orderlylock/Grant" "session" "Ljava/lang/String;") : Jvm.Cond).before a0 Z = true := hw _ (List.mem_of_getElem? (i := 123) rfl)
theorem w124 {a0 : Array Value} {Z : State} (hw : ∀ d ∈ tables_1, d.before a0 Z = true) : ((Jvm.Cond.fieldLink "com/example/orderly_lock/orderlylock/Grant" (34 : Nat) "com/example/orderly_lock/orderlylock/Grant" "token" "J") : Jvm.Cond).before a0 Z = true := hw _ (List.mem_of_getElem? (i := 124) rfl)
theorem w125 {a0 : Array Value} {Z : State} (hw : ∀ d ∈ tables_1, d.before a0 Z = true) : ((Jvm.Cond.laysFinal "com/example/orderly_lock/orderlylock/Grant" "com/example/orderly_lock/orderlylock/Grant" "token" "J") : Jvm.Cond).before a0 Z = true := hw _ (List.mem_of_getElem? (i := 125) rfl)
theorem d7_0 : decode jdk_42_method_152_code 0 = .ok (.getstatic 38, 3) := by decide +kernel
theorem d7_3 : decode jdk_42_method_152_code 3 = .ok (.ifCond .eq 10, 3) := by decide +kernel
theorem d7_6 : decode jdk_42_method_152_code 6 = .ok (.aload_n 0, 1) := by decide +kernel
theorem d7_7 : decode jdk_42_method_152_code 7 = .ok (.getfield 15, 3) := by decide +kernel
theorem d7_10 : decode jdk_42_method_152_code 10 = .ok (.goto 4, 3) := by decide +kernel
theorem d7_14 : decode jdk_42_method_152_code 14 = .ok (.ireturn, 1) := by decide +kernel
theorem pn_0 : plainName "java/lang/String" = true := by first | (simp [plainName, overriddenIn]; done) | decide +kernel
theorem d9_0 : decode jdk_42_method_154_code 0 = .ok (.getstatic 38, 3) := by decide +kernel
theorem d9_3 : decode jdk_42_method_154_code 3 = .ok (.ifCond .eq 14, 3) := by decide +kernel
theorem d9_6 : decode jdk_42_method_154_code 6 = .ok (.aload_n 0, 1) := by decide +kernel
theorem d9_7 : decode jdk_42_method_154_code 7 = .ok (.getfield 15, 3) := by decide +kernel
theorem d9_10 : decode jdk_42_method_154_code 10 = .ok (.ifCond .ne 7, 3) := by decide +kernel
theorem d9_13 : decode jdk_42_method_154_code 13 = .ok (.iconst 1, 1) := by decide +kernel
theorem d9_14 : decode jdk_42_method_154_code 14 = .ok (.goto 4, 3) := by decide +kernel
theorem d9_18 : decode jdk_42_method_154_code 18 = .ok (.ireturn, 1) := by decide +kernel
theorem d6_0 : decode jdk_42_method_54_code 0 = .ok (.aload_n 0, 1) := by decide +kernel
theorem d6_1 : decode jdk_42_method_54_code 1 = .ok (.getfield 9, 3) := by decide +kernel
theorem d6_4 : decode jdk_42_method_54_code 4 = .ok (.arraylength, 1) := by decide +kernel
theorem d6_5 : decode jdk_42_method_54_code 5 = .ok (.aload_n 0, 1) := by decide +kernel
theorem d6_6 : decode jdk_42_method_54_code 6 = .ok (.invokevirtual 335, 3) := by decide +kernel
theorem pd_0 : parseMethodDescriptor "()B" = some ⟨[], some .byte⟩ := by decide +kernel
theorem d6_9 : decode jdk_42_method_54_code 9 = .ok (.ishr, 1) := by decide +kernel
theorem d6_10 : decode jdk_42_method_54_code 10 = .ok (.ireturn, 1) := by decide +kernel
theorem d5_0 : decode jdk_42_method_55_code 0 = .ok (.aload_n 0, 1) := by decide +kernel
theorem d5_1 : decode jdk_42_method_55_code 1 = .ok (.getfield 9, 3) := by decide +kernel
theorem d5_4 : decode jdk_42_method_55_code 4 = .ok (.arraylength, 1) := by decide +kernel
theorem d5_5 : decode jdk_42_method_55_code 5 = .ok (.ifCond .ne 7, 3) := by decide +kernel
theorem d5_8 : decode jdk_42_method_55_code 8 = .ok (.iconst 1, 1) := by decide +kernel
theorem d5_9 : decode jdk_42_method_55_code 9 = .ok (.goto 4, 3) := by decide +kernel
theorem d5_13 : decode jdk_42_method_55_code 13 = .ok (.ireturn, 1) := by decide +kernel
theorem d5_12 : decode jdk_42_method_55_code 12 = .ok (.iconst 0, 1) := by decide +kernel
theorem d12_0 : decode jdk_41_method_11_code 0 = .ok (.iload_n 0, 1) := by decide +kernel
theorem d12_1 : decode jdk_41_method_11_code 1 = .ok (.ifCond .lt 8, 3) := by decide +kernel
theorem d12_4 : decode jdk_41_method_11_code 4 = .ok (.iload_n 0, 1) := by decide +kernel
theorem d12_5 : decode jdk_41_method_11_code 5 = .ok (.iload_n 1, 1) := by decide +kernel
theorem d12_6 : decode jdk_41_method_11_code 6 = .ok (.if_icmp .lt 10, 3) := by decide +kernel
theorem d12_16 : decode jdk_41_method_11_code 16 = .ok (.iload_n 0, 1) := by decide +kernel
theorem d12_17 : decode jdk_41_method_11_code 17 = .ok (.ireturn, 1) := by decide +kernel
theorem pn_1 : plainName "jdk/internal/util/Preconditions" = true := by first | (simp [plainName, overriddenIn]; done) | decide +kernel
theorem d11_0 : decode jdk_42_method_155_code 0 = .ok (.iload_n 0, 1) := by decide +kernel
theorem d11_1 : decode jdk_42_method_155_code 1 = .ok (.iload_n 1, 1) := by decide +kernel
theorem d11_2 : decode jdk_42_method_155_code 2 = .ok (.getstatic 1053, 3) := by decide +kernel
theorem d11_5 : decode jdk_42_method_155_code 5 = .ok (.invokestatic 1059, 3) := by decide +kernel
theorem pd_1 : parseMethodDescriptor "(IILjava/util/function/BiFunction;)I" = some ⟨[.int, .int, (.object "java/util/function/BiFunction")], some .int⟩ := by decide +kernel
theorem d11_8 : decode jdk_42_method_155_code 8 = .ok (.pop, 1) := by decide +kernel
theorem d11_9 : decode jdk_42_method_155_code 9 = .ok (.return_, 1) := by decide +kernel
theorem d10_0 : decode jdk_43_method_2_code 0 = .ok (.iload_n 1, 1) := by decide +kernel
theorem d10_1 : decode jdk_43_method_2_code 1 = .ok (.aload_n 0, 1) := by decide +kernel
theorem d10_2 : decode jdk_43_method_2_code 2 = .ok (.arraylength, 1) := by decide +kernel
theorem d10_3 : decode jdk_43_method_2_code 3 = .ok (.invokestatic 9, 3) := by decide +kernel
theorem pd_2 : parseMethodDescriptor "(II)V" = some ⟨[.int, .int], none⟩ := by decide +kernel
theorem d10_6 : decode jdk_43_method_2_code 6 = .ok (.aload_n 0, 1) := by decide +kernel
theorem d10_7 : decode jdk_43_method_2_code 7 = .ok (.iload_n 1, 1) := by decide +kernel
theorem d10_8 : decode jdk_43_method_2_code 8 = .ok (.baload, 1) := by decide +kernel
theorem d10_9 : decode jdk_43_method_2_code 9 = .ok (.sipush 255, 3) := by decide +kernel
theorem d10_12 : decode jdk_43_method_2_code 12 = .ok (.iand, 1) := by decide +kernel
theorem d10_13 : decode jdk_43_method_2_code 13 = .ok (.i2c, 1) := by decide +kernel
theorem d10_14 : decode jdk_43_method_2_code 14 = .ok (.ireturn, 1) := by decide +kernel
theorem pn_2 : plainName "java/lang/StringLatin1" = true := by first | (simp [plainName, overriddenIn]; done) | decide +kernel
theorem d8_0 : decode jdk_42_method_56_code 0 = .ok (.aload_n 0, 1) := by decide +kernel
theorem d8_1 : decode jdk_42_method_56_code 1 = .ok (.invokevirtual 492, 3) := by decide +kernel
theorem pd_3 : parseMethodDescriptor "()Z" = some ⟨[], some .boolean⟩ := by decide +kernel
theorem d8_4 : decode jdk_42_method_56_code 4 = .ok (.ifCond .eq 12, 3) := by decide +kernel
theorem d8_7 : decode jdk_42_method_56_code 7 = .ok (.aload_n 0, 1) := by decide +kernel
theorem d8_8 : decode jdk_42_method_56_code 8 = .ok (.getfield 9, 3) := by decide +kernel
theorem d8_11 : decode jdk_42_method_56_code 11 = .ok (.iload_n 1, 1) := by decide +kernel
theorem d8_12 : decode jdk_42_method_56_code 12 = .ok (.invokestatic 495, 3) := by decide +kernel
theorem pd_4 : parseMethodDescriptor "([BI)C" = some ⟨[(.array .byte), .int], some .char⟩ := by decide +kernel
theorem d8_15 : decode jdk_42_method_56_code 15 = .ok (.ireturn, 1) := by decide +kernel
theorem d17_0 : decode jdk_43_method_3_code 0 = .ok (.iload_n 0, 1) := by decide +kernel
theorem d17_1 : decode jdk_43_method_3_code 1 = .ok (.sipush 255, 3) := by decide +kernel
theorem d17_4 : decode jdk_43_method_3_code 4 = .ok (.if_icmp .gt 7, 3) := by decide +kernel
theorem d17_7 : decode jdk_43_method_3_code 7 = .ok (.iconst 1, 1) := by decide +kernel
theorem d17_8 : decode jdk_43_method_3_code 8 = .ok (.goto 4, 3) := by decide +kernel
theorem d17_12 : decode jdk_43_method_3_code 12 = .ok (.ireturn, 1) := by decide +kernel
theorem d18_0 : decode jdk_43_method_46_code 0 = .ok (.iconst 1, 1) := by decide +kernel
theorem d18_1 : decode jdk_43_method_46_code 1 = .ok (.newarray .byte, 2) := by decide +kernel
theorem d18_3 : decode jdk_43_method_46_code 3 = .ok (.dup, 1) := by decide +kernel
theorem d18_4 : decode jdk_43_method_46_code 4 = .ok (.iconst 0, 1) := by decide +kernel
theorem d18_5 : decode jdk_43_method_46_code 5 = .ok (.iload_n 0, 1) := by decide +kernel
theorem d18_6 : decode jdk_43_method_46_code 6 = .ok (.i2b, 1) := by decide +kernel
theorem d18_7 : decode jdk_43_method_46_code 7 = .ok (.bastore, 1) := by decide +kernel
theorem d18_8 : decode jdk_43_method_46_code 8 = .ok (.areturn, 1) := by decide +kernel
theorem d19_0 : decode jdk_42_method_151_code 0 = .ok (.aload_n 0, 1) := by decide +kernel
theorem d19_1 : decode jdk_42_method_151_code 1 = .ok (.invokespecial 1, 3) := by decide +kernel
theorem d19_4 : decode jdk_42_method_151_code 4 = .ok (.aload_n 0, 1) := by decide +kernel
theorem d19_5 : decode jdk_42_method_151_code 5 = .ok (.aload_n 1, 1) := by decide +kernel
theorem d19_6 : decode jdk_42_method_151_code 6 = .ok (.putfield 9, 3) := by decide +kernel
theorem d19_9 : decode jdk_42_method_151_code 9 = .ok (.aload_n 0, 1) := by decide +kernel
theorem d19_10 : decode jdk_42_method_151_code 10 = .ok (.iload_n 2, 1) := by decide +kernel
theorem d19_11 : decode jdk_42_method_151_code 11 = .ok (.putfield 15, 3) := by decide +kernel
theorem d19_14 : decode jdk_42_method_151_code 14 = .ok (.return_, 1) := by decide +kernel
theorem d16_0 : decode jdk_42_method_139_code 0 = .ok (.getstatic 38, 3) := by decide +kernel
theorem d16_3 : decode jdk_42_method_139_code 3 = .ok (.ifCond .eq 23, 3) := by decide +kernel
theorem d16_6 : decode jdk_42_method_139_code 6 = .ok (.iload_n 0, 1) := by decide +kernel
theorem d16_7 : decode jdk_42_method_139_code 7 = .ok (.invokestatic 1015, 3) := by decide +kernel
theorem pd_5 : parseMethodDescriptor "(C)Z" = some ⟨[.char], some .boolean⟩ := by decide +kernel
theorem d16_10 : decode jdk_42_method_139_code 10 = .ok (.ifCond .eq 16, 3) := by decide +kernel
theorem d16_13 : decode jdk_42_method_139_code 13 = .ok (.new 10, 3) := by decide +kernel
theorem d16_16 : decode jdk_42_method_139_code 16 = .ok (.dup, 1) := by decide +kernel
theorem d16_17 : decode jdk_42_method_139_code 17 = .ok (.iload_n 0, 1) := by decide +kernel
theorem d16_18 : decode jdk_42_method_139_code 18 = .ok (.invokestatic 1018, 3) := by decide +kernel
theorem pd_6 : parseMethodDescriptor "(C)[B" = some ⟨[.char], some (.array .byte)⟩ := by decide +kernel
theorem d16_21 : decode jdk_42_method_139_code 21 = .ok (.iconst 0, 1) := by decide +kernel
theorem d16_22 : decode jdk_42_method_139_code 22 = .ok (.invokespecial 209, 3) := by decide +kernel
theorem pd_7 : parseMethodDescriptor "([BB)V" = some ⟨[(.array .byte), .byte], none⟩ := by decide +kernel
theorem d16_25 : decode jdk_42_method_139_code 25 = .ok (.areturn, 1) := by decide +kernel
theorem d2_0 : decode jdk_30_method_1_code 0 = .ok (.aload_n 0, 1) := by decide +kernel
theorem d2_1 : decode jdk_30_method_1_code 1 = .ok (.invokespecial 1, 3) := by decide +kernel
theorem d2_4 : decode jdk_30_method_1_code 4 = .ok (.return_, 1) := by decide +kernel
theorem pn_3 : plainName "java/lang/Record" = true := by first | (simp [plainName, overriddenIn]; done) | decide +kernel
theorem d4_0 : decode jdk_31_method_11_code 0 = .ok (.aload_n 0, 1) := by decide +kernel
theorem d4_1 : decode jdk_31_method_11_code 1 = .ok (.ifnonnull 12, 3) := by decide +kernel
theorem d4_13 : decode jdk_31_method_11_code 13 = .ok (.aload_n 0, 1) := by decide +kernel
theorem d4_14 : decode jdk_31_method_11_code 14 = .ok (.areturn, 1) := by decide +kernel
theorem pn_4 : plainName "java/util/Objects" = true := by first | (simp [plainName, overriddenIn]; done) | decide +kernel
theorem d13_0 : decode prog_9_method_3_code 0 = .ok (.iload_n 0, 1) := by decide +kernel
theorem d13_1 : decode prog_9_method_3_code 1 = .ok (.bipush 97, 2) := by decide +kernel
theorem d13_3 : decode prog_9_method_3_code 3 = .ok (.if_icmp .lt 9, 3) := by decide +kernel
theorem d13_6 : decode prog_9_method_3_code 6 = .ok (.iload_n 0, 1) := by decide +kernel
theorem d13_7 : decode prog_9_method_3_code 7 = .ok (.bipush 122, 2) := by decide +kernel
theorem d13_9 : decode prog_9_method_3_code 9 = .ok (.if_icmp .le 45, 3) := by decide +kernel
theorem d13_54 : decode prog_9_method_3_code 54 = .ok (.iconst 1, 1) := by decide +kernel
theorem d13_55 : decode prog_9_method_3_code 55 = .ok (.goto 4, 3) := by decide +kernel
theorem d13_59 : decode prog_9_method_3_code 59 = .ok (.ireturn, 1) := by decide +kernel
theorem pn_5 : plainName "com/example/orderly_lock/orderlylock/LockName" = true := by first | (simp [plainName, overriddenIn]; done) | decide +kernel
theorem d1_0 : decode prog_9_method_1_code 0 = .ok (.aload_n 0, 1) := by decide +kernel
theorem d1_1 : decode prog_9_method_1_code 1 = .ok (.invokespecial 1, 3) := by decide +kernel
theorem pd_8 : parseMethodDescriptor "()V" = some ⟨[], none⟩ := by decide +kernel
theorem d1_4 : decode prog_9_method_1_code 4 = .ok (.aload_n 1, 1) := by decide +kernel
theorem d1_5 : decode prog_9_method_1_code 5 = .ok (.ldc 7, 2) := by decide +kernel
theorem d1_7 : decode prog_9_method_1_code 7 = .ok (.invokestatic 9, 3) := by decide +kernel
theorem pd_9 : parseMethodDescriptor "(Ljava/lang/Object;Ljava/lang/String;)Ljava/lang/Object;" = some ⟨[(.object "java/lang/Object"), (.object "java/lang/String")], some (.object "java/lang/Object")⟩ := by decide +kernel
theorem d1_10 : decode prog_9_method_1_code 10 = .ok (.pop, 1) := by decide +kernel
theorem d1_11 : decode prog_9_method_1_code 11 = .ok (.aload_n 1, 1) := by decide +kernel
theorem d1_12 : decode prog_9_method_1_code 12 = .ok (.invokevirtual 15, 3) := by decide +kernel
theorem d1_15 : decode prog_9_method_1_code 15 = .ok (.ifCond .ne 13, 3) := by decide +kernel
theorem d1_18 : decode prog_9_method_1_code 18 = .ok (.aload_n 1, 1) := by decide +kernel
theorem d1_19 : decode prog_9_method_1_code 19 = .ok (.invokevirtual 21, 3) := by decide +kernel
theorem pd_10 : parseMethodDescriptor "()I" = some ⟨[], some .int⟩ := by decide +kernel
theorem d1_22 : decode prog_9_method_1_code 22 = .ok (.sipush 128, 3) := by decide +kernel
theorem d1_25 : decode prog_9_method_1_code 25 = .ok (.if_icmp .le 20, 3) := by decide +kernel
theorem d1_45 : decode prog_9_method_1_code 45 = .ok (.iconst 0, 1) := by decide +kernel
theorem d1_46 : decode prog_9_method_1_code 46 = .ok (.istore_n 2, 1) := by decide +kernel
theorem d1_47 : decode prog_9_method_1_code 47 = .ok (.iload_n 2, 1) := by decide +kernel
theorem d1_48 : decode prog_9_method_1_code 48 = .ok (.aload_n 1, 1) := by decide +kernel
theorem d1_49 : decode prog_9_method_1_code 49 = .ok (.invokevirtual 21, 3) := by decide +kernel
theorem d1_52 : decode prog_9_method_1_code 52 = .ok (.if_icmp .ge 53, 3) := by decide +kernel
theorem d1_55 : decode prog_9_method_1_code 55 = .ok (.aload_n 1, 1) := by decide +kernel
theorem d1_56 : decode prog_9_method_1_code 56 = .ok (.iload_n 2, 1) := by decide +kernel
theorem d1_57 : decode prog_9_method_1_code 57 = .ok (.invokevirtual 36, 3) := by decide +kernel
theorem pd_11 : parseMethodDescriptor "(I)C" = some ⟨[.int], some .char⟩ := by decide +kernel
theorem d1_60 : decode prog_9_method_1_code 60 = .ok (.istore_n 3, 1) := by decide +kernel
theorem d1_61 : decode prog_9_method_1_code 61 = .ok (.iload_n 3, 1) := by decide +kernel
theorem d1_62 : decode prog_9_method_1_code 62 = .ok (.invokestatic 40, 3) := by decide +kernel
theorem d1_65 : decode prog_9_method_1_code 65 = .ok (.ifCond .ne 34, 3) := by decide +kernel
theorem d1_99 : decode prog_9_method_1_code 99 = .ok (.iinc 2 1, 3) := by decide +kernel
theorem d1_102 : decode prog_9_method_1_code 102 = .ok (.goto (-55), 3) := by decide +kernel
theorem d1_105 : decode prog_9_method_1_code 105 = .ok (.aload_n 0, 1) := by decide +kernel
theorem d1_106 : decode prog_9_method_1_code 106 = .ok (.aload_n 1, 1) := by decide +kernel
theorem d1_107 : decode prog_9_method_1_code 107 = .ok (.putfield 58, 3) := by decide +kernel
theorem d1_110 : decode prog_9_method_1_code 110 = .ok (.return_, 1) := by decide +kernel
theorem d20_0 : decode prog_2_method_1_code 0 = .ok (.aload_n 0, 1) := by decide +kernel
theorem d20_1 : decode prog_2_method_1_code 1 = .ok (.invokespecial 1, 3) := by decide +kernel
theorem d20_4 : decode prog_2_method_1_code 4 = .ok (.aload_n 1, 1) := by decide +kernel
theorem d20_5 : decode prog_2_method_1_code 5 = .ok (.ldc 7, 2) := by decide +kernel
theorem d20_7 : decode prog_2_method_1_code 7 = .ok (.invokestatic 9, 3) := by decide +kernel
theorem d20_10 : decode prog_2_method_1_code 10 = .ok (.pop, 1) := by decide +kernel
theorem d20_11 : decode prog_2_method_1_code 11 = .ok (.aload_n 2, 1) := by decide +kernel
theorem d20_12 : decode prog_2_method_1_code 12 = .ok (.ldc 15, 2) := by decide +kernel
theorem d20_14 : decode prog_2_method_1_code 14 = .ok (.invokestatic 9, 3) := by decide +kernel
theorem d20_17 : decode prog_2_method_1_code 17 = .ok (.pop, 1) := by decide +kernel
theorem d20_18 : decode prog_2_method_1_code 18 = .ok (.lload_n 3, 1) := by decide +kernel
theorem d20_19 : decode prog_2_method_1_code 19 = .ok (.lconst 1, 1) := by decide +kernel
theorem d20_20 : decode prog_2_method_1_code 20 = .ok (.lcmp, 1) := by decide +kernel
theorem d20_21 : decode prog_2_method_1_code 21 = .ok (.ifCond .ge 17, 3) := by decide +kernel
theorem d20_38 : decode prog_2_method_1_code 38 = .ok (.aload_n 0, 1) := by decide +kernel
theorem d20_39 : decode prog_2_method_1_code 39 = .ok (.aload_n 1, 1) := by decide +kernel
theorem d20_40 : decode prog_2_method_1_code 40 = .ok (.putfield 26, 3) := by decide +kernel
theorem d20_43 : decode prog_2_method_1_code 43 = .ok (.aload_n 0, 1) := by decide +kernel
theorem d20_44 : decode prog_2_method_1_code 44 = .ok (.aload_n 2, 1) := by decide +kernel
theorem d20_45 : decode prog_2_method_1_code 45 = .ok (.putfield 31, 3) := by decide +kernel
theorem d20_48 : decode prog_2_method_1_code 48 = .ok (.aload_n 0, 1) := by decide +kernel
theorem d20_49 : decode prog_2_method_1_code 49 = .ok (.lload_n 3, 1) := by decide +kernel
theorem d20_50 : decode prog_2_method_1_code 50 = .ok (.putfield 34, 3) := by decide +kernel
theorem d20_53 : decode prog_2_method_1_code 53 = .ok (.return_, 1) := by decide +kernel
theorem pn_6 : plainName "com/example/orderly_lock/orderlylock/Grant" = true := by first | (simp [plainName, overriddenIn]; done) | decide +kernel
theorem d14_0 : decode prog_10_method_1_code 0 = .ok (.aload_n 0, 1) := by decide +kernel
theorem d14_1 : decode prog_10_method_1_code 1 = .ok (.invokespecial 1, 3) := by decide +kernel
theorem d14_4 : decode prog_10_method_1_code 4 = .ok (.aload_n 1, 1) := by decide +kernel
theorem d14_5 : decode prog_10_method_1_code 5 = .ok (.ldc 7, 2) := by decide +kernel
theorem d14_7 : decode prog_10_method_1_code 7 = .ok (.invokestatic 9, 3) := by decide +kernel
theorem d14_10 : decode prog_10_method_1_code 10 = .ok (.pop, 1) := by decide +kernel
theorem d14_11 : decode prog_10_method_1_code 11 = .ok (.iload 5, 2) := by decide +kernel
theorem d14_13 : decode prog_10_method_1_code 13 = .ok (.ifCond .eq 17, 3) := by decide +kernel
theorem d14_30 : decode prog_10_method_1_code 30 = .ok (.aload_n 0, 1) := by decide +kernel
theorem d14_31 : decode prog_10_method_1_code 31 = .ok (.aload_n 1, 1) := by decide +kernel
theorem d14_32 : decode prog_10_method_1_code 32 = .ok (.putfield 22, 3) := by decide +kernel
theorem d14_35 : decode prog_10_method_1_code 35 = .ok (.aload_n 0, 1) := by decide +kernel
theorem d14_36 : decode prog_10_method_1_code 36 = .ok (.aload_n 2, 1) := by decide +kernel
theorem d14_37 : decode prog_10_method_1_code 37 = .ok (.putfield 27, 3) := by decide +kernel
theorem d14_40 : decode prog_10_method_1_code 40 = .ok (.aload_n 0, 1) := by decide +kernel
theorem d14_41 : decode prog_10_method_1_code 41 = .ok (.lload_n 3, 1) := by decide +kernel
theorem d14_42 : decode prog_10_method_1_code 42 = .ok (.putfield 31, 3) := by decide +kernel
theorem d14_45 : decode prog_10_method_1_code 45 = .ok (.aload_n 0, 1) := by decide +kernel
theorem d14_46 : decode prog_10_method_1_code 46 = .ok (.iload 5, 2) := by decide +kernel
theorem d14_48 : decode prog_10_method_1_code 48 = .ok (.putfield 35, 3) := by decide +kernel
theorem d14_51 : decode prog_10_method_1_code 51 = .ok (.return_, 1) := by decide +kernel
theorem pn_7 : plainName "com/example/orderly_lock/orderlylock/LockState" = true := by first | (simp [plainName, overriddenIn]; done) | decide +kernel
theorem d14_16 : decode prog_10_method_1_code 16 = .ok (.aload_n 2, 1) := by decide +kernel
theorem d14_17 : decode prog_10_method_1_code 17 = .ok (.ifnull 13, 3) := by decide +kernel
theorem d15_0 : decode prog_10_method_2_code 0 = .ok (.aload_n 0, 1) := by decide +kernel
theorem d15_1 : decode prog_10_method_2_code 1 = .ok (.getfield 27, 3) := by decide +kernel
theorem d15_4 : decode prog_10_method_2_code 4 = .ok (.ifnull 7, 3) := by decide +kernel
theorem d15_7 : decode prog_10_method_2_code 7 = .ok (.iconst 1, 1) := by decide +kernel
theorem d15_8 : decode prog_10_method_2_code 8 = .ok (.goto 4, 3) := by decide +kernel
theorem d15_12 : decode prog_10_method_2_code 12 = .ok (.ireturn, 1) := by decide +kernel
theorem d15_11 : decode prog_10_method_2_code 11 = .ok (.iconst 0, 1) := by decide +kernel
theorem pd_12 : parseMethodDescriptor "(Ljava/lang/String;)V" = some ⟨[(.object "java/lang/String")], none⟩ := by decide +kernel
theorem pd_13 : parseMethodDescriptor "(Lcom/example/orderly_lock/orderlylock/LockName;Lcom/example/orderly_lock/orderlylock/Grant;JZ)V" = some ⟨[(.object "com/example/orderly_lock/orderlylock/LockName"), (.object "com/example/orderly_lock/orderlylock/Grant"), .long, .boolean], none⟩ := by decide +kernel
theorem pd_14 : parseMethodDescriptor "(C)Ljava/lang/String;" = some ⟨[.char], some (.object "java/lang/String")⟩ := by decide +kernel
theorem pd_15 : parseMethodDescriptor "(Lcom/example/orderly_lock/orderlylock/LockName;Ljava/lang/String;J)V" = some ⟨[(.object "com/example/orderly_lock/orderlylock/LockName"), (.object "java/lang/String"), .long], none⟩ := by decide +kernel
theorem pn_8 : plainName "com/example/orderly_lock/orderlylock/LockStateHeldPinLaw" = true := by first | (simp [plainName, overriddenIn]; done) | decide +kernel
theorem ef_7 (m : MethodId) (a : Addr)  : entryFrame m #[(.ref a)] 1 = mkF m 0 #[.val (.ref a)] [] := by first | (simp [entryFrame, mkF, argsToLocals, Value.category]; done) | rfl
def Q7 (Z : State) (a : Addr) (cs : Int32) (h0 : Heap) (n0 : Nat) (v_ : Option Value) (h_ : Heap) (L_ : List Loc) : Prop := v_ = some (.int (0 : Int32)) ∧ Fr n0 L_ ∧ h_ = h0
set_option maxRecDepth 65536 in
set_option maxHeartbeats 40000000 in
theorem rm7 (l : Launch) (Z : State) (a0 : Array Value) (hw : ∀ d ∈ tables_1, d.before a0 Z = true) (ws : List Jvm.Cond) (a : Addr) (cs : Int32) (h0 : Heap) (n0 : Nat) (Z0 : n0 ≤ h0.size) (P0 : Old Z n0 h0) (P1 : Sta Z Z.heap "java/lang/String" "COMPACT_STRINGS" "Z" (.int cs)) (P2 : ¬ (cs = (0 : Int32))) (P3 : Fld Z h0 a "java/lang/String" "coder" "B" (.int (0 : Int32))) :
    MetFree l (⟨"java/lang/String", "coder", "()B"⟩ : MethodName) (head1 (Jvm.Cond.code (⟨"java/lang/String", "coder", "()B"⟩ : MethodName) jdk_42_method_152_code 1 (some .byte) :: ws) ({ frames := 0, cells := 0, slots := 0, locals := 0 } : Room)) (fun A_ U => A_ = #[(.ref a)] ∧ Z.Warmed39 U.vm ∧ U.heap = h0) (fun _ _ _ _ _ => True) (fun _ U_ o_ U'_ => ∃ v_ L_, o_ = .returned v_ ∧ Q7 Z a cs h0 n0 v_ U'_.heap L_ ∧ FrameEnd U_ o_ U'_ L_ ({ frames := 0, cells := 0, slots := 0, locals := 0 } : Room).cells ({ frames := 0, cells := 0, slots := 0, locals := 0 } : Room).slots) := by
  refine MetFree.of_bodySF (plainFor_of_name pn_0) hisR ?_
  intro p e s m args below meth c s₁ Bd hml0 hP hK
  obtain ⟨rfl, hZ, hh⟩ := hP
  have hx := Bd.exec
  have hby := Bd.bytes
  have hml : c.maxLocals = 1 := hml0
  have hown : s.vm.findClass "java/lang/String" = some m.cls := findClass_of_methodNamed Bd.named
  have hnm := (name_of_methodNamed Bd.named Bd.method).1
  have hlk : meth.locks = false := Bd.notSynchronized
  have X0 : Stand p l e ({ frames := 0, cells := 0, slots := 0, locals := 0 } : Room) s m #[(.ref a)] below meth c s₁ [] 0 0 := Stand.of_body Bd
  have e0 : s₁.heap = h0 := by rw [← hh, Bd.state]; rfl
  have N0 := Fr.nil n0
  have K0 : Keep h0 h0 [] := Keep.refl _ _
  refine own_cast (ef_7 m a) ?_
  show OwnGo p e below s (Q7 Z a cs h0 n0) ({ frames := 0, cells := 0, slots := 0, locals := 0 } : Room).cells ({ frames := 0, cells := 0, slots := 0, locals := 0 } : Room).slots (s₁.setTop (mkF m 0 #[.val (.ref a)] []))
  obtain ⟨T1, X1, e1, st1⟩ := getS2 X0 hx hZ hown (host := "") (Or.inl (w43 hw)) Via.refl e0 (P1.ext P0.2) (g := (mkF m 0 #[.val (.ref a)] [])) rfl (hb hby d7_0)
  refine own_on st1 ?_
  show OwnGo p e below s _ _ _ (T1.setTop (mkF m 3 #[.val (.ref a)] [(.int cs)]))
  refine own_on (fun t k => XS.ifNo X1.here hx rfl (hb hby d7_3) rfl ((if0 _ _).trans (feq P2).1) k) ?_
  show OwnGo p e below s _ _ _ (T1.setTop (mkF m 6 #[.val (.ref a)] []))
  refine own_on (fun t k => XS.aloadN X1.here hx rfl (hb hby d7_6) rfl rfl k) ?_
  show OwnGo p e below s _ _ _ (T1.setTop (mkF m 7 #[.val (.ref a)] [(.ref a)]))
  obtain ⟨T2, X2, e2, st2⟩ := getF X1 hx hZ hown (host := "") (Or.inl (w44 hw)) Via.refl e1 P3 (g := (mkF m 7 #[.val (.ref a)] [(.ref a)])) rfl rfl (hb hby d7_7)
  refine own_on st2 ?_
  show OwnGo p e below s _ _ _ (T2.setTop (mkF m 10 #[.val (.ref a)] [(.int (0 : Int32))]))
  refine own_on (fun t k => XS.goto X2.here hx rfl (pc0 := 10) (pc' := 14) rfl (hb hby d7_10) (by decide) (by decide) k) ?_
  show OwnGo p e below s _ _ _ (T2.setTop (mkF m 14 #[.val (.ref a)] [(.int (0 : Int32))]))
  exact own_retN X2 hx hlk (t := .byte) Bd.returns (by simp) (hb hby d7_14) e2 ⟨rfl, N0, rfl⟩ (by decide) (by decide)
theorem ef_9 (m : MethodId) (a : Addr)  : entryFrame m #[(.ref a)] 1 = mkF m 0 #[.val (.ref a)] [] := by first | (simp [entryFrame, mkF, argsToLocals, Value.category]; done) | rfl
def Q9 (Z : State) (a : Addr) (cs : Int32) (h0 : Heap) (n0 : Nat) (v_ : Option Value) (h_ : Heap) (L_ : List Loc) : Prop := v_ = some (.int (1 : Int32)) ∧ Fr n0 L_ ∧ h_ = h0
set_option maxRecDepth 65536 in
set_option maxHeartbeats 40000000 in
theorem rm9 (l : Launch) (Z : State) (a0 : Array Value) (hw : ∀ d ∈ tables_1, d.before a0 Z = true) (ws : List Jvm.Cond) (a : Addr) (cs : Int32) (h0 : Heap) (n0 : Nat) (Z0 : n0 ≤ h0.size) (P0 : Old Z n0 h0) (P1 : Sta Z Z.heap "java/lang/String" "COMPACT_STRINGS" "Z" (.int cs)) (P2 : ¬ (cs = (0 : Int32))) (P3 : Fld Z h0 a "java/lang/String" "coder" "B" (.int (0 : Int32))) :
    MetFree l (⟨"java/lang/String", "isLatin1", "()Z"⟩ : MethodName) (head1 (Jvm.Cond.code (⟨"java/lang/String", "isLatin1", "()Z"⟩ : MethodName) jdk_42_method_154_code 1 (some .boolean) :: ws) ({ frames := 0, cells := 0, slots := 0, locals := 0 } : Room)) (fun A_ U => A_ = #[(.ref a)] ∧ Z.Warmed39 U.vm ∧ U.heap = h0) (fun _ _ _ _ _ => True) (fun _ U_ o_ U'_ => ∃ v_ L_, o_ = .returned v_ ∧ Q9 Z a cs h0 n0 v_ U'_.heap L_ ∧ FrameEnd U_ o_ U'_ L_ ({ frames := 0, cells := 0, slots := 0, locals := 0 } : Room).cells ({ frames := 0, cells := 0, slots := 0, locals := 0 } : Room).slots) := by
  refine MetFree.of_bodySF (plainFor_of_name pn_0) hisR ?_
  intro p e s m args below meth c s₁ Bd hml0 hP hK
  obtain ⟨rfl, hZ, hh⟩ := hP
  have hx := Bd.exec
  have hby := Bd.bytes
  have hml : c.maxLocals = 1 := hml0
  have hown : s.vm.findClass "java/lang/String" = some m.cls := findClass_of_methodNamed Bd.named
  have hnm := (name_of_methodNamed Bd.named Bd.method).1
  have hlk : meth.locks = false := Bd.notSynchronized
  have X0 : Stand p l e ({ frames := 0, cells := 0, slots := 0, locals := 0 } : Room) s m #[(.ref a)] below meth c s₁ [] 0 0 := Stand.of_body Bd
  have e0 : s₁.heap = h0 := by rw [← hh, Bd.state]; rfl
  have N0 := Fr.nil n0
  have K0 : Keep h0 h0 [] := Keep.refl _ _
  refine own_cast (ef_9 m a) ?_
  show OwnGo p e below s (Q9 Z a cs h0 n0) ({ frames := 0, cells := 0, slots := 0, locals := 0 } : Room).cells ({ frames := 0, cells := 0, slots := 0, locals := 0 } : Room).slots (s₁.setTop (mkF m 0 #[.val (.ref a)] []))
  obtain ⟨T1, X1, e1, st1⟩ := getS2 X0 hx hZ hown (host := "") (Or.inl (w43 hw)) Via.refl e0 (P1.ext P0.2) (g := (mkF m 0 #[.val (.ref a)] [])) rfl (hb hby d9_0)
  refine own_on st1 ?_
  show OwnGo p e below s _ _ _ (T1.setTop (mkF m 3 #[.val (.ref a)] [(.int cs)]))
  refine own_on (fun t k => XS.ifNo X1.here hx rfl (hb hby d9_3) rfl ((if0 _ _).trans (feq P2).1) k) ?_
  show OwnGo p e below s _ _ _ (T1.setTop (mkF m 6 #[.val (.ref a)] []))
  refine own_on (fun t k => XS.aloadN X1.here hx rfl (hb hby d9_6) rfl rfl k) ?_
  show OwnGo p e below s _ _ _ (T1.setTop (mkF m 7 #[.val (.ref a)] [(.ref a)]))
  obtain ⟨T2, X2, e2, st2⟩ := getF X1 hx hZ hown (host := "") (Or.inl (w44 hw)) Via.refl e1 P3 (g := (mkF m 7 #[.val (.ref a)] [(.ref a)])) rfl rfl (hb hby d9_7)
  refine own_on st2 ?_
  show OwnGo p e below s _ _ _ (T2.setTop (mkF m 10 #[.val (.ref a)] [(.int (0 : Int32))]))
  refine own_on (fun t k => XS.ifNo X2.here hx rfl (hb hby d9_10) rfl ((if0 _ _).trans (teq (by decide : (0 : Int32) = (0 : Int32))).2) k) ?_
  show OwnGo p e below s _ _ _ (T2.setTop (mkF m 13 #[.val (.ref a)] []))
  refine own_on (fun t k => XS.iconst X2.here hx rfl (hb hby d9_13) k) ?_
  show OwnGo p e below s _ _ _ (T2.setTop (mkF m 14 #[.val (.ref a)] [(.int (1 : Int32))]))
  refine own_on (fun t k => XS.goto X2.here hx rfl (pc0 := 14) (pc' := 18) rfl (hb hby d9_14) (by decide) (by decide) k) ?_
  show OwnGo p e below s _ _ _ (T2.setTop (mkF m 18 #[.val (.ref a)] [(.int (1 : Int32))]))
  exact own_retN X2 hx hlk (t := .boolean) Bd.returns (by simp) (hb hby d9_18) e2 ⟨rfl, N0, rfl⟩ (by decide) (by decide)
theorem ef_6 (m : MethodId) (a : Addr)  : entryFrame m #[(.ref a)] 1 = mkF m 0 #[.val (.ref a)] [] := by first | (simp [entryFrame, mkF, argsToLocals, Value.category]; done) | rfl
def Q6 (Z : State) (a : Addr) (cs : Int32) (bt : Addr) (kb : ClassId) (zz : Int32) (vs : List Value) (dv : Value) (h0 : Heap) (n0 : Nat) (v_ : Option Value) (h_ : Heap) (L_ : List Loc) : Prop := v_ = some (.int zz) ∧ Fr n0 L_ ∧ h_ = h0
set_option maxRecDepth 65536 in
set_option maxHeartbeats 40000000 in
theorem rm6 (l : Launch) (Z : State) (a0 : Array Value) (hw : ∀ d ∈ tables_1, d.before a0 Z = true) (ws : List Jvm.Cond) (a : Addr) (cs : Int32) (bt : Addr) (kb : ClassId) (zz : Int32) (vs : List Value) (dv : Value) (h0 : Heap) (n0 : Nat) (Z0 : n0 ≤ h0.size) (P0 : Old Z n0 h0) (P1 : Sta Z Z.heap "java/lang/String" "COMPACT_STRINGS" "Z" (.int cs)) (P2 : ¬ (cs = (0 : Int32))) (P3 : Exa Z h0 a "java/lang/String") (P4 : Fld Z h0 a "java/lang/String" "coder" "B" (.int (0 : Int32))) (P5 : Fld Z h0 a "java/lang/String" "value" "[B" (.ref bt)) (P6 : Arv Z h0 bt kb .byte zz vs dv) :
    MetFree l (⟨"java/lang/String", "length", "()I"⟩ : MethodName) (head1 (Jvm.Cond.code (⟨"java/lang/String", "length", "()I"⟩ : MethodName) jdk_42_method_54_code 1 (some .int) :: ws) ({ frames := 1, cells := 0, slots := 0, locals := 13 } : Room)) (fun A_ U => A_ = #[(.ref a)] ∧ Z.Warmed39 U.vm ∧ U.heap = h0) (fun _ _ _ _ _ => True) (fun _ U_ o_ U'_ => ∃ v_ L_, o_ = .returned v_ ∧ Q6 Z a cs bt kb zz vs dv h0 n0 v_ U'_.heap L_ ∧ FrameEnd U_ o_ U'_ L_ ({ frames := 1, cells := 0, slots := 0, locals := 13 } : Room).cells ({ frames := 1, cells := 0, slots := 0, locals := 13 } : Room).slots) := by
  refine MetFree.of_bodySF (plainFor_of_name pn_0) hisR ?_
  intro p e s m args below meth c s₁ Bd hml0 hP hK
  obtain ⟨rfl, hZ, hh⟩ := hP
  have hx := Bd.exec
  have hby := Bd.bytes
  have hml : c.maxLocals = 1 := hml0
  have hown : s.vm.findClass "java/lang/String" = some m.cls := findClass_of_methodNamed Bd.named
  have hnm := (name_of_methodNamed Bd.named Bd.method).1
  have hlk : meth.locks = false := Bd.notSynchronized
  have X0 : Stand p l e ({ frames := 1, cells := 0, slots := 0, locals := 13 } : Room) s m #[(.ref a)] below meth c s₁ [] 0 0 := Stand.of_body Bd
  have e0 : s₁.heap = h0 := by rw [← hh, Bd.state]; rfl
  have N0 := Fr.nil n0
  have K0 : Keep h0 h0 [] := Keep.refl _ _
  refine own_cast (ef_6 m a) ?_
  show OwnGo p e below s (Q6 Z a cs bt kb zz vs dv h0 n0) ({ frames := 1, cells := 0, slots := 0, locals := 13 } : Room).cells ({ frames := 1, cells := 0, slots := 0, locals := 13 } : Room).slots (s₁.setTop (mkF m 0 #[.val (.ref a)] []))
  refine own_on (fun t k => XS.aloadN X0.here hx rfl (hb hby d6_0) rfl rfl k) ?_
  show OwnGo p e below s _ _ _ (s₁.setTop (mkF m 1 #[.val (.ref a)] [(.ref a)]))
  obtain ⟨T1, X1, e1, st1⟩ := getF X0 hx hZ hown (host := "") (Or.inl (w32 hw)) Via.refl e0 P5 (g := (mkF m 1 #[.val (.ref a)] [(.ref a)])) rfl rfl (hb hby d6_1)
  refine own_on st1 ?_
  show OwnGo p e below s _ _ _ (T1.setTop (mkF m 4 #[.val (.ref a)] [(.ref bt)]))
  obtain ⟨cl2, Ar2, q2, S2, M2, H2, G2⟩ := id P6
  refine own_on (X1.arraylength hx (by rw [e1]; exact Ar2.1) (State.isArrayOf_alike hZ.alike Ar2.2.1) (g := (mkF m 4 #[.val (.ref a)] [(.ref bt)])) rfl rfl (hb hby d6_4)) ?_
  rw [len_of S2 M2]
  show OwnGo p e below s _ _ _ (T1.setTop (mkF m 5 #[.val (.ref a)] [(.int zz)]))
  refine own_on (fun t k => XS.aloadN X1.here hx rfl (hb hby d6_5) rfl rfl k) ?_
  show OwnGo p e below s _ _ _ (T1.setTop (mkF m 6 #[.val (.ref a)] [(.ref a), (.int zz)]))
  obtain ⟨cq3, kq3, q3a, q3b, q3c⟩ := isOf hZ e1 P3
  obtain ⟨_, _, ⟨T3, L3, k3, n3⟩, -, X3, ⟨Lc3, hQ3, l3, y3, z3⟩, st3⟩ := X1.virtualBack hx (y := (⟨"java/lang/String", "coder", "()B"⟩ : MethodName)) (z := (⟨"java/lang/String", "coder", "()B"⟩ : MethodName)) hown (mvT hZ (w38 hw)) (mvT hZ (w39 hw)) (notFace_of_selects (args := #[]) (mvT hZ (w41 hw))) (mvT hZ (w41 hw)) (mvT hZ (w40 hw)) (by decide) (backOf (W := 1) (rm7 l Z a0 hw [] a cs h0 n0 Z0 P0 P1 P2 P4) hZ (w42 hw) (w4 hw) (by decide) (by decide)) q3a q3c (g := (mkF m 6 #[.val (.ref a)] [(.ref a), (.int zz)])) rfl (by rw [hml]; rfl) (Steps.refl _) (argsL := []) (rest := [(.int zz)]) (lenOf pd_0 rfl) rfl (by show 2 * 0 + _ ≤ _; exact Nat.le_of_eq rfl) (hb hby d6_6) (fun _ _ => ⟨rfl, e1, (by decide : 0 + 0 ≤ _), (by decide : 0 + 0 ≤ _)⟩)
  dsimp only [Pt.U, Pt.locs, Pt.cells, Pt.slots] at X3 l3 y3 z3 st3 hQ3
  replace X3 := own_num (c' := 0) (n' := 0) X3 l3 (y3.trans rfl) (z3.trans rfl)
  obtain ⟨rfl, N3q, e3⟩ := hQ3
  have N3 := Fr.app N0 N3q
  refine own_tr st3 ?_
  show OwnGo p e below s _ _ _ (T3.setTop (mkF m 9 #[.val (.ref a)] [(.int (0 : Int32)), (.int zz)]))
  refine own_on (fun t k => XS.ishr X3.here hx rfl (hb hby d6_9) rfl k) ?_
  show OwnGo p e below s _ _ _ (T3.setTop (mkF m 10 #[.val (.ref a)] [(.int (zz >>> ((0 : Int32) &&& 31)))]))
  exact own_retI X3 hx hlk Bd.returns (hb hby d6_10) e3 ⟨(by rw [own_shr0]), N3, rfl⟩ (by decide) (by decide)
theorem ef_5 (m : MethodId) (a : Addr)  : entryFrame m #[(.ref a)] 1 = mkF m 0 #[.val (.ref a)] [] := by first | (simp [entryFrame, mkF, argsToLocals, Value.category]; done) | rfl
def Q5 (Z : State) (a : Addr) (bt : Addr) (kb : ClassId) (zz : Int32) (vs : List Value) (dv : Value) (h0 : Heap) (n0 : Nat) (v_ : Option Value) (h_ : Heap) (L_ : List Loc) : Prop := v_ = some (.int (own_isz zz)) ∧ Fr n0 L_ ∧ h_ = h0
set_option maxRecDepth 65536 in
set_option maxHeartbeats 40000000 in
theorem rm5 (l : Launch) (Z : State) (a0 : Array Value) (hw : ∀ d ∈ tables_1, d.before a0 Z = true) (ws : List Jvm.Cond) (a : Addr) (bt : Addr) (kb : ClassId) (zz : Int32) (vs : List Value) (dv : Value) (h0 : Heap) (n0 : Nat) (Z0 : n0 ≤ h0.size) (P0 : Exa Z h0 a "java/lang/String") (P1 : Fld Z h0 a "java/lang/String" "value" "[B" (.ref bt)) (P2 : Arv Z h0 bt kb .byte zz vs dv) :
    MetFree l (⟨"java/lang/String", "isEmpty", "()Z"⟩ : MethodName) (head1 (Jvm.Cond.code (⟨"java/lang/String", "isEmpty", "()Z"⟩ : MethodName) jdk_42_method_55_code 1 (some .boolean) :: ws) ({ frames := 0, cells := 0, slots := 0, locals := 0 } : Room)) (fun A_ U => A_ = #[(.ref a)] ∧ Z.Warmed39 U.vm ∧ U.heap = h0) (fun _ _ _ _ _ => True) (fun _ U_ o_ U'_ => ∃ v_ L_, o_ = .returned v_ ∧ Q5 Z a bt kb zz vs dv h0 n0 v_ U'_.heap L_ ∧ FrameEnd U_ o_ U'_ L_ ({ frames := 0, cells := 0, slots := 0, locals := 0 } : Room).cells ({ frames := 0, cells := 0, slots := 0, locals := 0 } : Room).slots) := by
  refine MetFree.of_bodySF (plainFor_of_name pn_0) hisR ?_
  intro p e s m args below meth c s₁ Bd hml0 hP hK
  obtain ⟨rfl, hZ, hh⟩ := hP
  have hx := Bd.exec
  have hby := Bd.bytes
  have hml : c.maxLocals = 1 := hml0
  have hown : s.vm.findClass "java/lang/String" = some m.cls := findClass_of_methodNamed Bd.named
  have hnm := (name_of_methodNamed Bd.named Bd.method).1
  have hlk : meth.locks = false := Bd.notSynchronized
  have X0 : Stand p l e ({ frames := 0, cells := 0, slots := 0, locals := 0 } : Room) s m #[(.ref a)] below meth c s₁ [] 0 0 := Stand.of_body Bd
  have e0 : s₁.heap = h0 := by rw [← hh, Bd.state]; rfl
  have N0 := Fr.nil n0
  have K0 : Keep h0 h0 [] := Keep.refl _ _
  refine own_cast (ef_5 m a) ?_
  show OwnGo p e below s (Q5 Z a bt kb zz vs dv h0 n0) ({ frames := 0, cells := 0, slots := 0, locals := 0 } : Room).cells ({ frames := 0, cells := 0, slots := 0, locals := 0 } : Room).slots (s₁.setTop (mkF m 0 #[.val (.ref a)] []))
  refine own_on (fun t k => XS.aloadN X0.here hx rfl (hb hby d5_0) rfl rfl k) ?_
  show OwnGo p e below s _ _ _ (s₁.setTop (mkF m 1 #[.val (.ref a)] [(.ref a)]))
  obtain ⟨T1, X1, e1, st1⟩ := getF X0 hx hZ hown (host := "") (Or.inl (w32 hw)) Via.refl e0 P1 (g := (mkF m 1 #[.val (.ref a)] [(.ref a)])) rfl rfl (hb hby d5_1)
  refine own_on st1 ?_
  show OwnGo p e below s _ _ _ (T1.setTop (mkF m 4 #[.val (.ref a)] [(.ref bt)]))
  obtain ⟨cl2, Ar2, q2, S2, M2, H2, G2⟩ := id P2
  refine own_on (X1.arraylength hx (by rw [e1]; exact Ar2.1) (State.isArrayOf_alike hZ.alike Ar2.2.1) (g := (mkF m 4 #[.val (.ref a)] [(.ref bt)])) rfl rfl (hb hby d5_4)) ?_
  rw [len_of S2 M2]
  show OwnGo p e below s _ _ _ (T1.setTop (mkF m 5 #[.val (.ref a)] [(.int zz)]))
  by_cases q0 : zz = (0 : Int32)
  · refine own_on (fun t k => XS.ifNo X1.here hx rfl (hb hby d5_5) rfl ((if0 _ _).trans (teq q0).2) k) ?_
    show OwnGo p e below s _ _ _ (T1.setTop (mkF m 8 #[.val (.ref a)] []))
    refine own_on (fun t k => XS.iconst X1.here hx rfl (hb hby d5_8) k) ?_
    show OwnGo p e below s _ _ _ (T1.setTop (mkF m 9 #[.val (.ref a)] [(.int (1 : Int32))]))
    refine own_on (fun t k => XS.goto X1.here hx rfl (pc0 := 9) (pc' := 13) rfl (hb hby d5_9) (by decide) (by decide) k) ?_
    show OwnGo p e below s _ _ _ (T1.setTop (mkF m 13 #[.val (.ref a)] [(.int (1 : Int32))]))
    exact own_retN X1 hx hlk (t := .boolean) Bd.returns (by simp) (hb hby d5_13) e1 ⟨(congrArg (fun z => some (Value.int z)) (by simp [own_isz, nar, *])), N0, rfl⟩ (by decide) (by decide)
  · refine own_on (fun t k => XS.ifYes X1.here hx rfl (pc0 := 5) (pc' := 12) rfl (hb hby d5_5) rfl ((if0 _ _).trans (feq q0).2) (by decide) (by decide) k) ?_
    show OwnGo p e below s _ _ _ (T1.setTop (mkF m 12 #[.val (.ref a)] []))
    refine own_on (fun t k => XS.iconst X1.here hx rfl (hb hby d5_12) k) ?_
    show OwnGo p e below s _ _ _ (T1.setTop (mkF m 13 #[.val (.ref a)] [(.int (0 : Int32))]))
    exact own_retN X1 hx hlk (t := .boolean) Bd.returns (by simp) (hb hby d5_13) e1 ⟨(congrArg (fun z => some (Value.int z)) (by simp [own_isz, nar, *])), N0, rfl⟩ (by decide) (by decide)
theorem ef_12 (m : MethodId) (jj : Int32) (zz : Int32) (sf : Value) (hV_sf : sf.isRef = true) : entryFrame m #[(.int jj), (.int zz), sf] 3 = mkF m 0 #[.val (.int jj), .val (.int zz), .val sf] [] := by rcases ref_cases hV_sf with rfl | ⟨_, rfl⟩ <;> first | (simp [entryFrame, mkF, argsToLocals, Value.category]; done) | rfl
def Q12 (Z : State) (jj : Int32) (zz : Int32) (sf : Value) (h0 : Heap) (n0 : Nat) (v_ : Option Value) (h_ : Heap) (L_ : List Loc) : Prop := v_ = some (.int jj) ∧ Fr n0 L_ ∧ h_ = h0
set_option maxRecDepth 65536 in
set_option maxHeartbeats 40000000 in
theorem rm12 (l : Launch) (Z : State) (a0 : Array Value) (hw : ∀ d ∈ tables_1, d.before a0 Z = true) (ws : List Jvm.Cond) (jj : Int32) (zz : Int32) (sf : Value) (h0 : Heap) (n0 : Nat) (Z0 : n0 ≤ h0.size) (P0 : ¬ jj < 0) (P1 : jj < zz) (P2 : sf.isRef = true) :
    MetFree l (⟨"jdk/internal/util/Preconditions", "checkIndex", "(IILjava/util/function/BiFunction;)I"⟩ : MethodName) (head1 (Jvm.Cond.code (⟨"jdk/internal/util/Preconditions", "checkIndex", "(IILjava/util/function/BiFunction;)I"⟩ : MethodName) jdk_41_method_11_code 3 (some .int) :: ws) ({ frames := 0, cells := 0, slots := 0, locals := 0 } : Room)) (fun A_ U => A_ = #[(.int jj), (.int zz), sf] ∧ Z.Warmed39 U.vm ∧ U.heap = h0) (fun _ _ _ _ _ => True) (fun _ U_ o_ U'_ => ∃ v_ L_, o_ = .returned v_ ∧ Q12 Z jj zz sf h0 n0 v_ U'_.heap L_ ∧ FrameEnd U_ o_ U'_ L_ ({ frames := 0, cells := 0, slots := 0, locals := 0 } : Room).cells ({ frames := 0, cells := 0, slots := 0, locals := 0 } : Room).slots) := by
  refine MetFree.of_bodySF (plainFor_of_name pn_1) hisR ?_
  intro p e s m args below meth c s₁ Bd hml0 hP hK
  obtain ⟨rfl, hZ, hh⟩ := hP
  have hx := Bd.exec
  have hby := Bd.bytes
  have hml : c.maxLocals = 3 := hml0
  have hown : s.vm.findClass "jdk/internal/util/Preconditions" = some m.cls := findClass_of_methodNamed Bd.named
  have hnm := (name_of_methodNamed Bd.named Bd.method).1
  have hlk : meth.locks = false := Bd.notSynchronized
  have X0 : Stand p l e ({ frames := 0, cells := 0, slots := 0, locals := 0 } : Room) s m #[(.int jj), (.int zz), sf] below meth c s₁ [] 0 0 := Stand.of_body Bd
  have e0 : s₁.heap = h0 := by rw [← hh, Bd.state]; rfl
  have N0 := Fr.nil n0
  have K0 : Keep h0 h0 [] := Keep.refl _ _
  refine own_cast (ef_12 m jj zz sf P2) ?_
  show OwnGo p e below s (Q12 Z jj zz sf h0 n0) ({ frames := 0, cells := 0, slots := 0, locals := 0 } : Room).cells ({ frames := 0, cells := 0, slots := 0, locals := 0 } : Room).slots (s₁.setTop (mkF m 0 #[.val (.int jj), .val (.int zz), .val sf] []))
  refine own_on (fun t k => XS.iloadN X0.here hx rfl (hb hby d12_0) rfl k) ?_
  show OwnGo p e below s _ _ _ (s₁.setTop (mkF m 1 #[.val (.int jj), .val (.int zz), .val sf] [(.int jj)]))
  refine own_on (fun t k => XS.ifNo X0.here hx rfl (hb hby d12_1) rfl ((if0 _ _).trans (flt P0).1) k) ?_
  show OwnGo p e below s _ _ _ (s₁.setTop (mkF m 4 #[.val (.int jj), .val (.int zz), .val sf] []))
  refine own_on (fun t k => XS.iloadN X0.here hx rfl (hb hby d12_4) rfl k) ?_
  show OwnGo p e below s _ _ _ (s₁.setTop (mkF m 5 #[.val (.int jj), .val (.int zz), .val sf] [(.int jj)]))
  refine own_on (fun t k => XS.iloadN X0.here hx rfl (hb hby d12_5) rfl k) ?_
  show OwnGo p e below s _ _ _ (s₁.setTop (mkF m 6 #[.val (.int jj), .val (.int zz), .val sf] [(.int zz), (.int jj)]))
  refine own_on (fun t k => XS.icmpYes X0.here hx rfl (pc0 := 6) (pc' := 16) rfl (hb hby d12_6) rfl (tlt P1).1 (by decide) (by decide) k) ?_
  show OwnGo p e below s _ _ _ (s₁.setTop (mkF m 16 #[.val (.int jj), .val (.int zz), .val sf] []))
  refine own_on (fun t k => XS.iloadN X0.here hx rfl (hb hby d12_16) rfl k) ?_
  show OwnGo p e below s _ _ _ (s₁.setTop (mkF m 17 #[.val (.int jj), .val (.int zz), .val sf] [(.int jj)]))
  exact own_retI X0 hx hlk Bd.returns (hb hby d12_17) e0 ⟨rfl, N0, rfl⟩ (by decide) (by decide)
theorem ef_11 (m : MethodId) (jj : Int32) (zz : Int32)  : entryFrame m #[(.int jj), (.int zz)] 2 = mkF m 0 #[.val (.int jj), .val (.int zz)] [] := by first | (simp [entryFrame, mkF, argsToLocals, Value.category]; done) | rfl
def Q11 (Z : State) (jj : Int32) (zz : Int32) (sf : Value) (h0 : Heap) (n0 : Nat) (v_ : Option Value) (h_ : Heap) (L_ : List Loc) : Prop := v_ = none ∧ Fr n0 L_ ∧ h_ = h0
set_option maxRecDepth 65536 in
set_option maxHeartbeats 40000000 in
theorem rm11 (l : Launch) (Z : State) (a0 : Array Value) (hw : ∀ d ∈ tables_1, d.before a0 Z = true) (ws : List Jvm.Cond) (jj : Int32) (zz : Int32) (sf : Value) (h0 : Heap) (n0 : Nat) (Z0 : n0 ≤ h0.size) (P0 : ¬ jj < 0) (P1 : jj < zz) (P2 : Old Z n0 h0) (P3 : Sta Z Z.heap "jdk/internal/util/Preconditions" "SIOOBE_FORMATTER" "Ljava/util/function/BiFunction;" sf) (P4 : sf.isRef = true) :
    MetFree l (⟨"java/lang/String", "checkIndex", "(II)V"⟩ : MethodName) (head1 (Jvm.Cond.code (⟨"java/lang/String", "checkIndex", "(II)V"⟩ : MethodName) jdk_42_method_155_code 2 none :: ws) ({ frames := 1, cells := 0, slots := 0, locals := 14 } : Room)) (fun A_ U => A_ = #[(.int jj), (.int zz)] ∧ Z.Warmed39 U.vm ∧ U.heap = h0) (fun _ _ _ _ _ => True) (fun _ U_ o_ U'_ => ∃ v_ L_, o_ = .returned v_ ∧ Q11 Z jj zz sf h0 n0 v_ U'_.heap L_ ∧ FrameEnd U_ o_ U'_ L_ ({ frames := 1, cells := 0, slots := 0, locals := 14 } : Room).cells ({ frames := 1, cells := 0, slots := 0, locals := 14 } : Room).slots) := by
  refine MetFree.of_bodySF (plainFor_of_name pn_0) hisR ?_
  intro p e s m args below meth c s₁ Bd hml0 hP hK
  obtain ⟨rfl, hZ, hh⟩ := hP
  have hx := Bd.exec
  have hby := Bd.bytes
  have hml : c.maxLocals = 2 := hml0
  have hown : s.vm.findClass "java/lang/String" = some m.cls := findClass_of_methodNamed Bd.named
  have hnm := (name_of_methodNamed Bd.named Bd.method).1
  have hlk : meth.locks = false := Bd.notSynchronized
  have X0 : Stand p l e ({ frames := 1, cells := 0, slots := 0, locals := 14 } : Room) s m #[(.int jj), (.int zz)] below meth c s₁ [] 0 0 := Stand.of_body Bd
  have e0 : s₁.heap = h0 := by rw [← hh, Bd.state]; rfl
  have N0 := Fr.nil n0
  have K0 : Keep h0 h0 [] := Keep.refl _ _
  refine own_cast (ef_11 m jj zz) ?_
  show OwnGo p e below s (Q11 Z jj zz sf h0 n0) ({ frames := 1, cells := 0, slots := 0, locals := 14 } : Room).cells ({ frames := 1, cells := 0, slots := 0, locals := 14 } : Room).slots (s₁.setTop (mkF m 0 #[.val (.int jj), .val (.int zz)] []))
  refine own_on (fun t k => XS.iloadN X0.here hx rfl (hb hby d11_0) rfl k) ?_
  show OwnGo p e below s _ _ _ (s₁.setTop (mkF m 1 #[.val (.int jj), .val (.int zz)] [(.int jj)]))
  refine own_on (fun t k => XS.iloadN X0.here hx rfl (hb hby d11_1) rfl k) ?_
  show OwnGo p e below s _ _ _ (s₁.setTop (mkF m 2 #[.val (.int jj), .val (.int zz)] [(.int zz), (.int jj)]))
  obtain ⟨T1, X1, e1, st1⟩ := getS2 X0 hx hZ hown (host := "") (Or.inl (w62 hw)) Via.refl e0 (P3.ext P2.2) (g := (mkF m 2 #[.val (.int jj), .val (.int zz)] [(.int zz), (.int jj)])) rfl (hb hby d11_2)
  refine own_on st1 ?_
  show OwnGo p e below s _ _ _ (T1.setTop (mkF m 5 #[.val (.int jj), .val (.int zz)] [sf, (.int zz), (.int jj)]))
  obtain ⟨_, _, ⟨T2, L2, k2, n2⟩, -, X2, ⟨Lc2, hQ2, l2, y2, z2⟩, st2⟩ := Jvm.LawKit.callS X1 hx (y := (⟨"jdk/internal/util/Preconditions", "checkIndex", "(IILjava/util/function/BiFunction;)I"⟩ : MethodName)) hown (mvT hZ (w64 hw)) (mvT hZ (w65 hw)) (mvT hZ (w63 hw)) (mvT hZ (w66 hw)) (by decide) (backOf (W := 0) (rm12 l Z a0 hw [] jj zz sf h0 n0 Z0 P0 P1 P4) hZ (w66 hw) (w63 hw) (by decide) (by decide)) (g := (mkF m 5 #[.val (.int jj), .val (.int zz)] [sf, (.int zz), (.int jj)])) rfl (by rw [hml]; rfl) (argsL := [(.int jj), (.int zz), sf]) (rest := []) (lenOf pd_1 rfl) rfl (by show 2 * 0 + _ ≤ _; exact Nat.le_of_eq rfl) (hb hby d11_5) (fun _ _ => ⟨rfl, e1, (by decide : 0 + 0 ≤ _), (by decide : 0 + 0 ≤ _)⟩)
  dsimp only [Pt.U, Pt.locs, Pt.cells, Pt.slots] at X2 l2 y2 z2 st2 hQ2
  replace X2 := own_num (c' := 0) (n' := 0) X2 l2 (y2.trans rfl) (z2.trans rfl)
  obtain ⟨rfl, N2q, e2⟩ := hQ2
  have N2 := Fr.app N0 N2q
  refine own_on st2 ?_
  show OwnGo p e below s _ _ _ (T2.setTop (mkF m 8 #[.val (.int jj), .val (.int zz)] [(.int jj)]))
  refine own_on (fun t k => XS.pop X2.here hx rfl (hb hby d11_8) rfl rfl k) ?_
  show OwnGo p e below s _ _ _ (T2.setTop (mkF m 9 #[.val (.int jj), .val (.int zz)] []))
  exact own_retV X2 hx hlk Bd.returns (hb hby d11_9) e2 ⟨rfl, N2, rfl⟩ (by decide) (by decide)
theorem ef_10 (m : MethodId) (bt : Addr) (jj : Int32)  : entryFrame m #[(.ref bt), (.int jj)] 2 = mkF m 0 #[.val (.ref bt), .val (.int jj)] [] := by first | (simp [entryFrame, mkF, argsToLocals, Value.category]; done) | rfl
def Q10 (Z : State) (bt : Addr) (jj : Int32) (kb : ClassId) (zz : Int32) (vs : List Value) (dv : Value) (sf : Value) (xx : Int32) (h0 : Heap) (n0 : Nat) (v_ : Option Value) (h_ : Heap) (L_ : List Loc) : Prop := v_ = some (.int (xx &&& (255 : Int32))) ∧ Fr n0 L_ ∧ h_ = h0
set_option maxRecDepth 65536 in
set_option maxHeartbeats 40000000 in
theorem rm10 (l : Launch) (Z : State) (a0 : Array Value) (hw : ∀ d ∈ tables_1, d.before a0 Z = true) (ws : List Jvm.Cond) (bt : Addr) (jj : Int32) (kb : ClassId) (zz : Int32) (vs : List Value) (dv : Value) (sf : Value) (xx : Int32) (h0 : Heap) (n0 : Nat) (Z0 : n0 ≤ h0.size) (P0 : Old Z n0 h0) (P1 : Sta Z Z.heap "jdk/internal/util/Preconditions" "SIOOBE_FORMATTER" "Ljava/util/function/BiFunction;" sf) (P2 : sf.isRef = true) (P3 : Arv Z h0 bt kb .byte zz vs dv) (P4 : ¬ jj < 0) (P5 : jj < zz) (P6 : (vs : List Value).getD (jj).toNatClampNeg dv = (.int xx)) :
    MetFree l (⟨"java/lang/StringLatin1", "charAt", "([BI)C"⟩ : MethodName) (head1 (Jvm.Cond.code (⟨"java/lang/StringLatin1", "charAt", "([BI)C"⟩ : MethodName) jdk_43_method_2_code 2 (some .char) :: ws) ({ frames := 2, cells := 0, slots := 0, locals := 27 } : Room)) (fun A_ U => A_ = #[(.ref bt), (.int jj)] ∧ Z.Warmed39 U.vm ∧ U.heap = h0) (fun _ _ _ _ _ => True) (fun _ U_ o_ U'_ => ∃ v_ L_, o_ = .returned v_ ∧ Q10 Z bt jj kb zz vs dv sf xx h0 n0 v_ U'_.heap L_ ∧ FrameEnd U_ o_ U'_ L_ ({ frames := 2, cells := 0, slots := 0, locals := 27 } : Room).cells ({ frames := 2, cells := 0, slots := 0, locals := 27 } : Room).slots) := by
  refine MetFree.of_bodySF (plainFor_of_name pn_2) hisR ?_
  intro p e s m args below meth c s₁ Bd hml0 hP hK
  obtain ⟨rfl, hZ, hh⟩ := hP
  have hx := Bd.exec
  have hby := Bd.bytes
  have hml : c.maxLocals = 2 := hml0
  have hown : s.vm.findClass "java/lang/StringLatin1" = some m.cls := findClass_of_methodNamed Bd.named
  have hnm := (name_of_methodNamed Bd.named Bd.method).1
  have hlk : meth.locks = false := Bd.notSynchronized
  have X0 : Stand p l e ({ frames := 2, cells := 0, slots := 0, locals := 27 } : Room) s m #[(.ref bt), (.int jj)] below meth c s₁ [] 0 0 := Stand.of_body Bd
  have e0 : s₁.heap = h0 := by rw [← hh, Bd.state]; rfl
  have N0 := Fr.nil n0
  have K0 : Keep h0 h0 [] := Keep.refl _ _
  refine own_cast (ef_10 m bt jj) ?_
  show OwnGo p e below s (Q10 Z bt jj kb zz vs dv sf xx h0 n0) ({ frames := 2, cells := 0, slots := 0, locals := 27 } : Room).cells ({ frames := 2, cells := 0, slots := 0, locals := 27 } : Room).slots (s₁.setTop (mkF m 0 #[.val (.ref bt), .val (.int jj)] []))
  refine own_on (fun t k => XS.iloadN X0.here hx rfl (hb hby d10_0) rfl k) ?_
  show OwnGo p e below s _ _ _ (s₁.setTop (mkF m 1 #[.val (.ref bt), .val (.int jj)] [(.int jj)]))
  refine own_on (fun t k => XS.aloadN X0.here hx rfl (hb hby d10_1) rfl rfl k) ?_
  show OwnGo p e below s _ _ _ (s₁.setTop (mkF m 2 #[.val (.ref bt), .val (.int jj)] [(.ref bt), (.int jj)]))
  obtain ⟨cl1, Ar1, q1, S1, M1, H1, G1⟩ := id P3
  refine own_on (X0.arraylength hx (by rw [e0]; exact Ar1.1) (State.isArrayOf_alike hZ.alike Ar1.2.1) (g := (mkF m 2 #[.val (.ref bt), .val (.int jj)] [(.ref bt), (.int jj)])) rfl rfl (hb hby d10_2)) ?_
  rw [len_of S1 M1]
  show OwnGo p e below s _ _ _ (s₁.setTop (mkF m 3 #[.val (.ref bt), .val (.int jj)] [(.int zz), (.int jj)]))
  obtain ⟨_, _, ⟨T2, L2, k2, n2⟩, -, X2, ⟨Lc2, hQ2, l2, y2, z2⟩, st2⟩ := Jvm.LawKit.callS X0 hx (y := (⟨"java/lang/String", "checkIndex", "(II)V"⟩ : MethodName)) hown (mvT hZ (w59 hw)) (mvT hZ (w60 hw)) (mvT hZ (w4 hw)) (mvT hZ (w61 hw)) (by decide) (backOf (W := 0) (rm11 l Z a0 hw [] jj zz sf h0 n0 Z0 P4 P5 P0 P1 P2) hZ (w61 hw) (w4 hw) (by decide) (by decide)) (g := (mkF m 3 #[.val (.ref bt), .val (.int jj)] [(.int zz), (.int jj)])) rfl (by rw [hml]; rfl) (argsL := [(.int jj), (.int zz)]) (rest := []) (lenOf pd_2 rfl) rfl (by show 2 * 0 + _ ≤ _; exact Nat.le_of_eq rfl) (hb hby d10_3) (fun _ _ => ⟨rfl, e0, (by decide : 0 + 0 ≤ _), (by decide : 0 + 0 ≤ _)⟩)
  dsimp only [Pt.U, Pt.locs, Pt.cells, Pt.slots] at X2 l2 y2 z2 st2 hQ2
  replace X2 := own_num (c' := 0) (n' := 0) X2 l2 (y2.trans rfl) (z2.trans rfl)
  obtain ⟨rfl, N2q, e2⟩ := hQ2
  have N2 := Fr.app N0 N2q
  refine own_on st2 ?_
  show OwnGo p e below s _ _ _ (T2.setTop (mkF m 6 #[.val (.ref bt), .val (.int jj)] []))
  refine own_on (fun t k => XS.aloadN X2.here hx rfl (hb hby d10_6) rfl rfl k) ?_
  show OwnGo p e below s _ _ _ (T2.setTop (mkF m 7 #[.val (.ref bt), .val (.int jj)] [(.ref bt)]))
  refine own_on (fun t k => XS.iloadN X2.here hx rfl (hb hby d10_7) rfl k) ?_
  show OwnGo p e below s _ _ _ (T2.setTop (mkF m 8 #[.val (.ref bt), .val (.int jj)] [(.int jj), (.ref bt)]))
  obtain ⟨cl3, Ar3, q3, S3, M3, H3, G3⟩ := id P3
  have hin3 : ¬ (jj < 0 ∨ cl3.slots.size ≤ (jj).toNatClampNeg) := inb_of S3 ⟨P4, P5⟩
  have hat3 : cl3.slots[(jj).toNatClampNeg]? = some (.int xx) := Has.at H3 hin3 P6
  refine own_on (X2.baloadBytes hx (j := jj) (v := (.int xx)) (by rw [e2]; exact Ar3.1) (State.isArrayOf_alike hZ.alike Ar3.2.1) Ar3.2.2 hin3 hat3 (g := (mkF m 8 #[.val (.ref bt), .val (.int jj)] [(.int jj), (.ref bt)])) rfl rfl (hb hby d10_8)) ?_
  show OwnGo p e below s _ _ _ (T2.setTop (mkF m 9 #[.val (.ref bt), .val (.int jj)] [(.int xx)]))
  refine own_on (fun t k => XS.sipush X2.here hx rfl (hb hby d10_9) k) ?_
  show OwnGo p e below s _ _ _ (T2.setTop (mkF m 12 #[.val (.ref bt), .val (.int jj)] [(.int (255 : Int32)), (.int xx)]))
  refine own_on (fun t k => XS.iand X2.here hx rfl (hb hby d10_12) rfl k) ?_
  show OwnGo p e below s _ _ _ (T2.setTop (mkF m 13 #[.val (.ref bt), .val (.int jj)] [(.int (xx &&& (255 : Int32)))]))
  refine own_on (fun t k => XS.i2c X2.here hx rfl (hb hby d10_13) rfl k) ?_
  show OwnGo p e below s _ _ _ (T2.setTop (mkF m 14 #[.val (.ref bt), .val (.int jj)] [(.int ((xx &&& (255 : Int32)).toUInt32.toUInt16.toUInt32.toInt32))]))
  exact own_retN X2 hx hlk (t := .char) Bd.returns (by simp) (hb hby d10_14) e2 ⟨(congrArg (fun z => some (Value.int z)) (own_chr xx).1), N2, rfl⟩ (by decide) (by decide)
theorem ef_8 (m : MethodId) (a : Addr) (jj : Int32)  : entryFrame m #[(.ref a), (.int jj)] 2 = mkF m 0 #[.val (.ref a), .val (.int jj)] [] := by first | (simp [entryFrame, mkF, argsToLocals, Value.category]; done) | rfl
def Q8 (Z : State) (a : Addr) (jj : Int32) (cs : Int32) (sf : Value) (bt : Addr) (kb : ClassId) (zz : Int32) (vs : List Value) (dv : Value) (xx : Int32) (h0 : Heap) (n0 : Nat) (v_ : Option Value) (h_ : Heap) (L_ : List Loc) : Prop := v_ = some (.int (xx &&& (255 : Int32))) ∧ Fr n0 L_ ∧ h_ = h0
set_option maxRecDepth 65536 in
set_option maxHeartbeats 40000000 in
theorem rm8 (l : Launch) (Z : State) (a0 : Array Value) (hw : ∀ d ∈ tables_1, d.before a0 Z = true) (ws : List Jvm.Cond) (a : Addr) (jj : Int32) (cs : Int32) (sf : Value) (bt : Addr) (kb : ClassId) (zz : Int32) (vs : List Value) (dv : Value) (xx : Int32) (h0 : Heap) (n0 : Nat) (Z0 : n0 ≤ h0.size) (P0 : Old Z n0 h0) (P1 : Sta Z Z.heap "java/lang/String" "COMPACT_STRINGS" "Z" (.int cs)) (P2 : ¬ (cs = (0 : Int32))) (P3 : Sta Z Z.heap "jdk/internal/util/Preconditions" "SIOOBE_FORMATTER" "Ljava/util/function/BiFunction;" sf) (P4 : sf.isRef = true) (P5 : Exa Z h0 a "java/lang/String") (P6 : Fld Z h0 a "java/lang/String" "coder" "B" (.int (0 : Int32))) (P7 : Fld Z h0 a "java/lang/String" "value" "[B" (.ref bt)) (P8 : Arv Z h0 bt kb .byte zz vs dv) (P9 : ¬ jj < 0) (P10 : jj < zz) (P11 : (vs : List Value).getD (jj).toNatClampNeg dv = (.int xx)) :
    MetFree l (⟨"java/lang/String", "charAt", "(I)C"⟩ : MethodName) (head1 (Jvm.Cond.code (⟨"java/lang/String", "charAt", "(I)C"⟩ : MethodName) jdk_42_method_56_code 2 (some .char) :: ws) ({ frames := 3, cells := 0, slots := 0, locals := 40 } : Room)) (fun A_ U => A_ = #[(.ref a), (.int jj)] ∧ Z.Warmed39 U.vm ∧ U.heap = h0) (fun _ _ _ _ _ => True) (fun _ U_ o_ U'_ => ∃ v_ L_, o_ = .returned v_ ∧ Q8 Z a jj cs sf bt kb zz vs dv xx h0 n0 v_ U'_.heap L_ ∧ FrameEnd U_ o_ U'_ L_ ({ frames := 3, cells := 0, slots := 0, locals := 40 } : Room).cells ({ frames := 3, cells := 0, slots := 0, locals := 40 } : Room).slots) := by
  refine MetFree.of_bodySF (plainFor_of_name pn_0) hisR ?_
  intro p e s m args below meth c s₁ Bd hml0 hP hK
  obtain ⟨rfl, hZ, hh⟩ := hP
  have hx := Bd.exec
  have hby := Bd.bytes
  have hml : c.maxLocals = 2 := hml0
  have hown : s.vm.findClass "java/lang/String" = some m.cls := findClass_of_methodNamed Bd.named
  have hnm := (name_of_methodNamed Bd.named Bd.method).1
  have hlk : meth.locks = false := Bd.notSynchronized
  have X0 : Stand p l e ({ frames := 3, cells := 0, slots := 0, locals := 40 } : Room) s m #[(.ref a), (.int jj)] below meth c s₁ [] 0 0 := Stand.of_body Bd
  have e0 : s₁.heap = h0 := by rw [← hh, Bd.state]; rfl
  have N0 := Fr.nil n0
  have K0 : Keep h0 h0 [] := Keep.refl _ _
  refine own_cast (ef_8 m a jj) ?_
  show OwnGo p e below s (Q8 Z a jj cs sf bt kb zz vs dv xx h0 n0) ({ frames := 3, cells := 0, slots := 0, locals := 40 } : Room).cells ({ frames := 3, cells := 0, slots := 0, locals := 40 } : Room).slots (s₁.setTop (mkF m 0 #[.val (.ref a), .val (.int jj)] []))
  refine own_on (fun t k => XS.aloadN X0.here hx rfl (hb hby d8_0) rfl rfl k) ?_
  show OwnGo p e below s _ _ _ (s₁.setTop (mkF m 1 #[.val (.ref a), .val (.int jj)] [(.ref a)]))
  obtain ⟨cq1, kq1, q1a, q1b, q1c⟩ := isOf hZ e0 P5
  obtain ⟨_, _, ⟨T1, L1, k1, n1⟩, -, X1, ⟨Lc1, hQ1, l1, y1, z1⟩, st1⟩ := X0.virtualBack hx (y := (⟨"java/lang/String", "isLatin1", "()Z"⟩ : MethodName)) (z := (⟨"java/lang/String", "isLatin1", "()Z"⟩ : MethodName)) hown (mvT hZ (w50 hw)) (mvT hZ (w51 hw)) (notFace_of_selects (args := #[]) (mvT hZ (w53 hw))) (mvT hZ (w53 hw)) (mvT hZ (w52 hw)) (by decide) (backOf (W := 0) (rm9 l Z a0 hw [] a cs h0 n0 Z0 P0 P1 P2 P6) hZ (w54 hw) (w4 hw) (by decide) (by decide)) q1a q1c (g := (mkF m 1 #[.val (.ref a), .val (.int jj)] [(.ref a)])) rfl (by rw [hml]; rfl) (Steps.refl _) (argsL := []) (rest := []) (lenOf pd_3 rfl) rfl (by show 2 * 0 + _ ≤ _; exact Nat.le_of_eq rfl) (hb hby d8_1) (fun _ _ => ⟨rfl, e0, (by decide : 0 + 0 ≤ _), (by decide : 0 + 0 ≤ _)⟩)
  dsimp only [Pt.U, Pt.locs, Pt.cells, Pt.slots] at X1 l1 y1 z1 st1 hQ1
  replace X1 := own_num (c' := 0) (n' := 0) X1 l1 (y1.trans rfl) (z1.trans rfl)
  obtain ⟨rfl, N1q, e1⟩ := hQ1
  have N1 := Fr.app N0 N1q
  refine own_tr st1 ?_
  show OwnGo p e below s _ _ _ (T1.setTop (mkF m 4 #[.val (.ref a), .val (.int jj)] [(.int (1 : Int32))]))
  refine own_on (fun t k => XS.ifNo X1.here hx rfl (hb hby d8_4) rfl ((if0 _ _).trans (feq (by decide : ¬ ((1 : Int32) = (0 : Int32)))).1) k) ?_
  show OwnGo p e below s _ _ _ (T1.setTop (mkF m 7 #[.val (.ref a), .val (.int jj)] []))
  refine own_on (fun t k => XS.aloadN X1.here hx rfl (hb hby d8_7) rfl rfl k) ?_
  show OwnGo p e below s _ _ _ (T1.setTop (mkF m 8 #[.val (.ref a), .val (.int jj)] [(.ref a)]))
  obtain ⟨T2, X2, e2, st2⟩ := getF X1 hx hZ hown (host := "") (Or.inl (w32 hw)) Via.refl e1 P7 (g := (mkF m 8 #[.val (.ref a), .val (.int jj)] [(.ref a)])) rfl rfl (hb hby d8_8)
  refine own_on st2 ?_
  show OwnGo p e below s _ _ _ (T2.setTop (mkF m 11 #[.val (.ref a), .val (.int jj)] [(.ref bt)]))
  refine own_on (fun t k => XS.iloadN X2.here hx rfl (hb hby d8_11) rfl k) ?_
  show OwnGo p e below s _ _ _ (T2.setTop (mkF m 12 #[.val (.ref a), .val (.int jj)] [(.int jj), (.ref bt)]))
  obtain ⟨_, _, ⟨T3, L3, k3, n3⟩, -, X3, ⟨Lc3, hQ3, l3, y3, z3⟩, st3⟩ := Jvm.LawKit.callS X2 hx (y := (⟨"java/lang/StringLatin1", "charAt", "([BI)C"⟩ : MethodName)) hown (mvT hZ (w55 hw)) (mvT hZ (w56 hw)) (mvT hZ (w57 hw)) (mvT hZ (w58 hw)) (by decide) (backOf (W := 0) (rm10 l Z a0 hw [] bt jj kb zz vs dv sf xx h0 n0 Z0 P0 P3 P4 P8 P9 P10 P11) hZ (w58 hw) (w57 hw) (by decide) (by decide)) (g := (mkF m 12 #[.val (.ref a), .val (.int jj)] [(.int jj), (.ref bt)])) rfl (by rw [hml]; rfl) (argsL := [(.ref bt), (.int jj)]) (rest := []) (lenOf pd_4 rfl) rfl (by show 2 * 0 + _ ≤ _; exact Nat.le_of_eq rfl) (hb hby d8_12) (fun _ _ => ⟨rfl, e2, (by decide : 0 + 0 ≤ _), (by decide : 0 + 0 ≤ _)⟩)
  dsimp only [Pt.U, Pt.locs, Pt.cells, Pt.slots] at X3 l3 y3 z3 st3 hQ3
  replace X3 := own_num (c' := 0) (n' := 0) X3 l3 (y3.trans rfl) (z3.trans rfl)
  obtain ⟨rfl, N3q, e3⟩ := hQ3
  have N3 := Fr.app N1 N3q
  refine own_on st3 ?_
  show OwnGo p e below s _ _ _ (T3.setTop (mkF m 15 #[.val (.ref a), .val (.int jj)] [(.int (xx &&& (255 : Int32)))]))
  exact own_retN X3 hx hlk (t := .char) Bd.returns (by simp) (hb hby d8_15) e3 ⟨(congrArg (fun z => some (Value.int z)) (own_chr xx).2), N3, rfl⟩ (by decide) (by decide)
theorem ef_17 (m : MethodId) (k : Int32)  : entryFrame m #[(.int k)] 1 = mkF m 0 #[.val (.int k)] [] := by first | (simp [entryFrame, mkF, argsToLocals, Value.category]; done) | rfl
def Q17 (Z : State) (k : Int32) (h0 : Heap) (n0 : Nat) (v_ : Option Value) (h_ : Heap) (L_ : List Loc) : Prop := v_ = some (.int (1 : Int32)) ∧ Fr n0 L_ ∧ h_ = h0
set_option maxRecDepth 65536 in
set_option maxHeartbeats 40000000 in
theorem rm17 (l : Launch) (Z : State) (a0 : Array Value) (hw : ∀ d ∈ tables_1, d.before a0 Z = true) (ws : List Jvm.Cond) (k : Int32) (h0 : Heap) (n0 : Nat) (Z0 : n0 ≤ h0.size) (P0 : ¬ (255 : Int32) < k) :
    MetFree l (⟨"java/lang/StringLatin1", "canEncode", "(C)Z"⟩ : MethodName) (head1 (Jvm.Cond.code (⟨"java/lang/StringLatin1", "canEncode", "(C)Z"⟩ : MethodName) jdk_43_method_3_code 1 (some .boolean) :: ws) ({ frames := 0, cells := 0, slots := 0, locals := 0 } : Room)) (fun A_ U => A_ = #[(.int k)] ∧ Z.Warmed39 U.vm ∧ U.heap = h0) (fun _ _ _ _ _ => True) (fun _ U_ o_ U'_ => ∃ v_ L_, o_ = .returned v_ ∧ Q17 Z k h0 n0 v_ U'_.heap L_ ∧ FrameEnd U_ o_ U'_ L_ ({ frames := 0, cells := 0, slots := 0, locals := 0 } : Room).cells ({ frames := 0, cells := 0, slots := 0, locals := 0 } : Room).slots) := by
  refine MetFree.of_bodySF (plainFor_of_name pn_2) hisR ?_
  intro p e s m args below meth c s₁ Bd hml0 hP hK
  obtain ⟨rfl, hZ, hh⟩ := hP
  have hx := Bd.exec
  have hby := Bd.bytes
  have hml : c.maxLocals = 1 := hml0
  have hown : s.vm.findClass "java/lang/StringLatin1" = some m.cls := findClass_of_methodNamed Bd.named
  have hnm := (name_of_methodNamed Bd.named Bd.method).1
  have hlk : meth.locks = false := Bd.notSynchronized
  have X0 : Stand p l e ({ frames := 0, cells := 0, slots := 0, locals := 0 } : Room) s m #[(.int k)] below meth c s₁ [] 0 0 := Stand.of_body Bd
  have e0 : s₁.heap = h0 := by rw [← hh, Bd.state]; rfl
  have N0 := Fr.nil n0
  have K0 : Keep h0 h0 [] := Keep.refl _ _
  refine own_cast (ef_17 m k) ?_
  show OwnGo p e below s (Q17 Z k h0 n0) ({ frames := 0, cells := 0, slots := 0, locals := 0 } : Room).cells ({ frames := 0, cells := 0, slots := 0, locals := 0 } : Room).slots (s₁.setTop (mkF m 0 #[.val (.int k)] []))
  refine own_on (fun t k => XS.iloadN X0.here hx rfl (hb hby d17_0) rfl k) ?_
  show OwnGo p e below s _ _ _ (s₁.setTop (mkF m 1 #[.val (.int k)] [(.int k)]))
  refine own_on (fun t k => XS.sipush X0.here hx rfl (hb hby d17_1) k) ?_
  show OwnGo p e below s _ _ _ (s₁.setTop (mkF m 4 #[.val (.int k)] [(.int (255 : Int32)), (.int k)]))
  refine own_on (fun t k => XS.icmpNo X0.here hx rfl (hb hby d17_4) rfl (flt P0).2.2.1 k) ?_
  show OwnGo p e below s _ _ _ (s₁.setTop (mkF m 7 #[.val (.int k)] []))
  refine own_on (fun t k => XS.iconst X0.here hx rfl (hb hby d17_7) k) ?_
  show OwnGo p e below s _ _ _ (s₁.setTop (mkF m 8 #[.val (.int k)] [(.int (1 : Int32))]))
  refine own_on (fun t k => XS.goto X0.here hx rfl (pc0 := 8) (pc' := 12) rfl (hb hby d17_8) (by decide) (by decide) k) ?_
  show OwnGo p e below s _ _ _ (s₁.setTop (mkF m 12 #[.val (.int k)] [(.int (1 : Int32))]))
  exact own_retN X0 hx hlk (t := .boolean) Bd.returns (by simp) (hb hby d17_12) e0 ⟨rfl, N0, rfl⟩ (by decide) (by decide)
theorem ef_18 (m : MethodId) (k : Int32)  : entryFrame m #[(.int k)] 1 = mkF m 0 #[.val (.int k)] [] := by first | (simp [entryFrame, mkF, argsToLocals, Value.category]; done) | rfl
def Q18 (Z : State) (k : Int32) (h0 : Heap) (n0 : Nat) (v_ : Option Value) (h_ : Heap) (L_ : List Loc) : Prop := ∃ r : Addr, ∃ kr : ClassId, v_ = some (.ref r) ∧ Fr n0 L_ ∧ Keep h0 h_ [] ∧ (Arv Z h_ r kr .byte (1 : Int32) [(.int (nar .byte (k.toInt8.toInt32)))] (.int (0 : Int32))) ∧ (n0 ≤ r) ∧ (h0.size ≤ r)
set_option maxRecDepth 65536 in
set_option maxHeartbeats 40000000 in
theorem rm18 (l : Launch) (Z : State) (a0 : Array Value) (hw : ∀ d ∈ tables_1, d.before a0 Z = true) (ws : List Jvm.Cond) (k : Int32) (h0 : Heap) (n0 : Nat) (Z0 : n0 ≤ h0.size)  :
    MetFree l (⟨"java/lang/StringLatin1", "toBytes", "(C)[B"⟩ : MethodName) (head1 (Jvm.Cond.code (⟨"java/lang/StringLatin1", "toBytes", "(C)[B"⟩ : MethodName) jdk_43_method_46_code 1 (some (.array .byte)) :: ws) ({ frames := 0, cells := 1, slots := 1, locals := 0 } : Room)) (fun A_ U => A_ = #[(.int k)] ∧ Z.Warmed39 U.vm ∧ U.heap = h0) (fun _ _ _ _ _ => True) (fun _ U_ o_ U'_ => ∃ v_ L_, o_ = .returned v_ ∧ Q18 Z k h0 n0 v_ U'_.heap L_ ∧ FrameEnd U_ o_ U'_ L_ ({ frames := 0, cells := 1, slots := 1, locals := 0 } : Room).cells ({ frames := 0, cells := 1, slots := 1, locals := 0 } : Room).slots) := by
  refine MetFree.of_bodySF (plainFor_of_name pn_2) hisR ?_
  intro p e s m args below meth c s₁ Bd hml0 hP hK
  obtain ⟨rfl, hZ, hh⟩ := hP
  have hx := Bd.exec
  have hby := Bd.bytes
  have hml : c.maxLocals = 1 := hml0
  have hown : s.vm.findClass "java/lang/StringLatin1" = some m.cls := findClass_of_methodNamed Bd.named
  have hnm := (name_of_methodNamed Bd.named Bd.method).1
  have hlk : meth.locks = false := Bd.notSynchronized
  have X0 : Stand p l e ({ frames := 0, cells := 1, slots := 1, locals := 0 } : Room) s m #[(.int k)] below meth c s₁ [] 0 0 := Stand.of_body Bd
  have e0 : s₁.heap = h0 := by rw [← hh, Bd.state]; rfl
  have N0 := Fr.nil n0
  have K0 : Keep h0 h0 [] := Keep.refl _ _
  refine own_cast (ef_18 m k) ?_
  show OwnGo p e below s (Q18 Z k h0 n0) ({ frames := 0, cells := 1, slots := 1, locals := 0 } : Room).cells ({ frames := 0, cells := 1, slots := 1, locals := 0 } : Room).slots (s₁.setTop (mkF m 0 #[.val (.int k)] []))
  refine own_on (fun t k => XS.iconst X0.here hx rfl (hb hby d18_0) k) ?_
  show OwnGo p e below s _ _ _ (s₁.setTop (mkF m 1 #[.val (.int k)] [(.int (1 : Int32))]))
  obtain ⟨T1, h1, k1, X1, e1, E1, A1, st1⟩ := newP (aty := .byte) X0 hx hZ (w6 hw) e0 (g := (mkF m 1 #[.val (.int k)] [(.int (1 : Int32))])) rfl (hb hby d18_1) rfl (by decide) (cap := 1) (by decide) (by decide) (by decide) (by decide)
  obtain ⟨b1, g1⟩ : ∃ z, z = h0.size := ⟨_, rfl⟩
  rw [← g1] at A1 st1
  have g2 : n0 ≤ b1 := Nat.le_trans Z0 (Nat.le_of_eq g1.symm)
  have z3 : h0.size ≤ b1 := Nat.le_trans K0.1 (Nat.le_of_eq g1.symm)
  have V1 : Arv Z h1 b1 k1 .byte (1 : Int32) [(.int (0 : Int32))] (.int (0 : Int32)) := (Arv.new A1 (by decide)).pad (pad_rep [] (.int (0 : Int32)) 1)
  have Z1 : n0 ≤ h1.size := Nat.le_trans Z0 E1.1
  have K1 : Keep h0 h1 [] := K0.ext E1
  refine own_on st1 ?_
  show OwnGo p e below s _ _ _ (T1.setTop (mkF m 3 #[.val (.int k)] [(.ref b1)]))
  refine own_on (fun t k => XS.dup X1.here hx rfl (hb hby d18_3) rfl rfl k) ?_
  show OwnGo p e below s _ _ _ (T1.setTop (mkF m 4 #[.val (.int k)] [(.ref b1), (.ref b1)]))
  refine own_on (fun t k => XS.iconst X1.here hx rfl (hb hby d18_4) k) ?_
  show OwnGo p e below s _ _ _ (T1.setTop (mkF m 5 #[.val (.int k)] [(.int (0 : Int32)), (.ref b1), (.ref b1)]))
  refine own_on (fun t k => XS.iloadN X1.here hx rfl (hb hby d18_5) rfl k) ?_
  show OwnGo p e below s _ _ _ (T1.setTop (mkF m 6 #[.val (.int k)] [(.int k), (.int (0 : Int32)), (.ref b1), (.ref b1)]))
  refine own_on (fun t k => XS.i2b X1.here hx rfl (hb hby d18_6) rfl k) ?_
  show OwnGo p e below s _ _ _ (T1.setTop (mkF m 7 #[.val (.int k)] [(.int (k.toInt8.toInt32)), (.int (0 : Int32)), (.ref b1), (.ref b1)]))
  obtain ⟨cl4, Ar4, q4, S4, M4, H4, G4⟩ := id V1
  have hin4 : ¬ ((0 : Int32) < 0 ∨ cl4.slots.size ≤ ((0 : Int32)).toNatClampNeg) := inb_of S4 ⟨by decide, by decide⟩
  obtain ⟨T5, h5, X5, e5, W5, st5⟩ := stB X1 hx hZ e1 Ar4 (j := (0 : Int32)) hin4 (g := (mkF m 7 #[.val (.int k)] [(.int (k.toInt8.toInt32)), (.int (0 : Int32)), (.ref b1), (.ref b1)])) rfl rfl (hb hby d18_7)
  have V5 : Arv Z h5 b1 k1 .byte (1 : Int32) [(.int (nar .byte (k.toInt8.toInt32)))] (.int (0 : Int32)) :=  Arv.set Ar4 q4 S4 M4 H4 G4 (fits_nar_byte _) W5 0 rfl (Nat.le_of_ble_eq_true rfl)
  have N5 := Fr.snoc X5 N0 g2
  have Z5 : n0 ≤ h5.size := Nat.le_trans Z1 (Keep.of_wr W5).1
  have K5 : Keep h0 h5 [] := K1.wr W5 (Or.inr z3)
  refine own_on st5 ?_
  show OwnGo p e below s _ _ _ (T5.setTop (mkF m 8 #[.val (.int k)] [(.ref b1)]))
  exact own_retA X5 hx hlk Bd.returns rfl rfl (hb hby d18_8) e5 ⟨b1, k1, rfl, N5, K5, V5, g2, z3⟩ (by decide) (by decide)
theorem ef_19 (m : MethodId) (a : Addr) (bt : Addr)  : entryFrame m #[(.ref a), (.ref bt), (.int (0 : Int32))] 3 = mkF m 0 #[.val (.ref a), .val (.ref bt), .val (.int (0 : Int32))] [] := by first | (simp [entryFrame, mkF, argsToLocals, Value.category]; done) | rfl
def Q19 (Z : State) (a : Addr) (bt : Addr) (u : Value) (u' : Value) (h0 : Heap) (n0 : Nat) (v_ : Option Value) (h_ : Heap) (L_ : List Loc) : Prop := v_ = none ∧ Fr n0 L_ ∧ Keep h0 h_ [a] ∧ (Exa Z h_ a "java/lang/String") ∧ (Fld Z h_ a "java/lang/String" "value" "[B" (.ref bt)) ∧ (Fld Z h_ a "java/lang/String" "coder" "B" (.int (0 : Int32)))
set_option maxRecDepth 65536 in
set_option maxHeartbeats 40000000 in
theorem rm19 (l : Launch) (Z : State) (a0 : Array Value) (hw : ∀ d ∈ tables_1, d.before a0 Z = true) (ws : List Jvm.Cond) (a : Addr) (bt : Addr) (u : Value) (u' : Value) (h0 : Heap) (n0 : Nat) (Z0 : n0 ≤ h0.size) (P0 : Exa Z h0 a "java/lang/String") (P1 : Fld Z h0 a "java/lang/String" "value" "[B" u) (P2 : Fld Z h0 a "java/lang/String" "coder" "B" u') (P3 : n0 ≤ a) :
    MetFree l (⟨"java/lang/String", "<init>", "([BB)V"⟩ : MethodName) (head1 (Jvm.Cond.code (⟨"java/lang/String", "<init>", "([BB)V"⟩ : MethodName) jdk_42_method_151_code 3 none :: ws) ({ frames := 1, cells := 0, slots := 0, locals := 12 } : Room)) (fun A_ U => A_ = #[(.ref a), (.ref bt), (.int (0 : Int32))] ∧ Z.Warmed39 U.vm ∧ U.heap = h0) (fun _ _ _ _ _ => True) (fun _ U_ o_ U'_ => ∃ v_ L_, o_ = .returned v_ ∧ Q19 Z a bt u u' h0 n0 v_ U'_.heap L_ ∧ FrameEnd U_ o_ U'_ L_ ({ frames := 1, cells := 0, slots := 0, locals := 12 } : Room).cells ({ frames := 1, cells := 0, slots := 0, locals := 12 } : Room).slots) := by
  refine MetFree.of_bodySF (plainFor_of_name pn_0) hisR ?_
  intro p e s m args below meth c s₁ Bd hml0 hP hK
  obtain ⟨rfl, hZ, hh⟩ := hP
  have hx := Bd.exec
  have hby := Bd.bytes
  have hml : c.maxLocals = 3 := hml0
  have hown : s.vm.findClass "java/lang/String" = some m.cls := findClass_of_methodNamed Bd.named
  have hnm := (name_of_methodNamed Bd.named Bd.method).1
  have hlk : meth.locks = false := Bd.notSynchronized
  have X0 : Stand p l e ({ frames := 1, cells := 0, slots := 0, locals := 12 } : Room) s m #[(.ref a), (.ref bt), (.int (0 : Int32))] below meth c s₁ [] 0 0 := Stand.of_body Bd
  have e0 : s₁.heap = h0 := by rw [← hh, Bd.state]; rfl
  have N0 := Fr.nil n0
  have K0 : Keep h0 h0 [a] := Keep.refl _ _
  refine own_cast (ef_19 m a bt) ?_
  show OwnGo p e below s (Q19 Z a bt u u' h0 n0) ({ frames := 1, cells := 0, slots := 0, locals := 12 } : Room).cells ({ frames := 1, cells := 0, slots := 0, locals := 12 } : Room).slots (s₁.setTop (mkF m 0 #[.val (.ref a), .val (.ref bt), .val (.int (0 : Int32))] []))
  refine own_on (fun t k => XS.aloadN X0.here hx rfl (hb hby d19_0) rfl rfl k) ?_
  show OwnGo p e below s _ _ _ (s₁.setTop (mkF m 1 #[.val (.ref a), .val (.ref bt), .val (.int (0 : Int32))] [(.ref a)]))
  obtain ⟨T1, X1, e1, st1⟩ := initO X0 hx hZ hown (w112 hw) (w20 hw) (w21 hw) e0 (g := (mkF m 1 #[.val (.ref a), .val (.ref bt), .val (.int (0 : Int32))] [(.ref a)])) rfl (by rw [hml]; rfl) rfl (hb hby d19_1) (by decide) (W := 0) (by show 2 * 0 + _ ≤ _; exact Nat.le_of_eq rfl) (by decide)
  refine own_on st1 ?_
  show OwnGo p e below s _ _ _ (T1.setTop (mkF m 4 #[.val (.ref a), .val (.ref bt), .val (.int (0 : Int32))] []))
  refine own_on (fun t k => XS.aloadN X1.here hx rfl (hb hby d19_4) rfl rfl k) ?_
  show OwnGo p e below s _ _ _ (T1.setTop (mkF m 5 #[.val (.ref a), .val (.ref bt), .val (.int (0 : Int32))] [(.ref a)]))
  refine own_on (fun t k => XS.aloadN X1.here hx rfl (hb hby d19_5) rfl rfl k) ?_
  show OwnGo p e below s _ _ _ (T1.setTop (mkF m 6 #[.val (.ref a), .val (.ref bt), .val (.int (0 : Int32))] [(.ref bt), (.ref a)]))
  obtain ⟨T2, h2, X2, e2, W2, st2⟩ := putF X1 hx hZ hown (host := "") (Or.inl (w32 hw)) Via.refl e1 P1 P0 (Or.inr ⟨(w7 hw), rfl, hnm⟩) (w5 hw) (ty := (.array .byte)) (by decide) rfl rfl (g := (mkF m 6 #[.val (.ref a), .val (.ref bt), .val (.int (0 : Int32))] [(.ref bt), (.ref a)])) rfl rfl (hb hby d19_6)
  have F2 := P1.same W2
  have N2 := Fr.snoc X2 N0 P3
  have Z2 : n0 ≤ h2.size := Nat.le_trans Z0 (Keep.of_wr W2).1
  have K2 : Keep h0 h2 [a] := K0.wr W2 (Or.inl (List.mem_of_getElem? (i := 0) rfl))
  refine own_on st2 ?_
  show OwnGo p e below s _ _ _ (T2.setTop (mkF m 9 #[.val (.ref a), .val (.ref bt), .val (.int (0 : Int32))] []))
  refine own_on (fun t k => XS.aloadN X2.here hx rfl (hb hby d19_9) rfl rfl k) ?_
  show OwnGo p e below s _ _ _ (T2.setTop (mkF m 10 #[.val (.ref a), .val (.ref bt), .val (.int (0 : Int32))] [(.ref a)]))
  refine own_on (fun t k => XS.iloadN X2.here hx rfl (hb hby d19_10) rfl k) ?_
  show OwnGo p e below s _ _ _ (T2.setTop (mkF m 11 #[.val (.ref a), .val (.ref bt), .val (.int (0 : Int32))] [(.int (0 : Int32)), (.ref a)]))
  have f3 : Fld Z h2 a "java/lang/String" "coder" "B" u' := P2.other W2 (Or.inr (slot_ne (Or.inr (w8 hw)) (Or.inr (w7 hw)) (by decide) (t := .byte) (t' := (.array .byte)) (by decide) (by decide)))
  have f4 : Exa Z h2 a "java/lang/String" := P0.wr W2
  obtain ⟨T5, h5, X5, e5, W5, st5⟩ := putFN X2 hx hZ hown (w44 hw) Via.refl e2 f3 f4 (Or.inr ⟨(w8 hw), rfl, hnm⟩) (w5 hw) (ty := .byte) (v' := .int (0 : Int32)) (by decide) rfl rfl (g := (mkF m 11 #[.val (.ref a), .val (.ref bt), .val (.int (0 : Int32))] [(.int (0 : Int32)), (.ref a)])) rfl rfl (hb hby d19_11)
  have F5 := f3.same W5
  have N5 := Fr.snoc X5 N2 P3
  have Z5 : n0 ≤ h5.size := Nat.le_trans Z2 (Keep.of_wr W5).1
  have K5 : Keep h0 h5 [a] := K2.wr W5 (Or.inl (List.mem_of_getElem? (i := 0) rfl))
  refine own_on st5 ?_
  show OwnGo p e below s _ _ _ (T5.setTop (mkF m 14 #[.val (.ref a), .val (.ref bt), .val (.int (0 : Int32))] []))
  have f6 : Exa Z h5 a "java/lang/String" := f4.wr W5
  have f7 : Fld Z h5 a "java/lang/String" "value" "[B" (.ref bt) := F2.other W5 (Or.inr (slot_ne (Or.inr (w7 hw)) (Or.inr (w8 hw)) (by decide) (t := (.array .byte)) (t' := .byte) (by decide) (by decide)))
  exact own_retV X5 hx hlk Bd.returns (hb hby d19_14) e5 ⟨rfl, N5, K5, f6, f7, F5⟩ (by decide) (by decide)
theorem ef_16 (m : MethodId) (k : Int32)  : entryFrame m #[(.int k)] 1 = mkF m 0 #[.val (.int k)] [] := by first | (simp [entryFrame, mkF, argsToLocals, Value.category]; done) | rfl
def Q16 (Z : State) (k : Int32) (cs : Int32) (h0 : Heap) (n0 : Nat) (v_ : Option Value) (h_ : Heap) (L_ : List Loc) : Prop := ∃ r : Addr, ∃ rb : Addr, ∃ kr : ClassId, v_ = some (.ref r) ∧ Fr n0 L_ ∧ Keep h0 h_ [] ∧ (Exa Z h_ r "java/lang/String") ∧ (Fld Z h_ r "java/lang/String" "coder" "B" (.int (0 : Int32))) ∧ (Fld Z h_ r "java/lang/String" "value" "[B" (.ref rb)) ∧ (Arv Z h_ rb kr .byte (1 : Int32) [(.int (nar .byte (k.toInt8.toInt32)))] (.int (0 : Int32))) ∧ (n0 ≤ r) ∧ (n0 ≤ rb) ∧ (h0.size ≤ r) ∧ (h0.size ≤ rb) ∧ (Old Z n0 h_)
set_option maxRecDepth 65536 in
set_option maxHeartbeats 40000000 in
theorem rm16 (l : Launch) (Z : State) (a0 : Array Value) (hw : ∀ d ∈ tables_1, d.before a0 Z = true) (ws : List Jvm.Cond) (k : Int32) (cs : Int32) (h0 : Heap) (n0 : Nat) (Z0 : n0 ≤ h0.size) (P0 : Old Z n0 h0) (P1 : Sta Z Z.heap "java/lang/String" "COMPACT_STRINGS" "Z" (.int cs)) (P2 : ¬ (cs = (0 : Int32))) (P3 : ¬ (255 : Int32) < k) :
    MetFree l (⟨"java/lang/String", "valueOf", "(C)Ljava/lang/String;"⟩ : MethodName) (head1 (Jvm.Cond.code (⟨"java/lang/String", "valueOf", "(C)Ljava/lang/String;"⟩ : MethodName) jdk_42_method_139_code 1 (some (.object "java/lang/String")) :: ws) ({ frames := 2, cells := 2, slots := 5, locals := 27 } : Room)) (fun A_ U => A_ = #[(.int k)] ∧ Z.Warmed39 U.vm ∧ U.heap = h0) (fun _ _ _ _ _ => True) (fun _ U_ o_ U'_ => ∃ v_ L_, o_ = .returned v_ ∧ Q16 Z k cs h0 n0 v_ U'_.heap L_ ∧ FrameEnd U_ o_ U'_ L_ ({ frames := 2, cells := 2, slots := 5, locals := 27 } : Room).cells ({ frames := 2, cells := 2, slots := 5, locals := 27 } : Room).slots) := by
  refine MetFree.of_bodySF (plainFor_of_name pn_0) hisR ?_
  intro p e s m args below meth c s₁ Bd hml0 hP hK
  obtain ⟨rfl, hZ, hh⟩ := hP
  have hx := Bd.exec
  have hby := Bd.bytes
  have hml : c.maxLocals = 1 := hml0
  have hown : s.vm.findClass "java/lang/String" = some m.cls := findClass_of_methodNamed Bd.named
  have hnm := (name_of_methodNamed Bd.named Bd.method).1
  have hlk : meth.locks = false := Bd.notSynchronized
  have X0 : Stand p l e ({ frames := 2, cells := 2, slots := 5, locals := 27 } : Room) s m #[(.int k)] below meth c s₁ [] 0 0 := Stand.of_body Bd
  have e0 : s₁.heap = h0 := by rw [← hh, Bd.state]; rfl
  have N0 := Fr.nil n0
  have K0 : Keep h0 h0 [] := Keep.refl _ _
  refine own_cast (ef_16 m k) ?_
  show OwnGo p e below s (Q16 Z k cs h0 n0) ({ frames := 2, cells := 2, slots := 5, locals := 27 } : Room).cells ({ frames := 2, cells := 2, slots := 5, locals := 27 } : Room).slots (s₁.setTop (mkF m 0 #[.val (.int k)] []))
  obtain ⟨T1, X1, e1, st1⟩ := getS2 X0 hx hZ hown (host := "") (Or.inl (w43 hw)) Via.refl e0 (P1.ext P0.2) (g := (mkF m 0 #[.val (.int k)] [])) rfl (hb hby d16_0)
  refine own_on st1 ?_
  show OwnGo p e below s _ _ _ (T1.setTop (mkF m 3 #[.val (.int k)] [(.int cs)]))
  refine own_on (fun t k => XS.ifNo X1.here hx rfl (hb hby d16_3) rfl ((if0 _ _).trans (feq P2).1) k) ?_
  show OwnGo p e below s _ _ _ (T1.setTop (mkF m 6 #[.val (.int k)] []))
  refine own_on (fun t k => XS.iloadN X1.here hx rfl (hb hby d16_6) rfl k) ?_
  show OwnGo p e below s _ _ _ (T1.setTop (mkF m 7 #[.val (.int k)] [(.int k)]))
  obtain ⟨_, _, ⟨T2, L2, k2, n2⟩, -, X2, ⟨Lc2, hQ2, l2, y2, z2⟩, st2⟩ := Jvm.LawKit.callS X1 hx (y := (⟨"java/lang/StringLatin1", "canEncode", "(C)Z"⟩ : MethodName)) hown (mvT hZ (w101 hw)) (mvT hZ (w102 hw)) (mvT hZ (w57 hw)) (mvT hZ (w103 hw)) (by decide) (backOf (W := 0) (rm17 l Z a0 hw [] k h0 n0 Z0 P3) hZ (w103 hw) (w57 hw) (by decide) (by decide)) (g := (mkF m 7 #[.val (.int k)] [(.int k)])) rfl (by rw [hml]; rfl) (argsL := [(.int k)]) (rest := []) (lenOf pd_5 rfl) rfl (by show 2 * 0 + _ ≤ _; exact Nat.le_of_eq rfl) (hb hby d16_7) (fun _ _ => ⟨rfl, e1, (by decide : 0 + 0 ≤ _), (by decide : 0 + 0 ≤ _)⟩)
  dsimp only [Pt.U, Pt.locs, Pt.cells, Pt.slots] at X2 l2 y2 z2 st2 hQ2
  replace X2 := own_num (c' := 0) (n' := 0) X2 l2 (y2.trans rfl) (z2.trans rfl)
  obtain ⟨rfl, N2q, e2⟩ := hQ2
  have N2 := Fr.app N0 N2q
  refine own_on st2 ?_
  show OwnGo p e below s _ _ _ (T2.setTop (mkF m 10 #[.val (.int k)] [(.int (1 : Int32))]))
  refine own_on (fun t k => XS.ifNo X2.here hx rfl (hb hby d16_10) rfl ((if0 _ _).trans (feq (by decide : ¬ ((1 : Int32) = (0 : Int32)))).1) k) ?_
  show OwnGo p e below s _ _ _ (T2.setTop (mkF m 13 #[.val (.int k)] []))
  obtain ⟨T3, h3, X3, e3, E3, A3, D3, u3, st3⟩ := newO X2 hx hZ hown (w104 hw) (w5 hw) (w4 hw) e2 (g := (mkF m 13 #[.val (.int k)] [])) rfl (hb hby d16_13) (by decide) (by decide)
  obtain ⟨b3, g3⟩ : ∃ z, z = h0.size := ⟨_, rfl⟩
  rw [← g3] at A3 D3 st3
  have g4 : n0 ≤ b3 := Nat.le_trans Z0 (Nat.le_of_eq g3.symm)
  have z5 : h0.size ≤ b3 := Nat.le_trans K0.1 (Nat.le_of_eq g3.symm)
  have Z3 : n0 ≤ h3.size := Nat.le_trans Z0 E3.1
  have K3 : Keep h0 h3 [] := K0.ext E3
  have F3_value : Fld Z h3 b3 "java/lang/String" "value" "[B" .null := D3 (Or.inr (w7 hw)) (ty := (.array .byte)) (by decide)
  have F3_coder : Fld Z h3 b3 "java/lang/String" "coder" "B" (.int (0 : Int32)) := D3 (Or.inr (w8 hw)) (ty := .byte) (by decide)
  refine own_on st3 ?_
  show OwnGo p e below s _ _ _ (T3.setTop (mkF m 16 #[.val (.int k)] [(.ref b3)]))
  refine own_on (fun t k => XS.dup X3.here hx rfl (hb hby d16_16) rfl rfl k) ?_
  show OwnGo p e below s _ _ _ (T3.setTop (mkF m 17 #[.val (.int k)] [(.ref b3), (.ref b3)]))
  refine own_on (fun t k => XS.iloadN X3.here hx rfl (hb hby d16_17) rfl k) ?_
  show OwnGo p e below s _ _ _ (T3.setTop (mkF m 18 #[.val (.int k)] [(.int k), (.ref b3), (.ref b3)]))
  obtain ⟨_, _, ⟨T6, L6, k6, n6⟩, -, X6, ⟨Lc6, hQ6, l6, y6, z6⟩, st6⟩ := Jvm.LawKit.callS X3 hx (y := (⟨"java/lang/StringLatin1", "toBytes", "(C)[B"⟩ : MethodName)) hown (mvT hZ (w105 hw)) (mvT hZ (w106 hw)) (mvT hZ (w57 hw)) (mvT hZ (w107 hw)) (by decide) (backOf (W := 2) (rm18 l Z a0 hw [] k h3 n0 Z3 ) hZ (w107 hw) (w57 hw) (by decide) (by decide)) (g := (mkF m 18 #[.val (.int k)] [(.int k), (.ref b3), (.ref b3)])) rfl (by rw [hml]; rfl) (argsL := [(.int k)]) (rest := [(.ref b3), (.ref b3)]) (lenOf pd_6 rfl) rfl (by show 2 * 0 + _ ≤ _; exact Nat.le_of_eq rfl) (hb hby d16_18) (fun _ _ => ⟨rfl, e3, (by decide : 1 + 1 ≤ _), (by decide : 4 + 1 ≤ _)⟩)
  dsimp only [Pt.U, Pt.locs, Pt.cells, Pt.slots] at X6 l6 y6 z6 st6 hQ6
  replace X6 := own_num (c' := 2) (n' := 5) X6 l6 (y6.trans rfl) (z6.trans rfl)
  obtain ⟨r_6, kr_6, rfl, N6q, K6q, c6_0, c6_1, c6_2⟩ := hQ6
  have N6 := Fr.app N2 N6q
  have Z6 : n0 ≤ T6.heap.size := Nat.le_trans Z3 K6q.1
  have K6 : Keep h0 T6.heap [] := K3.trans K6q all0
  have ne7 : b3 ≠ r_6 := Nat.ne_of_lt (Nat.lt_of_lt_of_le A3.lt c6_2)
  have z8 : h0.size ≤ r_6 := Nat.le_trans K3.1 c6_2
  refine own_on st6 ?_
  show OwnGo p e below s _ _ _ (T6.setTop (mkF m 21 #[.val (.int k)] [(.ref r_6), (.ref b3), (.ref b3)]))
  refine own_on (fun t k => XS.iconst X6.here hx rfl (hb hby d16_21) k) ?_
  show OwnGo p e below s _ _ _ (T6.setTop (mkF m 22 #[.val (.int k)] [(.int (0 : Int32)), (.ref r_6), (.ref b3), (.ref b3)]))
  have f9 : Exa Z T6.heap b3 "java/lang/String" := A3.keep K6q
  have f10 : Fld Z T6.heap b3 "java/lang/String" "value" "[B" .null := F3_value.keep K6q nin0
  have f11 : Fld Z T6.heap b3 "java/lang/String" "coder" "B" (.int (0 : Int32)) := F3_coder.keep K6q nin0
  obtain ⟨_, _, ⟨T12, L12, k12, n12⟩, -, X12, ⟨Lc12, hQ12, l12, y12, z12⟩, st12⟩ := X6.specialBack hx (y := (⟨"java/lang/String", "<init>", "([BB)V"⟩ : MethodName)) rfl hown (mvT hZ (w108 hw)) (mvT hZ (w109 hw)) (mvT hZ (w111 hw)) (by decide) (backOf (W := 1) (rm19 l Z a0 hw [] b3 r_6 .null (.int (0 : Int32)) T6.heap n0 Z6 f9 f10 f11 g4) hZ (w111 hw) (w4 hw) (by decide) (by decide)) (g := (mkF m 22 #[.val (.int k)] [(.int (0 : Int32)), (.ref r_6), (.ref b3), (.ref b3)])) rfl (by rw [hml]; rfl) (Steps.refl _) (a := b3) (argsL := [(.ref r_6), (.int (0 : Int32))]) (rest := [(.ref b3)]) (lenOf pd_7 rfl) rfl (by show 2 * 0 + _ ≤ _; exact Nat.le_of_eq rfl) (hb hby d16_22) (fun _ _ => ⟨rfl, rfl, (by decide : 2 + 0 ≤ _), (by decide : 5 + 0 ≤ _)⟩)
  dsimp only [Pt.U, Pt.locs, Pt.cells, Pt.slots] at X12 l12 y12 z12 st12 hQ12
  replace X12 := own_num (c' := 2) (n' := 5) X12 l12 (y12.trans rfl) (z12.trans rfl)
  obtain ⟨rfl, N12q, K12q, c12_0, c12_1, c12_2⟩ := hQ12
  have N12 := Fr.app N6 N12q
  have Z12 : n0 ≤ T12.heap.size := Nat.le_trans Z6 K12q.1
  have K12 : Keep h0 T12.heap [] := K6.trans K12q (allS (P := fun x => x ∈ [] ∨ h0.size ≤ x) (Or.inr z5) all0)
  refine own_tr st12 ?_
  show OwnGo p e below s _ _ _ (T12.setTop (mkF m 25 #[.val (.int k)] [(.ref b3)]))
  have f13 : Arv Z T12.heap r_6 kr_6 .byte (1 : Int32) [(.int (nar .byte (k.toInt8.toInt32)))] (.int (0 : Int32)) := c6_0.keep K12q (ninS (Ne.symm ne7) nin0)
  have f14 : Old Z n0 h3 := P0.ext E3
  have f15 : Old Z n0 T6.heap := f14.keep K6q all0
  have f16 : Old Z n0 T12.heap := f15.keep K12q (allS g4 all0)
  exact own_retA X12 hx hlk Bd.returns rfl rfl (hb hby d16_25) rfl ⟨b3, r_6, kr_6, rfl, N12, K12, c12_0, c12_2, c12_1, f13, g4, c6_1, z5, z8, f16⟩ (by decide) (by decide)
theorem ef_2 (m : MethodId) (a : Addr)  : entryFrame m #[(.ref a)] 1 = mkF m 0 #[.val (.ref a)] [] := by first | (simp [entryFrame, mkF, argsToLocals, Value.category]; done) | rfl
def Q2 (Z : State) (a : Addr) (h0 : Heap) (n0 : Nat) (v_ : Option Value) (h_ : Heap) (L_ : List Loc) : Prop := v_ = none ∧ Fr n0 L_ ∧ h_ = h0
set_option maxRecDepth 65536 in
set_option maxHeartbeats 40000000 in
theorem rm2 (l : Launch) (Z : State) (a0 : Array Value) (hw : ∀ d ∈ tables_1, d.before a0 Z = true) (ws : List Jvm.Cond) (a : Addr) (h0 : Heap) (n0 : Nat) (Z0 : n0 ≤ h0.size)  :
    MetFree l (⟨"java/lang/Record", "<init>", "()V"⟩ : MethodName) (head1 (Jvm.Cond.code (⟨"java/lang/Record", "<init>", "()V"⟩ : MethodName) jdk_30_method_1_code 1 none :: ws) ({ frames := 1, cells := 0, slots := 0, locals := 12 } : Room)) (fun A_ U => A_ = #[(.ref a)] ∧ Z.Warmed39 U.vm ∧ U.heap = h0) (fun _ _ _ _ _ => True) (fun _ U_ o_ U'_ => ∃ v_ L_, o_ = .returned v_ ∧ Q2 Z a h0 n0 v_ U'_.heap L_ ∧ FrameEnd U_ o_ U'_ L_ ({ frames := 1, cells := 0, slots := 0, locals := 12 } : Room).cells ({ frames := 1, cells := 0, slots := 0, locals := 12 } : Room).slots) := by
  refine MetFree.of_bodySF (plainFor_of_name pn_3) hisR ?_
  intro p e s m args below meth c s₁ Bd hml0 hP hK
  obtain ⟨rfl, hZ, hh⟩ := hP
  have hx := Bd.exec
  have hby := Bd.bytes
  have hml : c.maxLocals = 1 := hml0
  have hown : s.vm.findClass "java/lang/Record" = some m.cls := findClass_of_methodNamed Bd.named
  have hnm := (name_of_methodNamed Bd.named Bd.method).1
  have hlk : meth.locks = false := Bd.notSynchronized
  have X0 : Stand p l e ({ frames := 1, cells := 0, slots := 0, locals := 12 } : Room) s m #[(.ref a)] below meth c s₁ [] 0 0 := Stand.of_body Bd
  have e0 : s₁.heap = h0 := by rw [← hh, Bd.state]; rfl
  have N0 := Fr.nil n0
  have K0 : Keep h0 h0 [] := Keep.refl _ _
  refine own_cast (ef_2 m a) ?_
  show OwnGo p e below s (Q2 Z a h0 n0) ({ frames := 1, cells := 0, slots := 0, locals := 12 } : Room).cells ({ frames := 1, cells := 0, slots := 0, locals := 12 } : Room).slots (s₁.setTop (mkF m 0 #[.val (.ref a)] []))
  refine own_on (fun t k => XS.aloadN X0.here hx rfl (hb hby d2_0) rfl rfl k) ?_
  show OwnGo p e below s _ _ _ (s₁.setTop (mkF m 1 #[.val (.ref a)] [(.ref a)]))
  obtain ⟨T1, X1, e1, st1⟩ := initO X0 hx hZ hown (w19 hw) (w20 hw) (w21 hw) e0 (g := (mkF m 1 #[.val (.ref a)] [(.ref a)])) rfl (by rw [hml]; rfl) rfl (hb hby d2_1) (by decide) (W := 0) (by show 2 * 0 + _ ≤ _; exact Nat.le_of_eq rfl) (by decide)
  refine own_on st1 ?_
  show OwnGo p e below s _ _ _ (T1.setTop (mkF m 4 #[.val (.ref a)] []))
  exact own_retV X1 hx hlk Bd.returns (hb hby d2_4) e1 ⟨rfl, N0, rfl⟩ (by decide) (by decide)
theorem ef_4 (m : MethodId) (a : Addr) (b : Addr)  : entryFrame m #[(.ref a), (.ref b)] 2 = mkF m 0 #[.val (.ref a), .val (.ref b)] [] := by first | (simp [entryFrame, mkF, argsToLocals, Value.category]; done) | rfl
def Q4 (Z : State) (a : Addr) (b : Addr) (h0 : Heap) (n0 : Nat) (v_ : Option Value) (h_ : Heap) (L_ : List Loc) : Prop := v_ = some (.ref a) ∧ Fr n0 L_ ∧ h_ = h0
set_option maxRecDepth 65536 in
set_option maxHeartbeats 40000000 in
theorem rm4 (l : Launch) (Z : State) (a0 : Array Value) (hw : ∀ d ∈ tables_1, d.before a0 Z = true) (ws : List Jvm.Cond) (a : Addr) (b : Addr) (h0 : Heap) (n0 : Nat) (Z0 : n0 ≤ h0.size)  :
    MetFree l (⟨"java/util/Objects", "requireNonNull", "(Ljava/lang/Object;Ljava/lang/String;)Ljava/lang/Object;"⟩ : MethodName) (head1 (Jvm.Cond.code (⟨"java/util/Objects", "requireNonNull", "(Ljava/lang/Object;Ljava/lang/String;)Ljava/lang/Object;"⟩ : MethodName) jdk_31_method_11_code 2 (some (.object "java/lang/Object")) :: ws) ({ frames := 0, cells := 0, slots := 0, locals := 0 } : Room)) (fun A_ U => A_ = #[(.ref a), (.ref b)] ∧ Z.Warmed39 U.vm ∧ U.heap = h0) (fun _ _ _ _ _ => True) (fun _ U_ o_ U'_ => ∃ v_ L_, o_ = .returned v_ ∧ Q4 Z a b h0 n0 v_ U'_.heap L_ ∧ FrameEnd U_ o_ U'_ L_ ({ frames := 0, cells := 0, slots := 0, locals := 0 } : Room).cells ({ frames := 0, cells := 0, slots := 0, locals := 0 } : Room).slots) := by
  refine MetFree.of_bodySF (plainFor_of_name pn_4) hisR ?_
  intro p e s m args below meth c s₁ Bd hml0 hP hK
  obtain ⟨rfl, hZ, hh⟩ := hP
  have hx := Bd.exec
  have hby := Bd.bytes
  have hml : c.maxLocals = 2 := hml0
  have hown : s.vm.findClass "java/util/Objects" = some m.cls := findClass_of_methodNamed Bd.named
  have hnm := (name_of_methodNamed Bd.named Bd.method).1
  have hlk : meth.locks = false := Bd.notSynchronized
  have X0 : Stand p l e ({ frames := 0, cells := 0, slots := 0, locals := 0 } : Room) s m #[(.ref a), (.ref b)] below meth c s₁ [] 0 0 := Stand.of_body Bd
  have e0 : s₁.heap = h0 := by rw [← hh, Bd.state]; rfl
  have N0 := Fr.nil n0
  have K0 : Keep h0 h0 [] := Keep.refl _ _
  refine own_cast (ef_4 m a b) ?_
  show OwnGo p e below s (Q4 Z a b h0 n0) ({ frames := 0, cells := 0, slots := 0, locals := 0 } : Room).cells ({ frames := 0, cells := 0, slots := 0, locals := 0 } : Room).slots (s₁.setTop (mkF m 0 #[.val (.ref a), .val (.ref b)] []))
  refine own_on (fun t k => XS.aloadN X0.here hx rfl (hb hby d4_0) rfl rfl k) ?_
  show OwnGo p e below s _ _ _ (s₁.setTop (mkF m 1 #[.val (.ref a), .val (.ref b)] [(.ref a)]))
  refine own_on (fun t k => XS.ifnonnullYes X0.here hx rfl (pc0 := 1) (pc' := 13) rfl (hb hby d4_1) rfl (by decide) (by decide) k) ?_
  show OwnGo p e below s _ _ _ (s₁.setTop (mkF m 13 #[.val (.ref a), .val (.ref b)] []))
  refine own_on (fun t k => XS.aloadN X0.here hx rfl (hb hby d4_13) rfl rfl k) ?_
  show OwnGo p e below s _ _ _ (s₁.setTop (mkF m 14 #[.val (.ref a), .val (.ref b)] [(.ref a)]))
  exact own_retA X0 hx hlk Bd.returns rfl rfl (hb hby d4_14) e0 ⟨rfl, N0, rfl⟩ (by decide) (by decide)
theorem ef_13 (m : MethodId) (k : Int32)  : entryFrame m #[(.int k)] 1 = mkF m 0 #[.val (.int k)] [] := by first | (simp [entryFrame, mkF, argsToLocals, Value.category]; done) | rfl
def Q13 (Z : State) (k : Int32) (h0 : Heap) (n0 : Nat) (v_ : Option Value) (h_ : Heap) (L_ : List Loc) : Prop := v_ = some (.int (1 : Int32)) ∧ Fr n0 L_ ∧ h_ = h0
set_option maxRecDepth 65536 in
set_option maxHeartbeats 40000000 in
theorem rm13 (l : Launch) (Z : State) (a0 : Array Value) (hw : ∀ d ∈ tables_1, d.before a0 Z = true) (ws : List Jvm.Cond) (k : Int32) (h0 : Heap) (n0 : Nat) (Z0 : n0 ≤ h0.size) (P0 : ¬ k < (97 : Int32)) (P1 : ¬ (122 : Int32) < k) :
    MetFree l (⟨"com/example/orderly_lock/orderlylock/LockName", "isNameCharacter", "(C)Z"⟩ : MethodName) (head1 (Jvm.Cond.code (⟨"com/example/orderly_lock/orderlylock/LockName", "isNameCharacter", "(C)Z"⟩ : MethodName) prog_9_method_3_code 1 (some .boolean) :: ws) ({ frames := 0, cells := 0, slots := 0, locals := 0 } : Room)) (fun A_ U => A_ = #[(.int k)] ∧ Z.Warmed39 U.vm ∧ U.heap = h0) (fun _ _ _ _ _ => True) (fun _ U_ o_ U'_ => ∃ v_ L_, o_ = .returned v_ ∧ Q13 Z k h0 n0 v_ U'_.heap L_ ∧ FrameEnd U_ o_ U'_ L_ ({ frames := 0, cells := 0, slots := 0, locals := 0 } : Room).cells ({ frames := 0, cells := 0, slots := 0, locals := 0 } : Room).slots) := by
  refine MetFree.of_bodySF (plainFor_of_name pn_5) hisR ?_
  intro p e s m args below meth c s₁ Bd hml0 hP hK
  obtain ⟨rfl, hZ, hh⟩ := hP
  have hx := Bd.exec
  have hby := Bd.bytes
  have hml : c.maxLocals = 1 := hml0
  have hown : s.vm.findClass "com/example/orderly_lock/orderlylock/LockName" = some m.cls := findClass_of_methodNamed Bd.named
  have hnm := (name_of_methodNamed Bd.named Bd.method).1
  have hlk : meth.locks = false := Bd.notSynchronized
  have X0 : Stand p l e ({ frames := 0, cells := 0, slots := 0, locals := 0 } : Room) s m #[(.int k)] below meth c s₁ [] 0 0 := Stand.of_body Bd
  have e0 : s₁.heap = h0 := by rw [← hh, Bd.state]; rfl
  have N0 := Fr.nil n0
  have K0 : Keep h0 h0 [] := Keep.refl _ _
  refine own_cast (ef_13 m k) ?_
  show OwnGo p e below s (Q13 Z k h0 n0) ({ frames := 0, cells := 0, slots := 0, locals := 0 } : Room).cells ({ frames := 0, cells := 0, slots := 0, locals := 0 } : Room).slots (s₁.setTop (mkF m 0 #[.val (.int k)] []))
  refine own_on (fun t k => XS.iloadN X0.here hx rfl (hb hby d13_0) rfl k) ?_
  show OwnGo p e below s _ _ _ (s₁.setTop (mkF m 1 #[.val (.int k)] [(.int k)]))
  refine own_on (fun t k => XS.bipush X0.here hx rfl (hb hby d13_1) k) ?_
  show OwnGo p e below s _ _ _ (s₁.setTop (mkF m 3 #[.val (.int k)] [(.int (97 : Int32)), (.int k)]))
  refine own_on (fun t k => XS.icmpNo X0.here hx rfl (hb hby d13_3) rfl (flt P0).1 k) ?_
  show OwnGo p e below s _ _ _ (s₁.setTop (mkF m 6 #[.val (.int k)] []))
  refine own_on (fun t k => XS.iloadN X0.here hx rfl (hb hby d13_6) rfl k) ?_
  show OwnGo p e below s _ _ _ (s₁.setTop (mkF m 7 #[.val (.int k)] [(.int k)]))
  refine own_on (fun t k => XS.bipush X0.here hx rfl (hb hby d13_7) k) ?_
  show OwnGo p e below s _ _ _ (s₁.setTop (mkF m 9 #[.val (.int k)] [(.int (122 : Int32)), (.int k)]))
  refine own_on (fun t k => XS.icmpYes X0.here hx rfl (pc0 := 9) (pc' := 54) rfl (hb hby d13_9) rfl (flt P1).2.2.2 (by decide) (by decide) k) ?_
  show OwnGo p e below s _ _ _ (s₁.setTop (mkF m 54 #[.val (.int k)] []))
  refine own_on (fun t k => XS.iconst X0.here hx rfl (hb hby d13_54) k) ?_
  show OwnGo p e below s _ _ _ (s₁.setTop (mkF m 55 #[.val (.int k)] [(.int (1 : Int32))]))
  refine own_on (fun t k => XS.goto X0.here hx rfl (pc0 := 55) (pc' := 59) rfl (hb hby d13_55) (by decide) (by decide) k) ?_
  show OwnGo p e below s _ _ _ (s₁.setTop (mkF m 59 #[.val (.int k)] [(.int (1 : Int32))]))
  exact own_retN X0 hx hlk (t := .boolean) Bd.returns (by simp) (hb hby d13_59) e0 ⟨rfl, N0, rfl⟩ (by decide) (by decide)
theorem ef_1 (m : MethodId) (a : Addr) (sx : Addr)  : entryFrame m #[(.ref a), (.ref sx)] 4 = mkF m 0 #[.val (.ref a), .val (.ref sx), .unset, .unset] [] := by first | (simp [entryFrame, mkF, argsToLocals, Value.category]; done) | rfl
def Q1 (Z : State) (a : Addr) (sx : Addr) (cs : Int32) (sf : Value) (bt : Addr) (kb : ClassId) (u : Value) (h0 : Heap) (n0 : Nat) (v_ : Option Value) (h_ : Heap) (L_ : List Loc) : Prop := v_ = none ∧ Fr n0 L_ ∧ Keep h0 h_ [a] ∧ (Exa Z h_ a "com/example/orderly_lock/orderlylock/LockName") ∧ (Old Z n0 h_)
set_option maxRecDepth 65536 in
set_option maxHeartbeats 40000000 in
theorem rm1 (l : Launch) (Z : State) (a0 : Array Value) (hw : ∀ d ∈ tables_1, d.before a0 Z = true) (ws : List Jvm.Cond) (a : Addr) (sx : Addr) (cs : Int32) (sf : Value) (bt : Addr) (kb : ClassId) (u : Value) (h0 : Heap) (n0 : Nat) (Z0 : n0 ≤ h0.size) (P0 : Old Z n0 h0) (P1 : Sta Z Z.heap "java/lang/String" "COMPACT_STRINGS" "Z" (.int cs)) (P2 : ¬ (cs = (0 : Int32))) (P3 : Sta Z Z.heap "jdk/internal/util/Preconditions" "SIOOBE_FORMATTER" "Ljava/util/function/BiFunction;" sf) (P4 : sf.isRef = true) (P5 : Exa Z h0 a "com/example/orderly_lock/orderlylock/LockName") (P6 : Fld Z h0 a "com/example/orderly_lock/orderlylock/LockName" "value" "Ljava/lang/String;" u) (P7 : n0 ≤ a) (P8 : Exa Z h0 sx "java/lang/String") (P9 : Fld Z h0 sx "java/lang/String" "coder" "B" (.int (0 : Int32))) (P10 : Fld Z h0 sx "java/lang/String" "value" "[B" (.ref bt)) (P11 : Arv Z h0 bt kb .byte (6 : Int32) [(.int (108 : Int32)), (.int (101 : Int32)), (.int (100 : Int32)), (.int (103 : Int32)), (.int (101 : Int32)), (.int (114 : Int32))] (.int (0 : Int32))) :
    MetFree l (⟨"com/example/orderly_lock/orderlylock/LockName", "<init>", "(Ljava/lang/String;)V"⟩ : MethodName) (head1 (Jvm.Cond.code (⟨"com/example/orderly_lock/orderlylock/LockName", "<init>", "(Ljava/lang/String;)V"⟩ : MethodName) prog_9_method_1_code 4 none :: ws) ({ frames := 4, cells := 2, slots := 40, locals := 53 } : Room)) (fun A_ U => A_ = #[(.ref a), (.ref sx)] ∧ Z.Warmed39 U.vm ∧ U.heap = h0) (fun _ _ _ _ _ => True) (fun _ U_ o_ U'_ => ∃ v_ L_, o_ = .returned v_ ∧ Q1 Z a sx cs sf bt kb u h0 n0 v_ U'_.heap L_ ∧ ReturnedEndW U_ o_ U'_ L_ ({ frames := 4, cells := 2, slots := 40, locals := 53 } : Room).cells ({ frames := 4, cells := 2, slots := 40, locals := 53 } : Room).slots) := by
  refine MetFree.of_bodySF (plainFor_of_name pn_5) hisR ?_
  intro p e s m args below meth c s₁ Bd hml0 hP hK
  obtain ⟨rfl, hZ, hh⟩ := hP
  have hx := Bd.exec
  have hby := Bd.bytes
  have hml : c.maxLocals = 4 := hml0
  have hown : s.vm.findClass "com/example/orderly_lock/orderlylock/LockName" = some m.cls := findClass_of_methodNamed Bd.named
  have hnm := (name_of_methodNamed Bd.named Bd.method).1
  have hlk : meth.locks = false := Bd.notSynchronized
  have X0 : Stand p l e ({ frames := 4, cells := 2, slots := 40, locals := 53 } : Room) s m #[(.ref a), (.ref sx)] below meth c s₁ [] 0 0 := Stand.of_body Bd
  have e0 : s₁.heap = h0 := by rw [← hh, Bd.state]; rfl
  have N0 := Fr.nil n0
  have K0 : Keep h0 h0 [a] := Keep.refl _ _
  have hwarm := X0.warmed
  have hS0 : s.Since s₁.vm 0 := X0.warmed.since _
  have hZ : Z.Warmed39 (s.setVm s₁.vm).vm := wtrans hZ X0.warmed
  have hown : (s.setVm s₁.vm).vm.findClass "com/example/orderly_lock/orderlylock/LockName" = some m.cls := (X0.warmed.alike.findClass _ _).trans hown
  have X0 := X0.retabled X0.warmed.wide
  have hml : c.maxLocals = 4 := hml
  refine own_castW (ef_1 m a sx) ?_
  show OwnGoW p e below s (Q1 Z a sx cs sf bt kb u h0 n0) ({ frames := 4, cells := 2, slots := 40, locals := 53 } : Room).cells ({ frames := 4, cells := 2, slots := 40, locals := 53 } : Room).slots (s₁.setTop (mkF m 0 #[.val (.ref a), .val (.ref sx), .unset, .unset] []))
  refine own_onW (fun t k => XS.aloadN X0.here hx rfl (hb hby d1_0) rfl rfl k) ?_
  show OwnGoW p e below s _ _ _ (s₁.setTop (mkF m 1 #[.val (.ref a), .val (.ref sx), .unset, .unset] [(.ref a)]))
  obtain ⟨_, _, ⟨T1, L1, k1, n1⟩, -, X1, ⟨Lc1, hQ1, l1, y1, z1⟩, st1⟩ := X0.specialBack hx (y := (⟨"java/lang/Record", "<init>", "()V"⟩ : MethodName)) rfl hown (mvT hZ (w14 hw)) (mvT hZ (w15 hw)) (mvT hZ (w18 hw)) (by decide) (backOf (W := 0) (rm2 l Z a0 hw [] a h0 n0 Z0 ) hZ (w18 hw) (w17 hw) (by decide) (by decide)) (g := (mkF m 1 #[.val (.ref a), .val (.ref sx), .unset, .unset] [(.ref a)])) rfl (by rw [hml]; rfl) (Steps.refl _) (a := a) (argsL := []) (rest := []) (lenOf pd_8 rfl) rfl (by show 2 * 0 + _ ≤ _; exact Nat.le_of_eq rfl) (hb hby d1_1) (fun _ _ => ⟨rfl, e0, (by decide : 0 + 0 ≤ _), (by decide : 0 + 0 ≤ _)⟩)
  dsimp only [Pt.U, Pt.locs, Pt.cells, Pt.slots] at X1 l1 y1 z1 st1 hQ1
  replace X1 := own_num (c' := 0) (n' := 0) X1 l1 (y1.trans rfl) (z1.trans rfl)
  obtain ⟨rfl, N1q, e1⟩ := hQ1
  have N1 := Fr.app N0 N1q
  refine own_trW st1 ?_
  show OwnGoW p e below s _ _ _ (T1.setTop (mkF m 4 #[.val (.ref a), .val (.ref sx), .unset, .unset] []))
  refine own_onW (fun t k => XS.aloadN X1.here hx rfl (hb hby d1_4) rfl rfl k) ?_
  show OwnGoW p e below s _ _ _ (T1.setTop (mkF m 5 #[.val (.ref a), .val (.ref sx), .unset, .unset] [(.ref sx)]))
  obtain ⟨b2, T2, h2, k2, X2, e2, E2, hS2, hk2, hZ, hown, st2⟩ := ldcS X1 hx hZ hown (w22 hw) (own_str hw) e1 hS0 (Nat.zero_le _) (g := (mkF m 5 #[.val (.ref a), .val (.ref sx), .unset, .unset] [(.ref sx)])) rfl (hb hby d1_5) (n := 36) (by decide) (by decide) (by decide) (by decide)
  have Z2 : n0 ≤ h2.size := Nat.le_trans Z0 E2.1
  have K2 : Keep h0 h2 [a] := K0.ext E2
  refine own_onW st2 ?_
  show OwnGoW p e below s _ _ _ (T2.setTop (mkF m 7 #[.val (.ref a), .val (.ref sx), .unset, .unset] [(.ref b2), (.ref sx)]))
  obtain ⟨_, _, ⟨T3, L3, k3, n3⟩, -, X3, ⟨Lc3, hQ3, l3, y3, z3⟩, st3⟩ := Jvm.LawKit.callS X2 hx (y := (⟨"java/util/Objects", "requireNonNull", "(Ljava/lang/Object;Ljava/lang/String;)Ljava/lang/Object;"⟩ : MethodName)) hown (mvT hZ (w23 hw)) (mvT hZ (w24 hw)) (mvT hZ (w25 hw)) (mvT hZ (w26 hw)) (by decide) (backOf (W := 0) (rm4 l Z a0 hw [] sx b2 h2 n0 Z2 ) hZ (w26 hw) (w25 hw) (by decide) (by decide)) (g := (mkF m 7 #[.val (.ref a), .val (.ref sx), .unset, .unset] [(.ref b2), (.ref sx)])) rfl (by rw [hml]; rfl) (argsL := [(.ref sx), (.ref b2)]) (rest := []) (lenOf pd_9 rfl) rfl (by show 2 * 0 + _ ≤ _; exact Nat.le_of_eq rfl) (hb hby d1_7) (fun _ _ => ⟨rfl, e2, (by decide : 2 + 0 ≤ _), (by decide : 40 + 0 ≤ _)⟩)
  dsimp only [Pt.U, Pt.locs, Pt.cells, Pt.slots] at X3 l3 y3 z3 st3 hQ3
  replace X3 := own_num (c' := 2) (n' := 40) X3 l3 (y3.trans rfl) (z3.trans rfl)
  obtain ⟨rfl, N3q, e3⟩ := hQ3
  have N3 := Fr.app N1 N3q
  refine own_onW st3 ?_
  show OwnGoW p e below s _ _ _ (T3.setTop (mkF m 10 #[.val (.ref a), .val (.ref sx), .unset, .unset] [(.ref sx)]))
  refine own_onW (fun t k => XS.pop X3.here hx rfl (hb hby d1_10) rfl rfl k) ?_
  show OwnGoW p e below s _ _ _ (T3.setTop (mkF m 11 #[.val (.ref a), .val (.ref sx), .unset, .unset] []))
  refine own_onW (fun t k => XS.aloadN X3.here hx rfl (hb hby d1_11) rfl rfl k) ?_
  show OwnGoW p e below s _ _ _ (T3.setTop (mkF m 12 #[.val (.ref a), .val (.ref sx), .unset, .unset] [(.ref sx)]))
  have f4 : Exa Z h2 sx "java/lang/String" := P8.ext E2
  have f5 : Fld Z h2 sx "java/lang/String" "value" "[B" (.ref bt) := P10.ext E2
  have f6 : Arv Z h2 bt kb .byte (6 : Int32) [(.int (108 : Int32)), (.int (101 : Int32)), (.int (100 : Int32)), (.int (103 : Int32)), (.int (101 : Int32)), (.int (114 : Int32))] (.int (0 : Int32)) := P11.ext E2
  obtain ⟨cq7, kq7, q7a, q7b, q7c⟩ := isOf hZ e3 f4
  obtain ⟨_, _, ⟨T7, L7, k7, n7⟩, -, X7, ⟨Lc7, hQ7, l7, y7, z7⟩, st7⟩ := X3.virtualBack hx (y := (⟨"java/lang/String", "isEmpty", "()Z"⟩ : MethodName)) (z := (⟨"java/lang/String", "isEmpty", "()Z"⟩ : MethodName)) hown (mvT hZ (w27 hw)) (mvT hZ (w28 hw)) (notFace_of_selects (args := #[]) (mvT hZ (w30 hw))) (mvT hZ (w30 hw)) (mvT hZ (w29 hw)) (by decide) (backOf (W := 0) (rm5 l Z a0 hw [] sx bt kb (6 : Int32) [(.int (108 : Int32)), (.int (101 : Int32)), (.int (100 : Int32)), (.int (103 : Int32)), (.int (101 : Int32)), (.int (114 : Int32))] (.int (0 : Int32)) h2 n0 Z2 f4 f5 f6) hZ (w31 hw) (w4 hw) (by decide) (by decide)) q7a q7c (g := (mkF m 12 #[.val (.ref a), .val (.ref sx), .unset, .unset] [(.ref sx)])) rfl (by rw [hml]; rfl) (Steps.refl _) (argsL := []) (rest := []) (lenOf pd_3 rfl) rfl (by show 2 * 0 + _ ≤ _; exact Nat.le_of_eq rfl) (hb hby d1_12) (fun _ _ => ⟨rfl, e3, (by decide : 2 + 0 ≤ _), (by decide : 40 + 0 ≤ _)⟩)
  dsimp only [Pt.U, Pt.locs, Pt.cells, Pt.slots] at X7 l7 y7 z7 st7 hQ7
  replace X7 := own_num (c' := 2) (n' := 40) X7 l7 (y7.trans rfl) (z7.trans rfl)
  obtain ⟨rfl, N7q, e7⟩ := hQ7
  have N7 := Fr.app N3 N7q
  refine own_trW st7 ?_
  show OwnGoW p e below s _ _ _ (T7.setTop (mkF m 15 #[.val (.ref a), .val (.ref sx), .unset, .unset] [(.int (own_isz (6 : Int32)))]))
  rw [show (own_isz (6 : Int32)) = (0 : Int32) from (by decide)]
  show OwnGoW p e below s _ _ _ (T7.setTop (mkF m 15 #[.val (.ref a), .val (.ref sx), .unset, .unset] [(.int (0 : Int32))]))
  refine own_onW (fun t k => XS.ifNo X7.here hx rfl (hb hby d1_15) rfl ((if0 _ _).trans (teq (by decide : (0 : Int32) = (0 : Int32))).2) k) ?_
  show OwnGoW p e below s _ _ _ (T7.setTop (mkF m 18 #[.val (.ref a), .val (.ref sx), .unset, .unset] []))
  refine own_onW (fun t k => XS.aloadN X7.here hx rfl (hb hby d1_18) rfl rfl k) ?_
  show OwnGoW p e below s _ _ _ (T7.setTop (mkF m 19 #[.val (.ref a), .val (.ref sx), .unset, .unset] [(.ref sx)]))
  have f8 : Old Z n0 h2 := P0.ext E2
  have f9 : Fld Z h2 sx "java/lang/String" "coder" "B" (.int (0 : Int32)) := P9.ext E2
  obtain ⟨cq10, kq10, q10a, q10b, q10c⟩ := isOf hZ e7 f4
  obtain ⟨_, _, ⟨T10, L10, k10, n10⟩, -, X10, ⟨Lc10, hQ10, l10, y10, z10⟩, st10⟩ := X7.virtualBack hx (y := (⟨"java/lang/String", "length", "()I"⟩ : MethodName)) (z := (⟨"java/lang/String", "length", "()I"⟩ : MethodName)) hown (mvT hZ (w33 hw)) (mvT hZ (w34 hw)) (notFace_of_selects (args := #[]) (mvT hZ (w36 hw))) (mvT hZ (w36 hw)) (mvT hZ (w35 hw)) (by decide) (backOf (W := 0) (rm6 l Z a0 hw [] sx cs bt kb (6 : Int32) [(.int (108 : Int32)), (.int (101 : Int32)), (.int (100 : Int32)), (.int (103 : Int32)), (.int (101 : Int32)), (.int (114 : Int32))] (.int (0 : Int32)) h2 n0 Z2 f8 P1 P2 f4 f9 f5 f6) hZ (w37 hw) (w4 hw) (by decide) (by decide)) q10a q10c (g := (mkF m 19 #[.val (.ref a), .val (.ref sx), .unset, .unset] [(.ref sx)])) rfl (by rw [hml]; rfl) (Steps.refl _) (argsL := []) (rest := []) (lenOf pd_10 rfl) rfl (by show 2 * 0 + _ ≤ _; exact Nat.le_of_eq rfl) (hb hby d1_19) (fun _ _ => ⟨rfl, e7, (by decide : 2 + 0 ≤ _), (by decide : 40 + 0 ≤ _)⟩)
  dsimp only [Pt.U, Pt.locs, Pt.cells, Pt.slots] at X10 l10 y10 z10 st10 hQ10
  replace X10 := own_num (c' := 2) (n' := 40) X10 l10 (y10.trans rfl) (z10.trans rfl)
  obtain ⟨rfl, N10q, e10⟩ := hQ10
  have N10 := Fr.app N7 N10q
  refine own_trW st10 ?_
  show OwnGoW p e below s _ _ _ (T10.setTop (mkF m 22 #[.val (.ref a), .val (.ref sx), .unset, .unset] [(.int (6 : Int32))]))
  refine own_onW (fun t k => XS.sipush X10.here hx rfl (hb hby d1_22) k) ?_
  show OwnGoW p e below s _ _ _ (T10.setTop (mkF m 25 #[.val (.ref a), .val (.ref sx), .unset, .unset] [(.int (128 : Int32)), (.int (6 : Int32))]))
  refine own_onW (fun t k => XS.icmpYes X10.here hx rfl (pc0 := 25) (pc' := 45) rfl (hb hby d1_25) rfl (flt (by decide : ¬ ((128 : Int32) < (6 : Int32)))).2.2.2 (by decide) (by decide) k) ?_
  show OwnGoW p e below s _ _ _ (T10.setTop (mkF m 45 #[.val (.ref a), .val (.ref sx), .unset, .unset] []))
  refine own_onW (fun t k => XS.iconst X10.here hx rfl (hb hby d1_45) k) ?_
  show OwnGoW p e below s _ _ _ (T10.setTop (mkF m 46 #[.val (.ref a), .val (.ref sx), .unset, .unset] [(.int (0 : Int32))]))
  refine own_onW (fun t k => XS.istoreN X10.here hx rfl (hb hby d1_46) rfl (l' := #[.val (.ref a), .val (.ref sx), .val (.int (0 : Int32)), .unset]) rfl k) ?_
  show OwnGoW p e below s _ _ _ (T10.setTop (mkF m 47 #[.val (.ref a), .val (.ref sx), .val (.int (0 : Int32)), .unset] []))
  refine own_onW (fun t k => XS.iloadN X10.here hx rfl (hb hby d1_47) rfl k) ?_
  show OwnGoW p e below s _ _ _ (T10.setTop (mkF m 48 #[.val (.ref a), .val (.ref sx), .val (.int (0 : Int32)), .unset] [(.int (0 : Int32))]))
  refine own_onW (fun t k => XS.aloadN X10.here hx rfl (hb hby d1_48) rfl rfl k) ?_
  show OwnGoW p e below s _ _ _ (T10.setTop (mkF m 49 #[.val (.ref a), .val (.ref sx), .val (.int (0 : Int32)), .unset] [(.ref sx), (.int (0 : Int32))]))
  obtain ⟨cq11, kq11, q11a, q11b, q11c⟩ := isOf hZ e10 f4
  obtain ⟨_, _, ⟨T11, L11, k11, n11⟩, -, X11, ⟨Lc11, hQ11, l11, y11, z11⟩, st11⟩ := X10.virtualBack hx (y := (⟨"java/lang/String", "length", "()I"⟩ : MethodName)) (z := (⟨"java/lang/String", "length", "()I"⟩ : MethodName)) hown (mvT hZ (w33 hw)) (mvT hZ (w34 hw)) (notFace_of_selects (args := #[]) (mvT hZ (w36 hw))) (mvT hZ (w36 hw)) (mvT hZ (w35 hw)) (by decide) (backOf (W := 1) (rm6 l Z a0 hw [] sx cs bt kb (6 : Int32) [(.int (108 : Int32)), (.int (101 : Int32)), (.int (100 : Int32)), (.int (103 : Int32)), (.int (101 : Int32)), (.int (114 : Int32))] (.int (0 : Int32)) h2 n0 Z2 f8 P1 P2 f4 f9 f5 f6) hZ (w37 hw) (w4 hw) (by decide) (by decide)) q11a q11c (g := (mkF m 49 #[.val (.ref a), .val (.ref sx), .val (.int (0 : Int32)), .unset] [(.ref sx), (.int (0 : Int32))])) rfl (by rw [hml]; rfl) (Steps.refl _) (argsL := []) (rest := [(.int (0 : Int32))]) (lenOf pd_10 rfl) rfl (by show 2 * 0 + _ ≤ _; exact Nat.le_of_eq rfl) (hb hby d1_49) (fun _ _ => ⟨rfl, e10, (by decide : 2 + 0 ≤ _), (by decide : 40 + 0 ≤ _)⟩)
  dsimp only [Pt.U, Pt.locs, Pt.cells, Pt.slots] at X11 l11 y11 z11 st11 hQ11
  replace X11 := own_num (c' := 2) (n' := 40) X11 l11 (y11.trans rfl) (z11.trans rfl)
  obtain ⟨rfl, N11q, e11⟩ := hQ11
  have N11 := Fr.app N10 N11q
  refine own_trW st11 ?_
  show OwnGoW p e below s _ _ _ (T11.setTop (mkF m 52 #[.val (.ref a), .val (.ref sx), .val (.int (0 : Int32)), .unset] [(.int (6 : Int32)), (.int (0 : Int32))]))
  refine own_onW (fun t k => XS.icmpNo X11.here hx rfl (hb hby d1_52) rfl (tlt (by decide : (0 : Int32) < (6 : Int32))).2.1 k) ?_
  show OwnGoW p e below s _ _ _ (T11.setTop (mkF m 55 #[.val (.ref a), .val (.ref sx), .val (.int (0 : Int32)), .unset] []))
  refine own_onW (fun t k => XS.aloadN X11.here hx rfl (hb hby d1_55) rfl rfl k) ?_
  show OwnGoW p e below s _ _ _ (T11.setTop (mkF m 56 #[.val (.ref a), .val (.ref sx), .val (.int (0 : Int32)), .unset] [(.ref sx)]))
  refine own_onW (fun t k => XS.iloadN X11.here hx rfl (hb hby d1_56) rfl k) ?_
  show OwnGoW p e below s _ _ _ (T11.setTop (mkF m 57 #[.val (.ref a), .val (.ref sx), .val (.int (0 : Int32)), .unset] [(.int (0 : Int32)), (.ref sx)]))
  obtain ⟨cq12, kq12, q12a, q12b, q12c⟩ := isOf hZ e11 f4
  obtain ⟨_, _, ⟨T12, L12, k12, n12⟩, -, X12, ⟨Lc12, hQ12, l12, y12, z12⟩, st12⟩ := X11.virtualBack hx (y := (⟨"java/lang/String", "charAt", "(I)C"⟩ : MethodName)) (z := (⟨"java/lang/String", "charAt", "(I)C"⟩ : MethodName)) hown (mvT hZ (w45 hw)) (mvT hZ (w46 hw)) (notFace_of_selects (args := #[]) (mvT hZ (w48 hw))) (mvT hZ (w48 hw)) (mvT hZ (w47 hw)) (by decide) (backOf (W := 0) (rm8 l Z a0 hw [] sx (0 : Int32) cs sf bt kb (6 : Int32) [(.int (108 : Int32)), (.int (101 : Int32)), (.int (100 : Int32)), (.int (103 : Int32)), (.int (101 : Int32)), (.int (114 : Int32))] (.int (0 : Int32)) (108 : Int32) h2 n0 Z2 f8 P1 P2 P3 P4 f4 f9 f5 f6 (by decide : ¬ (0 : Int32) < 0) (by decide : (0 : Int32) < (6 : Int32)) (by rfl : ([(.int (108 : Int32)), (.int (101 : Int32)), (.int (100 : Int32)), (.int (103 : Int32)), (.int (101 : Int32)), (.int (114 : Int32))] : List Value).getD ((0 : Int32)).toNatClampNeg (.int (0 : Int32)) = (.int (108 : Int32)))) hZ (w49 hw) (w4 hw) (by decide) (by decide)) q12a q12c (g := (mkF m 57 #[.val (.ref a), .val (.ref sx), .val (.int (0 : Int32)), .unset] [(.int (0 : Int32)), (.ref sx)])) rfl (by rw [hml]; rfl) (Steps.refl _) (argsL := [(.int (0 : Int32))]) (rest := []) (lenOf pd_11 rfl) rfl (by show 2 * 0 + _ ≤ _; exact Nat.le_of_eq rfl) (hb hby d1_57) (fun _ _ => ⟨rfl, e11, (by decide : 2 + 0 ≤ _), (by decide : 40 + 0 ≤ _)⟩)
  dsimp only [Pt.U, Pt.locs, Pt.cells, Pt.slots] at X12 l12 y12 z12 st12 hQ12
  replace X12 := own_num (c' := 2) (n' := 40) X12 l12 (y12.trans rfl) (z12.trans rfl)
  obtain ⟨rfl, N12q, e12⟩ := hQ12
  have N12 := Fr.app N11 N12q
  refine own_trW st12 ?_
  show OwnGoW p e below s _ _ _ (T12.setTop (mkF m 60 #[.val (.ref a), .val (.ref sx), .val (.int (0 : Int32)), .unset] [(.int ((108 : Int32) &&& (255 : Int32)))]))
  rw [show ((108 : Int32) &&& (255 : Int32)) = (108 : Int32) from (by decide)]
  show OwnGoW p e below s _ _ _ (T12.setTop (mkF m 60 #[.val (.ref a), .val (.ref sx), .val (.int (0 : Int32)), .unset] [(.int (108 : Int32))]))
  refine own_onW (fun t k => XS.istoreN X12.here hx rfl (hb hby d1_60) rfl (l' := #[.val (.ref a), .val (.ref sx), .val (.int (0 : Int32)), .val (.int (108 : Int32))]) rfl k) ?_
  show OwnGoW p e below s _ _ _ (T12.setTop (mkF m 61 #[.val (.ref a), .val (.ref sx), .val (.int (0 : Int32)), .val (.int (108 : Int32))] []))
  refine own_onW (fun t k => XS.iloadN X12.here hx rfl (hb hby d1_61) rfl k) ?_
  show OwnGoW p e below s _ _ _ (T12.setTop (mkF m 62 #[.val (.ref a), .val (.ref sx), .val (.int (0 : Int32)), .val (.int (108 : Int32))] [(.int (108 : Int32))]))
  obtain ⟨_, _, ⟨T13, L13, k13, n13⟩, -, X13, ⟨Lc13, hQ13, l13, y13, z13⟩, st13⟩ := Jvm.LawKit.callS X12 hx (y := (⟨"com/example/orderly_lock/orderlylock/LockName", "isNameCharacter", "(C)Z"⟩ : MethodName)) hown (mvT hZ (w67 hw)) (mvT hZ (w68 hw)) (mvT hZ (w2 hw)) (mvT hZ (w69 hw)) (by decide) (backOf (W := 0) (rm13 l Z a0 hw [] (108 : Int32) h2 n0 Z2 (by decide : ¬ (108 : Int32) < (97 : Int32)) (by decide : ¬ (122 : Int32) < (108 : Int32))) hZ (w69 hw) (w2 hw) (by decide) (by decide)) (g := (mkF m 62 #[.val (.ref a), .val (.ref sx), .val (.int (0 : Int32)), .val (.int (108 : Int32))] [(.int (108 : Int32))])) rfl (by rw [hml]; rfl) (argsL := [(.int (108 : Int32))]) (rest := []) (lenOf pd_5 rfl) rfl (by show 2 * 0 + _ ≤ _; exact Nat.le_of_eq rfl) (hb hby d1_62) (fun _ _ => ⟨rfl, e12, (by decide : 2 + 0 ≤ _), (by decide : 40 + 0 ≤ _)⟩)
  dsimp only [Pt.U, Pt.locs, Pt.cells, Pt.slots] at X13 l13 y13 z13 st13 hQ13
  replace X13 := own_num (c' := 2) (n' := 40) X13 l13 (y13.trans rfl) (z13.trans rfl)
  obtain ⟨rfl, N13q, e13⟩ := hQ13
  have N13 := Fr.app N12 N13q
  refine own_onW st13 ?_
  show OwnGoW p e below s _ _ _ (T13.setTop (mkF m 65 #[.val (.ref a), .val (.ref sx), .val (.int (0 : Int32)), .val (.int (108 : Int32))] [(.int (1 : Int32))]))
  refine own_onW (fun t k => XS.ifYes X13.here hx rfl (pc0 := 65) (pc' := 99) rfl (hb hby d1_65) rfl ((if0 _ _).trans (feq (by decide : ¬ ((1 : Int32) = (0 : Int32)))).2) (by decide) (by decide) k) ?_
  show OwnGoW p e below s _ _ _ (T13.setTop (mkF m 99 #[.val (.ref a), .val (.ref sx), .val (.int (0 : Int32)), .val (.int (108 : Int32))] []))
  refine own_onW (fun t k => XS.iinc X13.here hx rfl (hb hby d1_99) rfl (l' := #[.val (.ref a), .val (.ref sx), .val (.int (1 : Int32)), .val (.int (108 : Int32))]) rfl k) ?_
  show OwnGoW p e below s _ _ _ (T13.setTop (mkF m 102 #[.val (.ref a), .val (.ref sx), .val (.int (1 : Int32)), .val (.int (108 : Int32))] []))
  refine own_onW (fun t k => XS.goto X13.here hx rfl (pc0 := 102) (pc' := 47) rfl (hb hby d1_102) (by decide) (by decide) k) ?_
  show OwnGoW p e below s _ _ _ (T13.setTop (mkF m 47 #[.val (.ref a), .val (.ref sx), .val (.int (1 : Int32)), .val (.int (108 : Int32))] []))
  refine own_onW (fun t k => XS.iloadN X13.here hx rfl (hb hby d1_47) rfl k) ?_
  show OwnGoW p e below s _ _ _ (T13.setTop (mkF m 48 #[.val (.ref a), .val (.ref sx), .val (.int (1 : Int32)), .val (.int (108 : Int32))] [(.int (1 : Int32))]))
  refine own_onW (fun t k => XS.aloadN X13.here hx rfl (hb hby d1_48) rfl rfl k) ?_
  show OwnGoW p e below s _ _ _ (T13.setTop (mkF m 49 #[.val (.ref a), .val (.ref sx), .val (.int (1 : Int32)), .val (.int (108 : Int32))] [(.ref sx), (.int (1 : Int32))]))
  obtain ⟨cq14, kq14, q14a, q14b, q14c⟩ := isOf hZ e13 f4
  obtain ⟨_, _, ⟨T14, L14, k14, n14⟩, -, X14, ⟨Lc14, hQ14, l14, y14, z14⟩, st14⟩ := X13.virtualBack hx (y := (⟨"java/lang/String", "length", "()I"⟩ : MethodName)) (z := (⟨"java/lang/String", "length", "()I"⟩ : MethodName)) hown (mvT hZ (w33 hw)) (mvT hZ (w34 hw)) (notFace_of_selects (args := #[]) (mvT hZ (w36 hw))) (mvT hZ (w36 hw)) (mvT hZ (w35 hw)) (by decide) (backOf (W := 1) (rm6 l Z a0 hw [] sx cs bt kb (6 : Int32) [(.int (108 : Int32)), (.int (101 : Int32)), (.int (100 : Int32)), (.int (103 : Int32)), (.int (101 : Int32)), (.int (114 : Int32))] (.int (0 : Int32)) h2 n0 Z2 f8 P1 P2 f4 f9 f5 f6) hZ (w37 hw) (w4 hw) (by decide) (by decide)) q14a q14c (g := (mkF m 49 #[.val (.ref a), .val (.ref sx), .val (.int (1 : Int32)), .val (.int (108 : Int32))] [(.ref sx), (.int (1 : Int32))])) rfl (by rw [hml]; rfl) (Steps.refl _) (argsL := []) (rest := [(.int (1 : Int32))]) (lenOf pd_10 rfl) rfl (by show 2 * 0 + _ ≤ _; exact Nat.le_of_eq rfl) (hb hby d1_49) (fun _ _ => ⟨rfl, e13, (by decide : 2 + 0 ≤ _), (by decide : 40 + 0 ≤ _)⟩)
  dsimp only [Pt.U, Pt.locs, Pt.cells, Pt.slots] at X14 l14 y14 z14 st14 hQ14
  replace X14 := own_num (c' := 2) (n' := 40) X14 l14 (y14.trans rfl) (z14.trans rfl)
  obtain ⟨rfl, N14q, e14⟩ := hQ14
  have N14 := Fr.app N13 N14q
  refine own_trW st14 ?_
  show OwnGoW p e below s _ _ _ (T14.setTop (mkF m 52 #[.val (.ref a), .val (.ref sx), .val (.int (1 : Int32)), .val (.int (108 : Int32))] [(.int (6 : Int32)), (.int (1 : Int32))]))
  refine own_onW (fun t k => XS.icmpNo X14.here hx rfl (hb hby d1_52) rfl (tlt (by decide : (1 : Int32) < (6 : Int32))).2.1 k) ?_
  show OwnGoW p e below s _ _ _ (T14.setTop (mkF m 55 #[.val (.ref a), .val (.ref sx), .val (.int (1 : Int32)), .val (.int (108 : Int32))] []))
  refine own_onW (fun t k => XS.aloadN X14.here hx rfl (hb hby d1_55) rfl rfl k) ?_
  show OwnGoW p e below s _ _ _ (T14.setTop (mkF m 56 #[.val (.ref a), .val (.ref sx), .val (.int (1 : Int32)), .val (.int (108 : Int32))] [(.ref sx)]))
  refine own_onW (fun t k => XS.iloadN X14.here hx rfl (hb hby d1_56) rfl k) ?_
  show OwnGoW p e below s _ _ _ (T14.setTop (mkF m 57 #[.val (.ref a), .val (.ref sx), .val (.int (1 : Int32)), .val (.int (108 : Int32))] [(.int (1 : Int32)), (.ref sx)]))
  obtain ⟨cq15, kq15, q15a, q15b, q15c⟩ := isOf hZ e14 f4
  obtain ⟨_, _, ⟨T15, L15, k15, n15⟩, -, X15, ⟨Lc15, hQ15, l15, y15, z15⟩, st15⟩ := X14.virtualBack hx (y := (⟨"java/lang/String", "charAt", "(I)C"⟩ : MethodName)) (z := (⟨"java/lang/String", "charAt", "(I)C"⟩ : MethodName)) hown (mvT hZ (w45 hw)) (mvT hZ (w46 hw)) (notFace_of_selects (args := #[]) (mvT hZ (w48 hw))) (mvT hZ (w48 hw)) (mvT hZ (w47 hw)) (by decide) (backOf (W := 0) (rm8 l Z a0 hw [] sx (1 : Int32) cs sf bt kb (6 : Int32) [(.int (108 : Int32)), (.int (101 : Int32)), (.int (100 : Int32)), (.int (103 : Int32)), (.int (101 : Int32)), (.int (114 : Int32))] (.int (0 : Int32)) (101 : Int32) h2 n0 Z2 f8 P1 P2 P3 P4 f4 f9 f5 f6 (by decide : ¬ (1 : Int32) < 0) (by decide : (1 : Int32) < (6 : Int32)) (by rfl : ([(.int (108 : Int32)), (.int (101 : Int32)), (.int (100 : Int32)), (.int (103 : Int32)), (.int (101 : Int32)), (.int (114 : Int32))] : List Value).getD ((1 : Int32)).toNatClampNeg (.int (0 : Int32)) = (.int (101 : Int32)))) hZ (w49 hw) (w4 hw) (by decide) (by decide)) q15a q15c (g := (mkF m 57 #[.val (.ref a), .val (.ref sx), .val (.int (1 : Int32)), .val (.int (108 : Int32))] [(.int (1 : Int32)), (.ref sx)])) rfl (by rw [hml]; rfl) (Steps.refl _) (argsL := [(.int (1 : Int32))]) (rest := []) (lenOf pd_11 rfl) rfl (by show 2 * 0 + _ ≤ _; exact Nat.le_of_eq rfl) (hb hby d1_57) (fun _ _ => ⟨rfl, e14, (by decide : 2 + 0 ≤ _), (by decide : 40 + 0 ≤ _)⟩)
  dsimp only [Pt.U, Pt.locs, Pt.cells, Pt.slots] at X15 l15 y15 z15 st15 hQ15
  replace X15 := own_num (c' := 2) (n' := 40) X15 l15 (y15.trans rfl) (z15.trans rfl)
  obtain ⟨rfl, N15q, e15⟩ := hQ15
  have N15 := Fr.app N14 N15q
  refine own_trW st15 ?_
  show OwnGoW p e below s _ _ _ (T15.setTop (mkF m 60 #[.val (.ref a), .val (.ref sx), .val (.int (1 : Int32)), .val (.int (108 : Int32))] [(.int ((101 : Int32) &&& (255 : Int32)))]))
  rw [show ((101 : Int32) &&& (255 : Int32)) = (101 : Int32) from (by decide)]
  show OwnGoW p e below s _ _ _ (T15.setTop (mkF m 60 #[.val (.ref a), .val (.ref sx), .val (.int (1 : Int32)), .val (.int (108 : Int32))] [(.int (101 : Int32))]))
  refine own_onW (fun t k => XS.istoreN X15.here hx rfl (hb hby d1_60) rfl (l' := #[.val (.ref a), .val (.ref sx), .val (.int (1 : Int32)), .val (.int (101 : Int32))]) rfl k) ?_
  show OwnGoW p e below s _ _ _ (T15.setTop (mkF m 61 #[.val (.ref a), .val (.ref sx), .val (.int (1 : Int32)), .val (.int (101 : Int32))] []))
  refine own_onW (fun t k => XS.iloadN X15.here hx rfl (hb hby d1_61) rfl k) ?_
  show OwnGoW p e below s _ _ _ (T15.setTop (mkF m 62 #[.val (.ref a), .val (.ref sx), .val (.int (1 : Int32)), .val (.int (101 : Int32))] [(.int (101 : Int32))]))
  obtain ⟨_, _, ⟨T16, L16, k16, n16⟩, -, X16, ⟨Lc16, hQ16, l16, y16, z16⟩, st16⟩ := Jvm.LawKit.callS X15 hx (y := (⟨"com/example/orderly_lock/orderlylock/LockName", "isNameCharacter", "(C)Z"⟩ : MethodName)) hown (mvT hZ (w67 hw)) (mvT hZ (w68 hw)) (mvT hZ (w2 hw)) (mvT hZ (w69 hw)) (by decide) (backOf (W := 0) (rm13 l Z a0 hw [] (101 : Int32) h2 n0 Z2 (by decide : ¬ (101 : Int32) < (97 : Int32)) (by decide : ¬ (122 : Int32) < (101 : Int32))) hZ (w69 hw) (w2 hw) (by decide) (by decide)) (g := (mkF m 62 #[.val (.ref a), .val (.ref sx), .val (.int (1 : Int32)), .val (.int (101 : Int32))] [(.int (101 : Int32))])) rfl (by rw [hml]; rfl) (argsL := [(.int (101 : Int32))]) (rest := []) (lenOf pd_5 rfl) rfl (by show 2 * 0 + _ ≤ _; exact Nat.le_of_eq rfl) (hb hby d1_62) (fun _ _ => ⟨rfl, e15, (by decide : 2 + 0 ≤ _), (by decide : 40 + 0 ≤ _)⟩)
  dsimp only [Pt.U, Pt.locs, Pt.cells, Pt.slots] at X16 l16 y16 z16 st16 hQ16
  replace X16 := own_num (c' := 2) (n' := 40) X16 l16 (y16.trans rfl) (z16.trans rfl)
  obtain ⟨rfl, N16q, e16⟩ := hQ16
  have N16 := Fr.app N15 N16q
  refine own_onW st16 ?_
  show OwnGoW p e below s _ _ _ (T16.setTop (mkF m 65 #[.val (.ref a), .val (.ref sx), .val (.int (1 : Int32)), .val (.int (101 : Int32))] [(.int (1 : Int32))]))
  refine own_onW (fun t k => XS.ifYes X16.here hx rfl (pc0 := 65) (pc' := 99) rfl (hb hby d1_65) rfl ((if0 _ _).trans (feq (by decide : ¬ ((1 : Int32) = (0 : Int32)))).2) (by decide) (by decide) k) ?_
  show OwnGoW p e below s _ _ _ (T16.setTop (mkF m 99 #[.val (.ref a), .val (.ref sx), .val (.int (1 : Int32)), .val (.int (101 : Int32))] []))
  refine own_onW (fun t k => XS.iinc X16.here hx rfl (hb hby d1_99) rfl (l' := #[.val (.ref a), .val (.ref sx), .val (.int (2 : Int32)), .val (.int (101 : Int32))]) rfl k) ?_
  show OwnGoW p e below s _ _ _ (T16.setTop (mkF m 102 #[.val (.ref a), .val (.ref sx), .val (.int (2 : Int32)), .val (.int (101 : Int32))] []))
  refine own_onW (fun t k => XS.goto X16.here hx rfl (pc0 := 102) (pc' := 47) rfl (hb hby d1_102) (by decide) (by decide) k) ?_
  show OwnGoW p e below s _ _ _ (T16.setTop (mkF m 47 #[.val (.ref a), .val (.ref sx), .val (.int (2 : Int32)), .val (.int (101 : Int32))] []))
  refine own_onW (fun t k => XS.iloadN X16.here hx rfl (hb hby d1_47) rfl k) ?_
  show OwnGoW p e below s _ _ _ (T16.setTop (mkF m 48 #[.val (.ref a), .val (.ref sx), .val (.int (2 : Int32)), .val (.int (101 : Int32))] [(.int (2 : Int32))]))
  refine own_onW (fun t k => XS.aloadN X16.here hx rfl (hb hby d1_48) rfl rfl k) ?_
  show OwnGoW p e below s _ _ _ (T16.setTop (mkF m 49 #[.val (.ref a), .val (.ref sx), .val (.int (2 : Int32)), .val (.int (101 : Int32))] [(.ref sx), (.int (2 : Int32))]))
  obtain ⟨cq17, kq17, q17a, q17b, q17c⟩ := isOf hZ e16 f4
  obtain ⟨_, _, ⟨T17, L17, k17, n17⟩, -, X17, ⟨Lc17, hQ17, l17, y17, z17⟩, st17⟩ := X16.virtualBack hx (y := (⟨"java/lang/String", "length", "()I"⟩ : MethodName)) (z := (⟨"java/lang/String", "length", "()I"⟩ : MethodName)) hown (mvT hZ (w33 hw)) (mvT hZ (w34 hw)) (notFace_of_selects (args := #[]) (mvT hZ (w36 hw))) (mvT hZ (w36 hw)) (mvT hZ (w35 hw)) (by decide) (backOf (W := 1) (rm6 l Z a0 hw [] sx cs bt kb (6 : Int32) [(.int (108 : Int32)), (.int (101 : Int32)), (.int (100 : Int32)), (.int (103 : Int32)), (.int (101 : Int32)), (.int (114 : Int32))] (.int (0 : Int32)) h2 n0 Z2 f8 P1 P2 f4 f9 f5 f6) hZ (w37 hw) (w4 hw) (by decide) (by decide)) q17a q17c (g := (mkF m 49 #[.val (.ref a), .val (.ref sx), .val (.int (2 : Int32)), .val (.int (101 : Int32))] [(.ref sx), (.int (2 : Int32))])) rfl (by rw [hml]; rfl) (Steps.refl _) (argsL := []) (rest := [(.int (2 : Int32))]) (lenOf pd_10 rfl) rfl (by show 2 * 0 + _ ≤ _; exact Nat.le_of_eq rfl) (hb hby d1_49) (fun _ _ => ⟨rfl, e16, (by decide : 2 + 0 ≤ _), (by decide : 40 + 0 ≤ _)⟩)
  dsimp only [Pt.U, Pt.locs, Pt.cells, Pt.slots] at X17 l17 y17 z17 st17 hQ17
  replace X17 := own_num (c' := 2) (n' := 40) X17 l17 (y17.trans rfl) (z17.trans rfl)
  obtain ⟨rfl, N17q, e17⟩ := hQ17
  have N17 := Fr.app N16 N17q
  refine own_trW st17 ?_
  show OwnGoW p e below s _ _ _ (T17.setTop (mkF m 52 #[.val (.ref a), .val (.ref sx), .val (.int (2 : Int32)), .val (.int (101 : Int32))] [(.int (6 : Int32)), (.int (2 : Int32))]))
  refine own_onW (fun t k => XS.icmpNo X17.here hx rfl (hb hby d1_52) rfl (tlt (by decide : (2 : Int32) < (6 : Int32))).2.1 k) ?_
  show OwnGoW p e below s _ _ _ (T17.setTop (mkF m 55 #[.val (.ref a), .val (.ref sx), .val (.int (2 : Int32)), .val (.int (101 : Int32))] []))
  refine own_onW (fun t k => XS.aloadN X17.here hx rfl (hb hby d1_55) rfl rfl k) ?_
  show OwnGoW p e below s _ _ _ (T17.setTop (mkF m 56 #[.val (.ref a), .val (.ref sx), .val (.int (2 : Int32)), .val (.int (101 : Int32))] [(.ref sx)]))
  refine own_onW (fun t k => XS.iloadN X17.here hx rfl (hb hby d1_56) rfl k) ?_
  show OwnGoW p e below s _ _ _ (T17.setTop (mkF m 57 #[.val (.ref a), .val (.ref sx), .val (.int (2 : Int32)), .val (.int (101 : Int32))] [(.int (2 : Int32)), (.ref sx)]))
  obtain ⟨cq18, kq18, q18a, q18b, q18c⟩ := isOf hZ e17 f4
  obtain ⟨_, _, ⟨T18, L18, k18, n18⟩, -, X18, ⟨Lc18, hQ18, l18, y18, z18⟩, st18⟩ := X17.virtualBack hx (y := (⟨"java/lang/String", "charAt", "(I)C"⟩ : MethodName)) (z := (⟨"java/lang/String", "charAt", "(I)C"⟩ : MethodName)) hown (mvT hZ (w45 hw)) (mvT hZ (w46 hw)) (notFace_of_selects (args := #[]) (mvT hZ (w48 hw))) (mvT hZ (w48 hw)) (mvT hZ (w47 hw)) (by decide) (backOf (W := 0) (rm8 l Z a0 hw [] sx (2 : Int32) cs sf bt kb (6 : Int32) [(.int (108 : Int32)), (.int (101 : Int32)), (.int (100 : Int32)), (.int (103 : Int32)), (.int (101 : Int32)), (.int (114 : Int32))] (.int (0 : Int32)) (100 : Int32) h2 n0 Z2 f8 P1 P2 P3 P4 f4 f9 f5 f6 (by decide : ¬ (2 : Int32) < 0) (by decide : (2 : Int32) < (6 : Int32)) (by rfl : ([(.int (108 : Int32)), (.int (101 : Int32)), (.int (100 : Int32)), (.int (103 : Int32)), (.int (101 : Int32)), (.int (114 : Int32))] : List Value).getD ((2 : Int32)).toNatClampNeg (.int (0 : Int32)) = (.int (100 : Int32)))) hZ (w49 hw) (w4 hw) (by decide) (by decide)) q18a q18c (g := (mkF m 57 #[.val (.ref a), .val (.ref sx), .val (.int (2 : Int32)), .val (.int (101 : Int32))] [(.int (2 : Int32)), (.ref sx)])) rfl (by rw [hml]; rfl) (Steps.refl _) (argsL := [(.int (2 : Int32))]) (rest := []) (lenOf pd_11 rfl) rfl (by show 2 * 0 + _ ≤ _; exact Nat.le_of_eq rfl) (hb hby d1_57) (fun _ _ => ⟨rfl, e17, (by decide : 2 + 0 ≤ _), (by decide : 40 + 0 ≤ _)⟩)
  dsimp only [Pt.U, Pt.locs, Pt.cells, Pt.slots] at X18 l18 y18 z18 st18 hQ18
  replace X18 := own_num (c' := 2) (n' := 40) X18 l18 (y18.trans rfl) (z18.trans rfl)
  obtain ⟨rfl, N18q, e18⟩ := hQ18
  have N18 := Fr.app N17 N18q
  refine own_trW st18 ?_
  show OwnGoW p e below s _ _ _ (T18.setTop (mkF m 60 #[.val (.ref a), .val (.ref sx), .val (.int (2 : Int32)), .val (.int (101 : Int32))] [(.int ((100 : Int32) &&& (255 : Int32)))]))
  rw [show ((100 : Int32) &&& (255 : Int32)) = (100 : Int32) from (by decide)]
  show OwnGoW p e below s _ _ _ (T18.setTop (mkF m 60 #[.val (.ref a), .val (.ref sx), .val (.int (2 : Int32)), .val (.int (101 : Int32))] [(.int (100 : Int32))]))
  refine own_onW (fun t k => XS.istoreN X18.here hx rfl (hb hby d1_60) rfl (l' := #[.val (.ref a), .val (.ref sx), .val (.int (2 : Int32)), .val (.int (100 : Int32))]) rfl k) ?_
  show OwnGoW p e below s _ _ _ (T18.setTop (mkF m 61 #[.val (.ref a), .val (.ref sx), .val (.int (2 : Int32)), .val (.int (100 : Int32))] []))
  refine own_onW (fun t k => XS.iloadN X18.here hx rfl (hb hby d1_61) rfl k) ?_
  show OwnGoW p e below s _ _ _ (T18.setTop (mkF m 62 #[.val (.ref a), .val (.ref sx), .val (.int (2 : Int32)), .val (.int (100 : Int32))] [(.int (100 : Int32))]))
  obtain ⟨_, _, ⟨T19, L19, k19, n19⟩, -, X19, ⟨Lc19, hQ19, l19, y19, z19⟩, st19⟩ := Jvm.LawKit.callS X18 hx (y := (⟨"com/example/orderly_lock/orderlylock/LockName", "isNameCharacter", "(C)Z"⟩ : MethodName)) hown (mvT hZ (w67 hw)) (mvT hZ (w68 hw)) (mvT hZ (w2 hw)) (mvT hZ (w69 hw)) (by decide) (backOf (W := 0) (rm13 l Z a0 hw [] (100 : Int32) h2 n0 Z2 (by decide : ¬ (100 : Int32) < (97 : Int32)) (by decide : ¬ (122 : Int32) < (100 : Int32))) hZ (w69 hw) (w2 hw) (by decide) (by decide)) (g := (mkF m 62 #[.val (.ref a), .val (.ref sx), .val (.int (2 : Int32)), .val (.int (100 : Int32))] [(.int (100 : Int32))])) rfl (by rw [hml]; rfl) (argsL := [(.int (100 : Int32))]) (rest := []) (lenOf pd_5 rfl) rfl (by show 2 * 0 + _ ≤ _; exact Nat.le_of_eq rfl) (hb hby d1_62) (fun _ _ => ⟨rfl, e18, (by decide : 2 + 0 ≤ _), (by decide : 40 + 0 ≤ _)⟩)
  dsimp only [Pt.U, Pt.locs, Pt.cells, Pt.slots] at X19 l19 y19 z19 st19 hQ19
  replace X19 := own_num (c' := 2) (n' := 40) X19 l19 (y19.trans rfl) (z19.trans rfl)
  obtain ⟨rfl, N19q, e19⟩ := hQ19
  have N19 := Fr.app N18 N19q
  refine own_onW st19 ?_
  show OwnGoW p e below s _ _ _ (T19.setTop (mkF m 65 #[.val (.ref a), .val (.ref sx), .val (.int (2 : Int32)), .val (.int (100 : Int32))] [(.int (1 : Int32))]))
  refine own_onW (fun t k => XS.ifYes X19.here hx rfl (pc0 := 65) (pc' := 99) rfl (hb hby d1_65) rfl ((if0 _ _).trans (feq (by decide : ¬ ((1 : Int32) = (0 : Int32)))).2) (by decide) (by decide) k) ?_
  show OwnGoW p e below s _ _ _ (T19.setTop (mkF m 99 #[.val (.ref a), .val (.ref sx), .val (.int (2 : Int32)), .val (.int (100 : Int32))] []))
  refine own_onW (fun t k => XS.iinc X19.here hx rfl (hb hby d1_99) rfl (l' := #[.val (.ref a), .val (.ref sx), .val (.int (3 : Int32)), .val (.int (100 : Int32))]) rfl k) ?_
  show OwnGoW p e below s _ _ _ (T19.setTop (mkF m 102 #[.val (.ref a), .val (.ref sx), .val (.int (3 : Int32)), .val (.int (100 : Int32))] []))
  refine own_onW (fun t k => XS.goto X19.here hx rfl (pc0 := 102) (pc' := 47) rfl (hb hby d1_102) (by decide) (by decide) k) ?_
  show OwnGoW p e below s _ _ _ (T19.setTop (mkF m 47 #[.val (.ref a), .val (.ref sx), .val (.int (3 : Int32)), .val (.int (100 : Int32))] []))
  refine own_onW (fun t k => XS.iloadN X19.here hx rfl (hb hby d1_47) rfl k) ?_
  show OwnGoW p e below s _ _ _ (T19.setTop (mkF m 48 #[.val (.ref a), .val (.ref sx), .val (.int (3 : Int32)), .val (.int (100 : Int32))] [(.int (3 : Int32))]))
  refine own_onW (fun t k => XS.aloadN X19.here hx rfl (hb hby d1_48) rfl rfl k) ?_
  show OwnGoW p e below s _ _ _ (T19.setTop (mkF m 49 #[.val (.ref a), .val (.ref sx), .val (.int (3 : Int32)), .val (.int (100 : Int32))] [(.ref sx), (.int (3 : Int32))]))
  obtain ⟨cq20, kq20, q20a, q20b, q20c⟩ := isOf hZ e19 f4
  obtain ⟨_, _, ⟨T20, L20, k20, n20⟩, -, X20, ⟨Lc20, hQ20, l20, y20, z20⟩, st20⟩ := X19.virtualBack hx (y := (⟨"java/lang/String", "length", "()I"⟩ : MethodName)) (z := (⟨"java/lang/String", "length", "()I"⟩ : MethodName)) hown (mvT hZ (w33 hw)) (mvT hZ (w34 hw)) (notFace_of_selects (args := #[]) (mvT hZ (w36 hw))) (mvT hZ (w36 hw)) (mvT hZ (w35 hw)) (by decide) (backOf (W := 1) (rm6 l Z a0 hw [] sx cs bt kb (6 : Int32) [(.int (108 : Int32)), (.int (101 : Int32)), (.int (100 : Int32)), (.int (103 : Int32)), (.int (101 : Int32)), (.int (114 : Int32))] (.int (0 : Int32)) h2 n0 Z2 f8 P1 P2 f4 f9 f5 f6) hZ (w37 hw) (w4 hw) (by decide) (by decide)) q20a q20c (g := (mkF m 49 #[.val (.ref a), .val (.ref sx), .val (.int (3 : Int32)), .val (.int (100 : Int32))] [(.ref sx), (.int (3 : Int32))])) rfl (by rw [hml]; rfl) (Steps.refl _) (argsL := []) (rest := [(.int (3 : Int32))]) (lenOf pd_10 rfl) rfl (by show 2 * 0 + _ ≤ _; exact Nat.le_of_eq rfl) (hb hby d1_49) (fun _ _ => ⟨rfl, e19, (by decide : 2 + 0 ≤ _), (by decide : 40 + 0 ≤ _)⟩)
  dsimp only [Pt.U, Pt.locs, Pt.cells, Pt.slots] at X20 l20 y20 z20 st20 hQ20
  replace X20 := own_num (c' := 2) (n' := 40) X20 l20 (y20.trans rfl) (z20.trans rfl)
  obtain ⟨rfl, N20q, e20⟩ := hQ20
  have N20 := Fr.app N19 N20q
  refine own_trW st20 ?_
  show OwnGoW p e below s _ _ _ (T20.setTop (mkF m 52 #[.val (.ref a), .val (.ref sx), .val (.int (3 : Int32)), .val (.int (100 : Int32))] [(.int (6 : Int32)), (.int (3 : Int32))]))
  refine own_onW (fun t k => XS.icmpNo X20.here hx rfl (hb hby d1_52) rfl (tlt (by decide : (3 : Int32) < (6 : Int32))).2.1 k) ?_
  show OwnGoW p e below s _ _ _ (T20.setTop (mkF m 55 #[.val (.ref a), .val (.ref sx), .val (.int (3 : Int32)), .val (.int (100 : Int32))] []))
  refine own_onW (fun t k => XS.aloadN X20.here hx rfl (hb hby d1_55) rfl rfl k) ?_
  show OwnGoW p e below s _ _ _ (T20.setTop (mkF m 56 #[.val (.ref a), .val (.ref sx), .val (.int (3 : Int32)), .val (.int (100 : Int32))] [(.ref sx)]))
  refine own_onW (fun t k => XS.iloadN X20.here hx rfl (hb hby d1_56) rfl k) ?_
  show OwnGoW p e below s _ _ _ (T20.setTop (mkF m 57 #[.val (.ref a), .val (.ref sx), .val (.int (3 : Int32)), .val (.int (100 : Int32))] [(.int (3 : Int32)), (.ref sx)]))
  obtain ⟨cq21, kq21, q21a, q21b, q21c⟩ := isOf hZ e20 f4
  obtain ⟨_, _, ⟨T21, L21, k21, n21⟩, -, X21, ⟨Lc21, hQ21, l21, y21, z21⟩, st21⟩ := X20.virtualBack hx (y := (⟨"java/lang/String", "charAt", "(I)C"⟩ : MethodName)) (z := (⟨"java/lang/String", "charAt", "(I)C"⟩ : MethodName)) hown (mvT hZ (w45 hw)) (mvT hZ (w46 hw)) (notFace_of_selects (args := #[]) (mvT hZ (w48 hw))) (mvT hZ (w48 hw)) (mvT hZ (w47 hw)) (by decide) (backOf (W := 0) (rm8 l Z a0 hw [] sx (3 : Int32) cs sf bt kb (6 : Int32) [(.int (108 : Int32)), (.int (101 : Int32)), (.int (100 : Int32)), (.int (103 : Int32)), (.int (101 : Int32)), (.int (114 : Int32))] (.int (0 : Int32)) (103 : Int32) h2 n0 Z2 f8 P1 P2 P3 P4 f4 f9 f5 f6 (by decide : ¬ (3 : Int32) < 0) (by decide : (3 : Int32) < (6 : Int32)) (by rfl : ([(.int (108 : Int32)), (.int (101 : Int32)), (.int (100 : Int32)), (.int (103 : Int32)), (.int (101 : Int32)), (.int (114 : Int32))] : List Value).getD ((3 : Int32)).toNatClampNeg (.int (0 : Int32)) = (.int (103 : Int32)))) hZ (w49 hw) (w4 hw) (by decide) (by decide)) q21a q21c (g := (mkF m 57 #[.val (.ref a), .val (.ref sx), .val (.int (3 : Int32)), .val (.int (100 : Int32))] [(.int (3 : Int32)), (.ref sx)])) rfl (by rw [hml]; rfl) (Steps.refl _) (argsL := [(.int (3 : Int32))]) (rest := []) (lenOf pd_11 rfl) rfl (by show 2 * 0 + _ ≤ _; exact Nat.le_of_eq rfl) (hb hby d1_57) (fun _ _ => ⟨rfl, e20, (by decide : 2 + 0 ≤ _), (by decide : 40 + 0 ≤ _)⟩)
  dsimp only [Pt.U, Pt.locs, Pt.cells, Pt.slots] at X21 l21 y21 z21 st21 hQ21
  replace X21 := own_num (c' := 2) (n' := 40) X21 l21 (y21.trans rfl) (z21.trans rfl)
  obtain ⟨rfl, N21q, e21⟩ := hQ21
  have N21 := Fr.app N20 N21q
  refine own_trW st21 ?_
  show OwnGoW p e below s _ _ _ (T21.setTop (mkF m 60 #[.val (.ref a), .val (.ref sx), .val (.int (3 : Int32)), .val (.int (100 : Int32))] [(.int ((103 : Int32) &&& (255 : Int32)))]))
  rw [show ((103 : Int32) &&& (255 : Int32)) = (103 : Int32) from (by decide)]
  show OwnGoW p e below s _ _ _ (T21.setTop (mkF m 60 #[.val (.ref a), .val (.ref sx), .val (.int (3 : Int32)), .val (.int (100 : Int32))] [(.int (103 : Int32))]))
  refine own_onW (fun t k => XS.istoreN X21.here hx rfl (hb hby d1_60) rfl (l' := #[.val (.ref a), .val (.ref sx), .val (.int (3 : Int32)), .val (.int (103 : Int32))]) rfl k) ?_
  show OwnGoW p e below s _ _ _ (T21.setTop (mkF m 61 #[.val (.ref a), .val (.ref sx), .val (.int (3 : Int32)), .val (.int (103 : Int32))] []))
  refine own_onW (fun t k => XS.iloadN X21.here hx rfl (hb hby d1_61) rfl k) ?_
  show OwnGoW p e below s _ _ _ (T21.setTop (mkF m 62 #[.val (.ref a), .val (.ref sx), .val (.int (3 : Int32)), .val (.int (103 : Int32))] [(.int (103 : Int32))]))
  obtain ⟨_, _, ⟨T22, L22, k22, n22⟩, -, X22, ⟨Lc22, hQ22, l22, y22, z22⟩, st22⟩ := Jvm.LawKit.callS X21 hx (y := (⟨"com/example/orderly_lock/orderlylock/LockName", "isNameCharacter", "(C)Z"⟩ : MethodName)) hown (mvT hZ (w67 hw)) (mvT hZ (w68 hw)) (mvT hZ (w2 hw)) (mvT hZ (w69 hw)) (by decide) (backOf (W := 0) (rm13 l Z a0 hw [] (103 : Int32) h2 n0 Z2 (by decide : ¬ (103 : Int32) < (97 : Int32)) (by decide : ¬ (122 : Int32) < (103 : Int32))) hZ (w69 hw) (w2 hw) (by decide) (by decide)) (g := (mkF m 62 #[.val (.ref a), .val (.ref sx), .val (.int (3 : Int32)), .val (.int (103 : Int32))] [(.int (103 : Int32))])) rfl (by rw [hml]; rfl) (argsL := [(.int (103 : Int32))]) (rest := []) (lenOf pd_5 rfl) rfl (by show 2 * 0 + _ ≤ _; exact Nat.le_of_eq rfl) (hb hby d1_62) (fun _ _ => ⟨rfl, e21, (by decide : 2 + 0 ≤ _), (by decide : 40 + 0 ≤ _)⟩)
  dsimp only [Pt.U, Pt.locs, Pt.cells, Pt.slots] at X22 l22 y22 z22 st22 hQ22
  replace X22 := own_num (c' := 2) (n' := 40) X22 l22 (y22.trans rfl) (z22.trans rfl)
  obtain ⟨rfl, N22q, e22⟩ := hQ22
  have N22 := Fr.app N21 N22q
  refine own_onW st22 ?_
  show OwnGoW p e below s _ _ _ (T22.setTop (mkF m 65 #[.val (.ref a), .val (.ref sx), .val (.int (3 : Int32)), .val (.int (103 : Int32))] [(.int (1 : Int32))]))
  refine own_onW (fun t k => XS.ifYes X22.here hx rfl (pc0 := 65) (pc' := 99) rfl (hb hby d1_65) rfl ((if0 _ _).trans (feq (by decide : ¬ ((1 : Int32) = (0 : Int32)))).2) (by decide) (by decide) k) ?_
  show OwnGoW p e below s _ _ _ (T22.setTop (mkF m 99 #[.val (.ref a), .val (.ref sx), .val (.int (3 : Int32)), .val (.int (103 : Int32))] []))
  refine own_onW (fun t k => XS.iinc X22.here hx rfl (hb hby d1_99) rfl (l' := #[.val (.ref a), .val (.ref sx), .val (.int (4 : Int32)), .val (.int (103 : Int32))]) rfl k) ?_
  show OwnGoW p e below s _ _ _ (T22.setTop (mkF m 102 #[.val (.ref a), .val (.ref sx), .val (.int (4 : Int32)), .val (.int (103 : Int32))] []))
  refine own_onW (fun t k => XS.goto X22.here hx rfl (pc0 := 102) (pc' := 47) rfl (hb hby d1_102) (by decide) (by decide) k) ?_
  show OwnGoW p e below s _ _ _ (T22.setTop (mkF m 47 #[.val (.ref a), .val (.ref sx), .val (.int (4 : Int32)), .val (.int (103 : Int32))] []))
  refine own_onW (fun t k => XS.iloadN X22.here hx rfl (hb hby d1_47) rfl k) ?_
  show OwnGoW p e below s _ _ _ (T22.setTop (mkF m 48 #[.val (.ref a), .val (.ref sx), .val (.int (4 : Int32)), .val (.int (103 : Int32))] [(.int (4 : Int32))]))
  refine own_onW (fun t k => XS.aloadN X22.here hx rfl (hb hby d1_48) rfl rfl k) ?_
  show OwnGoW p e below s _ _ _ (T22.setTop (mkF m 49 #[.val (.ref a), .val (.ref sx), .val (.int (4 : Int32)), .val (.int (103 : Int32))] [(.ref sx), (.int (4 : Int32))]))
  obtain ⟨cq23, kq23, q23a, q23b, q23c⟩ := isOf hZ e22 f4
  obtain ⟨_, _, ⟨T23, L23, k23, n23⟩, -, X23, ⟨Lc23, hQ23, l23, y23, z23⟩, st23⟩ := X22.virtualBack hx (y := (⟨"java/lang/String", "length", "()I"⟩ : MethodName)) (z := (⟨"java/lang/String", "length", "()I"⟩ : MethodName)) hown (mvT hZ (w33 hw)) (mvT hZ (w34 hw)) (notFace_of_selects (args := #[]) (mvT hZ (w36 hw))) (mvT hZ (w36 hw)) (mvT hZ (w35 hw)) (by decide) (backOf (W := 1) (rm6 l Z a0 hw [] sx cs bt kb (6 : Int32) [(.int (108 : Int32)), (.int (101 : Int32)), (.int (100 : Int32)), (.int (103 : Int32)), (.int (101 : Int32)), (.int (114 : Int32))] (.int (0 : Int32)) h2 n0 Z2 f8 P1 P2 f4 f9 f5 f6) hZ (w37 hw) (w4 hw) (by decide) (by decide)) q23a q23c (g := (mkF m 49 #[.val (.ref a), .val (.ref sx), .val (.int (4 : Int32)), .val (.int (103 : Int32))] [(.ref sx), (.int (4 : Int32))])) rfl (by rw [hml]; rfl) (Steps.refl _) (argsL := []) (rest := [(.int (4 : Int32))]) (lenOf pd_10 rfl) rfl (by show 2 * 0 + _ ≤ _; exact Nat.le_of_eq rfl) (hb hby d1_49) (fun _ _ => ⟨rfl, e22, (by decide : 2 + 0 ≤ _), (by decide : 40 + 0 ≤ _)⟩)
  dsimp only [Pt.U, Pt.locs, Pt.cells, Pt.slots] at X23 l23 y23 z23 st23 hQ23
  replace X23 := own_num (c' := 2) (n' := 40) X23 l23 (y23.trans rfl) (z23.trans rfl)
  obtain ⟨rfl, N23q, e23⟩ := hQ23
  have N23 := Fr.app N22 N23q
  refine own_trW st23 ?_
  show OwnGoW p e below s _ _ _ (T23.setTop (mkF m 52 #[.val (.ref a), .val (.ref sx), .val (.int (4 : Int32)), .val (.int (103 : Int32))] [(.int (6 : Int32)), (.int (4 : Int32))]))
  refine own_onW (fun t k => XS.icmpNo X23.here hx rfl (hb hby d1_52) rfl (tlt (by decide : (4 : Int32) < (6 : Int32))).2.1 k) ?_
  show OwnGoW p e below s _ _ _ (T23.setTop (mkF m 55 #[.val (.ref a), .val (.ref sx), .val (.int (4 : Int32)), .val (.int (103 : Int32))] []))
  refine own_onW (fun t k => XS.aloadN X23.here hx rfl (hb hby d1_55) rfl rfl k) ?_
  show OwnGoW p e below s _ _ _ (T23.setTop (mkF m 56 #[.val (.ref a), .val (.ref sx), .val (.int (4 : Int32)), .val (.int (103 : Int32))] [(.ref sx)]))
  refine own_onW (fun t k => XS.iloadN X23.here hx rfl (hb hby d1_56) rfl k) ?_
  show OwnGoW p e below s _ _ _ (T23.setTop (mkF m 57 #[.val (.ref a), .val (.ref sx), .val (.int (4 : Int32)), .val (.int (103 : Int32))] [(.int (4 : Int32)), (.ref sx)]))
  obtain ⟨cq24, kq24, q24a, q24b, q24c⟩ := isOf hZ e23 f4
  obtain ⟨_, _, ⟨T24, L24, k24, n24⟩, -, X24, ⟨Lc24, hQ24, l24, y24, z24⟩, st24⟩ := X23.virtualBack hx (y := (⟨"java/lang/String", "charAt", "(I)C"⟩ : MethodName)) (z := (⟨"java/lang/String", "charAt", "(I)C"⟩ : MethodName)) hown (mvT hZ (w45 hw)) (mvT hZ (w46 hw)) (notFace_of_selects (args := #[]) (mvT hZ (w48 hw))) (mvT hZ (w48 hw)) (mvT hZ (w47 hw)) (by decide) (backOf (W := 0) (rm8 l Z a0 hw [] sx (4 : Int32) cs sf bt kb (6 : Int32) [(.int (108 : Int32)), (.int (101 : Int32)), (.int (100 : Int32)), (.int (103 : Int32)), (.int (101 : Int32)), (.int (114 : Int32))] (.int (0 : Int32)) (101 : Int32) h2 n0 Z2 f8 P1 P2 P3 P4 f4 f9 f5 f6 (by decide : ¬ (4 : Int32) < 0) (by decide : (4 : Int32) < (6 : Int32)) (by rfl : ([(.int (108 : Int32)), (.int (101 : Int32)), (.int (100 : Int32)), (.int (103 : Int32)), (.int (101 : Int32)), (.int (114 : Int32))] : List Value).getD ((4 : Int32)).toNatClampNeg (.int (0 : Int32)) = (.int (101 : Int32)))) hZ (w49 hw) (w4 hw) (by decide) (by decide)) q24a q24c (g := (mkF m 57 #[.val (.ref a), .val (.ref sx), .val (.int (4 : Int32)), .val (.int (103 : Int32))] [(.int (4 : Int32)), (.ref sx)])) rfl (by rw [hml]; rfl) (Steps.refl _) (argsL := [(.int (4 : Int32))]) (rest := []) (lenOf pd_11 rfl) rfl (by show 2 * 0 + _ ≤ _; exact Nat.le_of_eq rfl) (hb hby d1_57) (fun _ _ => ⟨rfl, e23, (by decide : 2 + 0 ≤ _), (by decide : 40 + 0 ≤ _)⟩)
  dsimp only [Pt.U, Pt.locs, Pt.cells, Pt.slots] at X24 l24 y24 z24 st24 hQ24
  replace X24 := own_num (c' := 2) (n' := 40) X24 l24 (y24.trans rfl) (z24.trans rfl)
  obtain ⟨rfl, N24q, e24⟩ := hQ24
  have N24 := Fr.app N23 N24q
  refine own_trW st24 ?_
  show OwnGoW p e below s _ _ _ (T24.setTop (mkF m 60 #[.val (.ref a), .val (.ref sx), .val (.int (4 : Int32)), .val (.int (103 : Int32))] [(.int ((101 : Int32) &&& (255 : Int32)))]))
  rw [show ((101 : Int32) &&& (255 : Int32)) = (101 : Int32) from (by decide)]
  show OwnGoW p e below s _ _ _ (T24.setTop (mkF m 60 #[.val (.ref a), .val (.ref sx), .val (.int (4 : Int32)), .val (.int (103 : Int32))] [(.int (101 : Int32))]))
  refine own_onW (fun t k => XS.istoreN X24.here hx rfl (hb hby d1_60) rfl (l' := #[.val (.ref a), .val (.ref sx), .val (.int (4 : Int32)), .val (.int (101 : Int32))]) rfl k) ?_
  show OwnGoW p e below s _ _ _ (T24.setTop (mkF m 61 #[.val (.ref a), .val (.ref sx), .val (.int (4 : Int32)), .val (.int (101 : Int32))] []))
  refine own_onW (fun t k => XS.iloadN X24.here hx rfl (hb hby d1_61) rfl k) ?_
  show OwnGoW p e below s _ _ _ (T24.setTop (mkF m 62 #[.val (.ref a), .val (.ref sx), .val (.int (4 : Int32)), .val (.int (101 : Int32))] [(.int (101 : Int32))]))
  obtain ⟨_, _, ⟨T25, L25, k25, n25⟩, -, X25, ⟨Lc25, hQ25, l25, y25, z25⟩, st25⟩ := Jvm.LawKit.callS X24 hx (y := (⟨"com/example/orderly_lock/orderlylock/LockName", "isNameCharacter", "(C)Z"⟩ : MethodName)) hown (mvT hZ (w67 hw)) (mvT hZ (w68 hw)) (mvT hZ (w2 hw)) (mvT hZ (w69 hw)) (by decide) (backOf (W := 0) (rm13 l Z a0 hw [] (101 : Int32) h2 n0 Z2 (by decide : ¬ (101 : Int32) < (97 : Int32)) (by decide : ¬ (122 : Int32) < (101 : Int32))) hZ (w69 hw) (w2 hw) (by decide) (by decide)) (g := (mkF m 62 #[.val (.ref a), .val (.ref sx), .val (.int (4 : Int32)), .val (.int (101 : Int32))] [(.int (101 : Int32))])) rfl (by rw [hml]; rfl) (argsL := [(.int (101 : Int32))]) (rest := []) (lenOf pd_5 rfl) rfl (by show 2 * 0 + _ ≤ _; exact Nat.le_of_eq rfl) (hb hby d1_62) (fun _ _ => ⟨rfl, e24, (by decide : 2 + 0 ≤ _), (by decide : 40 + 0 ≤ _)⟩)
  dsimp only [Pt.U, Pt.locs, Pt.cells, Pt.slots] at X25 l25 y25 z25 st25 hQ25
  replace X25 := own_num (c' := 2) (n' := 40) X25 l25 (y25.trans rfl) (z25.trans rfl)
  obtain ⟨rfl, N25q, e25⟩ := hQ25
  have N25 := Fr.app N24 N25q
  refine own_onW st25 ?_
  show OwnGoW p e below s _ _ _ (T25.setTop (mkF m 65 #[.val (.ref a), .val (.ref sx), .val (.int (4 : Int32)), .val (.int (101 : Int32))] [(.int (1 : Int32))]))
  refine own_onW (fun t k => XS.ifYes X25.here hx rfl (pc0 := 65) (pc' := 99) rfl (hb hby d1_65) rfl ((if0 _ _).trans (feq (by decide : ¬ ((1 : Int32) = (0 : Int32)))).2) (by decide) (by decide) k) ?_
  show OwnGoW p e below s _ _ _ (T25.setTop (mkF m 99 #[.val (.ref a), .val (.ref sx), .val (.int (4 : Int32)), .val (.int (101 : Int32))] []))
  refine own_onW (fun t k => XS.iinc X25.here hx rfl (hb hby d1_99) rfl (l' := #[.val (.ref a), .val (.ref sx), .val (.int (5 : Int32)), .val (.int (101 : Int32))]) rfl k) ?_
  show OwnGoW p e below s _ _ _ (T25.setTop (mkF m 102 #[.val (.ref a), .val (.ref sx), .val (.int (5 : Int32)), .val (.int (101 : Int32))] []))
  refine own_onW (fun t k => XS.goto X25.here hx rfl (pc0 := 102) (pc' := 47) rfl (hb hby d1_102) (by decide) (by decide) k) ?_
  show OwnGoW p e below s _ _ _ (T25.setTop (mkF m 47 #[.val (.ref a), .val (.ref sx), .val (.int (5 : Int32)), .val (.int (101 : Int32))] []))
  refine own_onW (fun t k => XS.iloadN X25.here hx rfl (hb hby d1_47) rfl k) ?_
  show OwnGoW p e below s _ _ _ (T25.setTop (mkF m 48 #[.val (.ref a), .val (.ref sx), .val (.int (5 : Int32)), .val (.int (101 : Int32))] [(.int (5 : Int32))]))
  refine own_onW (fun t k => XS.aloadN X25.here hx rfl (hb hby d1_48) rfl rfl k) ?_
  show OwnGoW p e below s _ _ _ (T25.setTop (mkF m 49 #[.val (.ref a), .val (.ref sx), .val (.int (5 : Int32)), .val (.int (101 : Int32))] [(.ref sx), (.int (5 : Int32))]))
  obtain ⟨cq26, kq26, q26a, q26b, q26c⟩ := isOf hZ e25 f4
  obtain ⟨_, _, ⟨T26, L26, k26, n26⟩, -, X26, ⟨Lc26, hQ26, l26, y26, z26⟩, st26⟩ := X25.virtualBack hx (y := (⟨"java/lang/String", "length", "()I"⟩ : MethodName)) (z := (⟨"java/lang/String", "length", "()I"⟩ : MethodName)) hown (mvT hZ (w33 hw)) (mvT hZ (w34 hw)) (notFace_of_selects (args := #[]) (mvT hZ (w36 hw))) (mvT hZ (w36 hw)) (mvT hZ (w35 hw)) (by decide) (backOf (W := 1) (rm6 l Z a0 hw [] sx cs bt kb (6 : Int32) [(.int (108 : Int32)), (.int (101 : Int32)), (.int (100 : Int32)), (.int (103 : Int32)), (.int (101 : Int32)), (.int (114 : Int32))] (.int (0 : Int32)) h2 n0 Z2 f8 P1 P2 f4 f9 f5 f6) hZ (w37 hw) (w4 hw) (by decide) (by decide)) q26a q26c (g := (mkF m 49 #[.val (.ref a), .val (.ref sx), .val (.int (5 : Int32)), .val (.int (101 : Int32))] [(.ref sx), (.int (5 : Int32))])) rfl (by rw [hml]; rfl) (Steps.refl _) (argsL := []) (rest := [(.int (5 : Int32))]) (lenOf pd_10 rfl) rfl (by show 2 * 0 + _ ≤ _; exact Nat.le_of_eq rfl) (hb hby d1_49) (fun _ _ => ⟨rfl, e25, (by decide : 2 + 0 ≤ _), (by decide : 40 + 0 ≤ _)⟩)
  dsimp only [Pt.U, Pt.locs, Pt.cells, Pt.slots] at X26 l26 y26 z26 st26 hQ26
  replace X26 := own_num (c' := 2) (n' := 40) X26 l26 (y26.trans rfl) (z26.trans rfl)
  obtain ⟨rfl, N26q, e26⟩ := hQ26
  have N26 := Fr.app N25 N26q
  refine own_trW st26 ?_
  show OwnGoW p e below s _ _ _ (T26.setTop (mkF m 52 #[.val (.ref a), .val (.ref sx), .val (.int (5 : Int32)), .val (.int (101 : Int32))] [(.int (6 : Int32)), (.int (5 : Int32))]))
  refine own_onW (fun t k => XS.icmpNo X26.here hx rfl (hb hby d1_52) rfl (tlt (by decide : (5 : Int32) < (6 : Int32))).2.1 k) ?_
  show OwnGoW p e below s _ _ _ (T26.setTop (mkF m 55 #[.val (.ref a), .val (.ref sx), .val (.int (5 : Int32)), .val (.int (101 : Int32))] []))
  refine own_onW (fun t k => XS.aloadN X26.here hx rfl (hb hby d1_55) rfl rfl k) ?_
  show OwnGoW p e below s _ _ _ (T26.setTop (mkF m 56 #[.val (.ref a), .val (.ref sx), .val (.int (5 : Int32)), .val (.int (101 : Int32))] [(.ref sx)]))
  refine own_onW (fun t k => XS.iloadN X26.here hx rfl (hb hby d1_56) rfl k) ?_
  show OwnGoW p e below s _ _ _ (T26.setTop (mkF m 57 #[.val (.ref a), .val (.ref sx), .val (.int (5 : Int32)), .val (.int (101 : Int32))] [(.int (5 : Int32)), (.ref sx)]))
  obtain ⟨cq27, kq27, q27a, q27b, q27c⟩ := isOf hZ e26 f4
  obtain ⟨_, _, ⟨T27, L27, k27, n27⟩, -, X27, ⟨Lc27, hQ27, l27, y27, z27⟩, st27⟩ := X26.virtualBack hx (y := (⟨"java/lang/String", "charAt", "(I)C"⟩ : MethodName)) (z := (⟨"java/lang/String", "charAt", "(I)C"⟩ : MethodName)) hown (mvT hZ (w45 hw)) (mvT hZ (w46 hw)) (notFace_of_selects (args := #[]) (mvT hZ (w48 hw))) (mvT hZ (w48 hw)) (mvT hZ (w47 hw)) (by decide) (backOf (W := 0) (rm8 l Z a0 hw [] sx (5 : Int32) cs sf bt kb (6 : Int32) [(.int (108 : Int32)), (.int (101 : Int32)), (.int (100 : Int32)), (.int (103 : Int32)), (.int (101 : Int32)), (.int (114 : Int32))] (.int (0 : Int32)) (114 : Int32) h2 n0 Z2 f8 P1 P2 P3 P4 f4 f9 f5 f6 (by decide : ¬ (5 : Int32) < 0) (by decide : (5 : Int32) < (6 : Int32)) (by rfl : ([(.int (108 : Int32)), (.int (101 : Int32)), (.int (100 : Int32)), (.int (103 : Int32)), (.int (101 : Int32)), (.int (114 : Int32))] : List Value).getD ((5 : Int32)).toNatClampNeg (.int (0 : Int32)) = (.int (114 : Int32)))) hZ (w49 hw) (w4 hw) (by decide) (by decide)) q27a q27c (g := (mkF m 57 #[.val (.ref a), .val (.ref sx), .val (.int (5 : Int32)), .val (.int (101 : Int32))] [(.int (5 : Int32)), (.ref sx)])) rfl (by rw [hml]; rfl) (Steps.refl _) (argsL := [(.int (5 : Int32))]) (rest := []) (lenOf pd_11 rfl) rfl (by show 2 * 0 + _ ≤ _; exact Nat.le_of_eq rfl) (hb hby d1_57) (fun _ _ => ⟨rfl, e26, (by decide : 2 + 0 ≤ _), (by decide : 40 + 0 ≤ _)⟩)
  dsimp only [Pt.U, Pt.locs, Pt.cells, Pt.slots] at X27 l27 y27 z27 st27 hQ27
  replace X27 := own_num (c' := 2) (n' := 40) X27 l27 (y27.trans rfl) (z27.trans rfl)
  obtain ⟨rfl, N27q, e27⟩ := hQ27
  have N27 := Fr.app N26 N27q
  refine own_trW st27 ?_
  show OwnGoW p e below s _ _ _ (T27.setTop (mkF m 60 #[.val (.ref a), .val (.ref sx), .val (.int (5 : Int32)), .val (.int (101 : Int32))] [(.int ((114 : Int32) &&& (255 : Int32)))]))
  rw [show ((114 : Int32) &&& (255 : Int32)) = (114 : Int32) from (by decide)]
  show OwnGoW p e below s _ _ _ (T27.setTop (mkF m 60 #[.val (.ref a), .val (.ref sx), .val (.int (5 : Int32)), .val (.int (101 : Int32))] [(.int (114 : Int32))]))
  refine own_onW (fun t k => XS.istoreN X27.here hx rfl (hb hby d1_60) rfl (l' := #[.val (.ref a), .val (.ref sx), .val (.int (5 : Int32)), .val (.int (114 : Int32))]) rfl k) ?_
  show OwnGoW p e below s _ _ _ (T27.setTop (mkF m 61 #[.val (.ref a), .val (.ref sx), .val (.int (5 : Int32)), .val (.int (114 : Int32))] []))
  refine own_onW (fun t k => XS.iloadN X27.here hx rfl (hb hby d1_61) rfl k) ?_
  show OwnGoW p e below s _ _ _ (T27.setTop (mkF m 62 #[.val (.ref a), .val (.ref sx), .val (.int (5 : Int32)), .val (.int (114 : Int32))] [(.int (114 : Int32))]))
  obtain ⟨_, _, ⟨T28, L28, k28, n28⟩, -, X28, ⟨Lc28, hQ28, l28, y28, z28⟩, st28⟩ := Jvm.LawKit.callS X27 hx (y := (⟨"com/example/orderly_lock/orderlylock/LockName", "isNameCharacter", "(C)Z"⟩ : MethodName)) hown (mvT hZ (w67 hw)) (mvT hZ (w68 hw)) (mvT hZ (w2 hw)) (mvT hZ (w69 hw)) (by decide) (backOf (W := 0) (rm13 l Z a0 hw [] (114 : Int32) h2 n0 Z2 (by decide : ¬ (114 : Int32) < (97 : Int32)) (by decide : ¬ (122 : Int32) < (114 : Int32))) hZ (w69 hw) (w2 hw) (by decide) (by decide)) (g := (mkF m 62 #[.val (.ref a), .val (.ref sx), .val (.int (5 : Int32)), .val (.int (114 : Int32))] [(.int (114 : Int32))])) rfl (by rw [hml]; rfl) (argsL := [(.int (114 : Int32))]) (rest := []) (lenOf pd_5 rfl) rfl (by show 2 * 0 + _ ≤ _; exact Nat.le_of_eq rfl) (hb hby d1_62) (fun _ _ => ⟨rfl, e27, (by decide : 2 + 0 ≤ _), (by decide : 40 + 0 ≤ _)⟩)
  dsimp only [Pt.U, Pt.locs, Pt.cells, Pt.slots] at X28 l28 y28 z28 st28 hQ28
  replace X28 := own_num (c' := 2) (n' := 40) X28 l28 (y28.trans rfl) (z28.trans rfl)
  obtain ⟨rfl, N28q, e28⟩ := hQ28
  have N28 := Fr.app N27 N28q
  refine own_onW st28 ?_
  show OwnGoW p e below s _ _ _ (T28.setTop (mkF m 65 #[.val (.ref a), .val (.ref sx), .val (.int (5 : Int32)), .val (.int (114 : Int32))] [(.int (1 : Int32))]))
  refine own_onW (fun t k => XS.ifYes X28.here hx rfl (pc0 := 65) (pc' := 99) rfl (hb hby d1_65) rfl ((if0 _ _).trans (feq (by decide : ¬ ((1 : Int32) = (0 : Int32)))).2) (by decide) (by decide) k) ?_
  show OwnGoW p e below s _ _ _ (T28.setTop (mkF m 99 #[.val (.ref a), .val (.ref sx), .val (.int (5 : Int32)), .val (.int (114 : Int32))] []))
  refine own_onW (fun t k => XS.iinc X28.here hx rfl (hb hby d1_99) rfl (l' := #[.val (.ref a), .val (.ref sx), .val (.int (6 : Int32)), .val (.int (114 : Int32))]) rfl k) ?_
  show OwnGoW p e below s _ _ _ (T28.setTop (mkF m 102 #[.val (.ref a), .val (.ref sx), .val (.int (6 : Int32)), .val (.int (114 : Int32))] []))
  refine own_onW (fun t k => XS.goto X28.here hx rfl (pc0 := 102) (pc' := 47) rfl (hb hby d1_102) (by decide) (by decide) k) ?_
  show OwnGoW p e below s _ _ _ (T28.setTop (mkF m 47 #[.val (.ref a), .val (.ref sx), .val (.int (6 : Int32)), .val (.int (114 : Int32))] []))
  refine own_onW (fun t k => XS.iloadN X28.here hx rfl (hb hby d1_47) rfl k) ?_
  show OwnGoW p e below s _ _ _ (T28.setTop (mkF m 48 #[.val (.ref a), .val (.ref sx), .val (.int (6 : Int32)), .val (.int (114 : Int32))] [(.int (6 : Int32))]))
  refine own_onW (fun t k => XS.aloadN X28.here hx rfl (hb hby d1_48) rfl rfl k) ?_
  show OwnGoW p e below s _ _ _ (T28.setTop (mkF m 49 #[.val (.ref a), .val (.ref sx), .val (.int (6 : Int32)), .val (.int (114 : Int32))] [(.ref sx), (.int (6 : Int32))]))
  obtain ⟨cq29, kq29, q29a, q29b, q29c⟩ := isOf hZ e28 f4
  obtain ⟨_, _, ⟨T29, L29, k29, n29⟩, -, X29, ⟨Lc29, hQ29, l29, y29, z29⟩, st29⟩ := X28.virtualBack hx (y := (⟨"java/lang/String", "length", "()I"⟩ : MethodName)) (z := (⟨"java/lang/String", "length", "()I"⟩ : MethodName)) hown (mvT hZ (w33 hw)) (mvT hZ (w34 hw)) (notFace_of_selects (args := #[]) (mvT hZ (w36 hw))) (mvT hZ (w36 hw)) (mvT hZ (w35 hw)) (by decide) (backOf (W := 1) (rm6 l Z a0 hw [] sx cs bt kb (6 : Int32) [(.int (108 : Int32)), (.int (101 : Int32)), (.int (100 : Int32)), (.int (103 : Int32)), (.int (101 : Int32)), (.int (114 : Int32))] (.int (0 : Int32)) h2 n0 Z2 f8 P1 P2 f4 f9 f5 f6) hZ (w37 hw) (w4 hw) (by decide) (by decide)) q29a q29c (g := (mkF m 49 #[.val (.ref a), .val (.ref sx), .val (.int (6 : Int32)), .val (.int (114 : Int32))] [(.ref sx), (.int (6 : Int32))])) rfl (by rw [hml]; rfl) (Steps.refl _) (argsL := []) (rest := [(.int (6 : Int32))]) (lenOf pd_10 rfl) rfl (by show 2 * 0 + _ ≤ _; exact Nat.le_of_eq rfl) (hb hby d1_49) (fun _ _ => ⟨rfl, e28, (by decide : 2 + 0 ≤ _), (by decide : 40 + 0 ≤ _)⟩)
  dsimp only [Pt.U, Pt.locs, Pt.cells, Pt.slots] at X29 l29 y29 z29 st29 hQ29
  replace X29 := own_num (c' := 2) (n' := 40) X29 l29 (y29.trans rfl) (z29.trans rfl)
  obtain ⟨rfl, N29q, e29⟩ := hQ29
  have N29 := Fr.app N28 N29q
  refine own_trW st29 ?_
  show OwnGoW p e below s _ _ _ (T29.setTop (mkF m 52 #[.val (.ref a), .val (.ref sx), .val (.int (6 : Int32)), .val (.int (114 : Int32))] [(.int (6 : Int32)), (.int (6 : Int32))]))
  refine own_onW (fun t k => XS.icmpYes X29.here hx rfl (pc0 := 52) (pc' := 105) rfl (hb hby d1_52) rfl (flt (by decide : ¬ ((6 : Int32) < (6 : Int32)))).2.1 (by decide) (by decide) k) ?_
  show OwnGoW p e below s _ _ _ (T29.setTop (mkF m 105 #[.val (.ref a), .val (.ref sx), .val (.int (6 : Int32)), .val (.int (114 : Int32))] []))
  refine own_onW (fun t k => XS.aloadN X29.here hx rfl (hb hby d1_105) rfl rfl k) ?_
  show OwnGoW p e below s _ _ _ (T29.setTop (mkF m 106 #[.val (.ref a), .val (.ref sx), .val (.int (6 : Int32)), .val (.int (114 : Int32))] [(.ref a)]))
  refine own_onW (fun t k => XS.aloadN X29.here hx rfl (hb hby d1_106) rfl rfl k) ?_
  show OwnGoW p e below s _ _ _ (T29.setTop (mkF m 107 #[.val (.ref a), .val (.ref sx), .val (.int (6 : Int32)), .val (.int (114 : Int32))] [(.ref sx), (.ref a)]))
  have f30 : Fld Z h2 a "com/example/orderly_lock/orderlylock/LockName" "value" "Ljava/lang/String;" u := P6.ext E2
  have f31 : Exa Z h2 a "com/example/orderly_lock/orderlylock/LockName" := P5.ext E2
  obtain ⟨T32, h32, X32, e32, W32, st32⟩ := putF X29 hx hZ hown (host := "") (Or.inl (w70 hw)) Via.refl e29 f30 f31 (Or.inr ⟨(w71 hw), rfl, hnm⟩) (w1 hw) (ty := (.object "java/lang/String")) (by decide) rfl rfl (g := (mkF m 107 #[.val (.ref a), .val (.ref sx), .val (.int (6 : Int32)), .val (.int (114 : Int32))] [(.ref sx), (.ref a)])) rfl rfl (hb hby d1_107)
  have F32 := f30.same W32
  have N32 := Fr.snoc X32 N29 P7
  have Z32 : n0 ≤ h32.size := Nat.le_trans Z2 (Keep.of_wr W32).1
  have K32 : Keep h0 h32 [a] := K2.wr W32 (Or.inl (List.mem_of_getElem? (i := 0) rfl))
  refine own_onW st32 ?_
  show OwnGoW p e below s _ _ _ (T32.setTop (mkF m 110 #[.val (.ref a), .val (.ref sx), .val (.int (6 : Int32)), .val (.int (114 : Int32))] []))
  have f33 : Exa Z h32 a "com/example/orderly_lock/orderlylock/LockName" := f31.wr W32
  have f34 : Old Z n0 h32 := f8.wr W32 P7
  have f35 : k2 ≤ h32.size := Nat.le_trans hk2 (Keep.of_wr W32).1
  exact own_retVW X32 hx hlk Bd.returns (hb hby d1_110) e32 ⟨rfl, N32, K32, f33, f34⟩ (by decide) (by decide) hS2 (by rw [e32]; exact f35)
theorem ef_20 (m : MethodId) (a : Addr) (na : Addr) (ss : Addr) (tk : Int64)  : entryFrame m #[(.ref a), (.ref na), (.ref ss), (.long tk)] 5 = mkF m 0 #[.val (.ref a), .val (.ref na), .val (.ref ss), .val (.long tk), .second] [] := by first | (simp [entryFrame, mkF, argsToLocals, Value.category]; done) | rfl
def Q20 (Z : State) (a : Addr) (na : Addr) (ss : Addr) (tk : Int64) (u : Value) (u' : Value) (u'' : Value) (h0 : Heap) (n0 : Nat) (v_ : Option Value) (h_ : Heap) (L_ : List Loc) : Prop := v_ = none ∧ Fr n0 L_ ∧ Keep h0 h_ [a] ∧ (Exa Z h_ a "com/example/orderly_lock/orderlylock/Grant")
set_option maxRecDepth 65536 in
set_option maxHeartbeats 40000000 in
theorem rm20 (l : Launch) (Z : State) (a0 : Array Value) (hw : ∀ d ∈ tables_1, d.before a0 Z = true) (ws : List Jvm.Cond) (a : Addr) (na : Addr) (ss : Addr) (tk : Int64) (u : Value) (u' : Value) (u'' : Value) (h0 : Heap) (n0 : Nat) (Z0 : n0 ≤ h0.size) (P0 : Exa Z h0 a "com/example/orderly_lock/orderlylock/Grant") (P1 : Fld Z h0 a "com/example/orderly_lock/orderlylock/Grant" "lock" "Lcom/example/orderly_lock/orderlylock/LockName;" u) (P2 : Fld Z h0 a "com/example/orderly_lock/orderlylock/Grant" "session" "Ljava/lang/String;" u') (P3 : Fld Z h0 a "com/example/orderly_lock/orderlylock/Grant" "token" "J" u'') (P4 : n0 ≤ a) (P5 : ¬ ((lcmpW tk (1 : Int64)) < (0 : Int32))) :
    MetFree l (⟨"com/example/orderly_lock/orderlylock/Grant", "<init>", "(Lcom/example/orderly_lock/orderlylock/LockName;Ljava/lang/String;J)V"⟩ : MethodName) (head1 (Jvm.Cond.code (⟨"com/example/orderly_lock/orderlylock/Grant", "<init>", "(Lcom/example/orderly_lock/orderlylock/LockName;Ljava/lang/String;J)V"⟩ : MethodName) prog_2_method_1_code 5 none :: ws) ({ frames := 2, cells := 4, slots := 52, locals := 24 } : Room)) (fun A_ U => A_ = #[(.ref a), (.ref na), (.ref ss), (.long tk)] ∧ Z.Warmed39 U.vm ∧ U.heap = h0) (fun _ _ _ _ _ => True) (fun _ U_ o_ U'_ => ∃ v_ L_, o_ = .returned v_ ∧ Q20 Z a na ss tk u u' u'' h0 n0 v_ U'_.heap L_ ∧ ReturnedEndW U_ o_ U'_ L_ ({ frames := 2, cells := 4, slots := 52, locals := 24 } : Room).cells ({ frames := 2, cells := 4, slots := 52, locals := 24 } : Room).slots) := by
  refine MetFree.of_bodySF (plainFor_of_name pn_6) hisR ?_
  intro p e s m args below meth c s₁ Bd hml0 hP hK
  obtain ⟨rfl, hZ, hh⟩ := hP
  have hx := Bd.exec
  have hby := Bd.bytes
  have hml : c.maxLocals = 5 := hml0
  have hown : s.vm.findClass "com/example/orderly_lock/orderlylock/Grant" = some m.cls := findClass_of_methodNamed Bd.named
  have hnm := (name_of_methodNamed Bd.named Bd.method).1
  have hlk : meth.locks = false := Bd.notSynchronized
  have X0 : Stand p l e ({ frames := 2, cells := 4, slots := 52, locals := 24 } : Room) s m #[(.ref a), (.ref na), (.ref ss), (.long tk)] below meth c s₁ [] 0 0 := Stand.of_body Bd
  have e0 : s₁.heap = h0 := by rw [← hh, Bd.state]; rfl
  have N0 := Fr.nil n0
  have K0 : Keep h0 h0 [a] := Keep.refl _ _
  have hwarm := X0.warmed
  have hS0 : s.Since s₁.vm 0 := X0.warmed.since _
  have hZ : Z.Warmed39 (s.setVm s₁.vm).vm := wtrans hZ X0.warmed
  have hown : (s.setVm s₁.vm).vm.findClass "com/example/orderly_lock/orderlylock/Grant" = some m.cls := (X0.warmed.alike.findClass _ _).trans hown
  have X0 := X0.retabled X0.warmed.wide
  have hml : c.maxLocals = 5 := hml
  refine own_castW (ef_20 m a na ss tk) ?_
  show OwnGoW p e below s (Q20 Z a na ss tk u u' u'' h0 n0) ({ frames := 2, cells := 4, slots := 52, locals := 24 } : Room).cells ({ frames := 2, cells := 4, slots := 52, locals := 24 } : Room).slots (s₁.setTop (mkF m 0 #[.val (.ref a), .val (.ref na), .val (.ref ss), .val (.long tk), .second] []))
  refine own_onW (fun t k => XS.aloadN X0.here hx rfl (hb hby d20_0) rfl rfl k) ?_
  show OwnGoW p e below s _ _ _ (s₁.setTop (mkF m 1 #[.val (.ref a), .val (.ref na), .val (.ref ss), .val (.long tk), .second] [(.ref a)]))
  obtain ⟨_, _, ⟨T1, L1, k1, n1⟩, -, X1, ⟨Lc1, hQ1, l1, y1, z1⟩, st1⟩ := X0.specialBack hx (y := (⟨"java/lang/Record", "<init>", "()V"⟩ : MethodName)) rfl hown (mvT hZ (w116 hw)) (mvT hZ (w15 hw)) (mvT hZ (w18 hw)) (by decide) (backOf (W := 0) (rm2 l Z a0 hw [] a h0 n0 Z0 ) hZ (w18 hw) (w17 hw) (by decide) (by decide)) (g := (mkF m 1 #[.val (.ref a), .val (.ref na), .val (.ref ss), .val (.long tk), .second] [(.ref a)])) rfl (by rw [hml]; rfl) (Steps.refl _) (a := a) (argsL := []) (rest := []) (lenOf pd_8 rfl) rfl (by show 2 * 0 + _ ≤ _; exact Nat.le_of_eq rfl) (hb hby d20_1) (fun _ _ => ⟨rfl, e0, (by decide : 0 + 0 ≤ _), (by decide : 0 + 0 ≤ _)⟩)
  dsimp only [Pt.U, Pt.locs, Pt.cells, Pt.slots] at X1 l1 y1 z1 st1 hQ1
  replace X1 := own_num (c' := 0) (n' := 0) X1 l1 (y1.trans rfl) (z1.trans rfl)
  obtain ⟨rfl, N1q, e1⟩ := hQ1
  have N1 := Fr.app N0 N1q
  refine own_trW st1 ?_
  show OwnGoW p e below s _ _ _ (T1.setTop (mkF m 4 #[.val (.ref a), .val (.ref na), .val (.ref ss), .val (.long tk), .second] []))
  refine own_onW (fun t k => XS.aloadN X1.here hx rfl (hb hby d20_4) rfl rfl k) ?_
  show OwnGoW p e below s _ _ _ (T1.setTop (mkF m 5 #[.val (.ref a), .val (.ref na), .val (.ref ss), .val (.long tk), .second] [(.ref na)]))
  obtain ⟨b2, T2, h2, k2, X2, e2, E2, hS2, hk2, hZ, hown, st2⟩ := ldcS X1 hx hZ hown (w117 hw) (own_str hw) e1 hS0 (Nat.zero_le _) (g := (mkF m 5 #[.val (.ref a), .val (.ref na), .val (.ref ss), .val (.long tk), .second] [(.ref na)])) rfl (hb hby d20_5) (n := 16) (by decide) (by decide) (by decide) (by decide)
  have Z2 : n0 ≤ h2.size := Nat.le_trans Z0 E2.1
  have K2 : Keep h0 h2 [a] := K0.ext E2
  refine own_onW st2 ?_
  show OwnGoW p e below s _ _ _ (T2.setTop (mkF m 7 #[.val (.ref a), .val (.ref na), .val (.ref ss), .val (.long tk), .second] [(.ref b2), (.ref na)]))
  obtain ⟨_, _, ⟨T3, L3, k3, n3⟩, -, X3, ⟨Lc3, hQ3, l3, y3, z3⟩, st3⟩ := Jvm.LawKit.callS X2 hx (y := (⟨"java/util/Objects", "requireNonNull", "(Ljava/lang/Object;Ljava/lang/String;)Ljava/lang/Object;"⟩ : MethodName)) hown (mvT hZ (w118 hw)) (mvT hZ (w24 hw)) (mvT hZ (w25 hw)) (mvT hZ (w26 hw)) (by decide) (backOf (W := 0) (rm4 l Z a0 hw [] na b2 h2 n0 Z2 ) hZ (w26 hw) (w25 hw) (by decide) (by decide)) (g := (mkF m 7 #[.val (.ref a), .val (.ref na), .val (.ref ss), .val (.long tk), .second] [(.ref b2), (.ref na)])) rfl (by rw [hml]; rfl) (argsL := [(.ref na), (.ref b2)]) (rest := []) (lenOf pd_9 rfl) rfl (by show 2 * 0 + _ ≤ _; exact Nat.le_of_eq rfl) (hb hby d20_7) (fun _ _ => ⟨rfl, e2, (by decide : 2 + 0 ≤ _), (by decide : 20 + 0 ≤ _)⟩)
  dsimp only [Pt.U, Pt.locs, Pt.cells, Pt.slots] at X3 l3 y3 z3 st3 hQ3
  replace X3 := own_num (c' := 2) (n' := 20) X3 l3 (y3.trans rfl) (z3.trans rfl)
  obtain ⟨rfl, N3q, e3⟩ := hQ3
  have N3 := Fr.app N1 N3q
  refine own_onW st3 ?_
  show OwnGoW p e below s _ _ _ (T3.setTop (mkF m 10 #[.val (.ref a), .val (.ref na), .val (.ref ss), .val (.long tk), .second] [(.ref na)]))
  refine own_onW (fun t k => XS.pop X3.here hx rfl (hb hby d20_10) rfl rfl k) ?_
  show OwnGoW p e below s _ _ _ (T3.setTop (mkF m 11 #[.val (.ref a), .val (.ref na), .val (.ref ss), .val (.long tk), .second] []))
  refine own_onW (fun t k => XS.aloadN X3.here hx rfl (hb hby d20_11) rfl rfl k) ?_
  show OwnGoW p e below s _ _ _ (T3.setTop (mkF m 12 #[.val (.ref a), .val (.ref na), .val (.ref ss), .val (.long tk), .second] [(.ref ss)]))
  obtain ⟨b4, T4, h4, k4, X4, e4, E4, hS4, hk4, hZ, hown, st4⟩ := ldcS X3 hx hZ hown (w119 hw) (own_str hw) e3 hS2 hk2 (g := (mkF m 12 #[.val (.ref a), .val (.ref na), .val (.ref ss), .val (.long tk), .second] [(.ref ss)])) rfl (hb hby d20_12) (n := 28) (by decide) (by decide) (by decide) (by decide)
  have Z4 : n0 ≤ h4.size := Nat.le_trans Z2 E4.1
  have K4 : Keep h0 h4 [a] := K2.ext E4
  refine own_onW st4 ?_
  show OwnGoW p e below s _ _ _ (T4.setTop (mkF m 14 #[.val (.ref a), .val (.ref na), .val (.ref ss), .val (.long tk), .second] [(.ref b4), (.ref ss)]))
  obtain ⟨_, _, ⟨T5, L5, k5, n5⟩, -, X5, ⟨Lc5, hQ5, l5, y5, z5⟩, st5⟩ := Jvm.LawKit.callS X4 hx (y := (⟨"java/util/Objects", "requireNonNull", "(Ljava/lang/Object;Ljava/lang/String;)Ljava/lang/Object;"⟩ : MethodName)) hown (mvT hZ (w118 hw)) (mvT hZ (w24 hw)) (mvT hZ (w25 hw)) (mvT hZ (w26 hw)) (by decide) (backOf (W := 0) (rm4 l Z a0 hw [] ss b4 h4 n0 Z4 ) hZ (w26 hw) (w25 hw) (by decide) (by decide)) (g := (mkF m 14 #[.val (.ref a), .val (.ref na), .val (.ref ss), .val (.long tk), .second] [(.ref b4), (.ref ss)])) rfl (by rw [hml]; rfl) (argsL := [(.ref ss), (.ref b4)]) (rest := []) (lenOf pd_9 rfl) rfl (by show 2 * 0 + _ ≤ _; exact Nat.le_of_eq rfl) (hb hby d20_14) (fun _ _ => ⟨rfl, e4, (by decide : 4 + 0 ≤ _), (by decide : 52 + 0 ≤ _)⟩)
  dsimp only [Pt.U, Pt.locs, Pt.cells, Pt.slots] at X5 l5 y5 z5 st5 hQ5
  replace X5 := own_num (c' := 4) (n' := 52) X5 l5 (y5.trans rfl) (z5.trans rfl)
  obtain ⟨rfl, N5q, e5⟩ := hQ5
  have N5 := Fr.app N3 N5q
  refine own_onW st5 ?_
  show OwnGoW p e below s _ _ _ (T5.setTop (mkF m 17 #[.val (.ref a), .val (.ref na), .val (.ref ss), .val (.long tk), .second] [(.ref ss)]))
  refine own_onW (fun t k => XS.pop X5.here hx rfl (hb hby d20_17) rfl rfl k) ?_
  show OwnGoW p e below s _ _ _ (T5.setTop (mkF m 18 #[.val (.ref a), .val (.ref na), .val (.ref ss), .val (.long tk), .second] []))
  refine own_onW (fun t k => XS.lloadN X5.here hx rfl (hb hby d20_18) rfl k) ?_
  show OwnGoW p e below s _ _ _ (T5.setTop (mkF m 19 #[.val (.ref a), .val (.ref na), .val (.ref ss), .val (.long tk), .second] [(.long tk)]))
  refine own_onW (fun t k => XS.lconst X5.here hx rfl (hb hby d20_19) k) ?_
  show OwnGoW p e below s _ _ _ (T5.setTop (mkF m 20 #[.val (.ref a), .val (.ref na), .val (.ref ss), .val (.long tk), .second] [(.long (1 : Int64)), (.long tk)]))
  refine own_onW (fun t k => XS.lcmp X5.here hx rfl (hb hby d20_20) rfl k) ?_
  show OwnGoW p e below s _ _ _ (T5.setTop (mkF m 21 #[.val (.ref a), .val (.ref na), .val (.ref ss), .val (.long tk), .second] [(.int (lcmpW tk (1 : Int64)))]))
  refine own_onW (fun t k => XS.ifYes X5.here hx rfl (pc0 := 21) (pc' := 38) rfl (hb hby d20_21) rfl ((if0 _ _).trans (flt P5).2.1) (by decide) (by decide) k) ?_
  show OwnGoW p e below s _ _ _ (T5.setTop (mkF m 38 #[.val (.ref a), .val (.ref na), .val (.ref ss), .val (.long tk), .second] []))
  refine own_onW (fun t k => XS.aloadN X5.here hx rfl (hb hby d20_38) rfl rfl k) ?_
  show OwnGoW p e below s _ _ _ (T5.setTop (mkF m 39 #[.val (.ref a), .val (.ref na), .val (.ref ss), .val (.long tk), .second] [(.ref a)]))
  refine own_onW (fun t k => XS.aloadN X5.here hx rfl (hb hby d20_39) rfl rfl k) ?_
  show OwnGoW p e below s _ _ _ (T5.setTop (mkF m 40 #[.val (.ref a), .val (.ref na), .val (.ref ss), .val (.long tk), .second] [(.ref na), (.ref a)]))
  have f6 : Fld Z h2 a "com/example/orderly_lock/orderlylock/Grant" "lock" "Lcom/example/orderly_lock/orderlylock/LockName;" u := P1.ext E2
  have f7 : Fld Z h4 a "com/example/orderly_lock/orderlylock/Grant" "lock" "Lcom/example/orderly_lock/orderlylock/LockName;" u := f6.ext E4
  have f8 : Exa Z h2 a "com/example/orderly_lock/orderlylock/Grant" := P0.ext E2
  have f9 : Exa Z h4 a "com/example/orderly_lock/orderlylock/Grant" := f8.ext E4
  obtain ⟨T10, h10, X10, e10, W10, st10⟩ := putF X5 hx hZ hown (host := "") (Or.inl (w120 hw)) Via.refl e5 f7 f9 (Or.inr ⟨(w121 hw), rfl, hnm⟩) (w96 hw) (ty := (.object "com/example/orderly_lock/orderlylock/LockName")) (by decide) rfl rfl (g := (mkF m 40 #[.val (.ref a), .val (.ref na), .val (.ref ss), .val (.long tk), .second] [(.ref na), (.ref a)])) rfl rfl (hb hby d20_40)
  have F10 := f7.same W10
  have N10 := Fr.snoc X10 N5 P4
  have Z10 : n0 ≤ h10.size := Nat.le_trans Z4 (Keep.of_wr W10).1
  have K10 : Keep h0 h10 [a] := K4.wr W10 (Or.inl (List.mem_of_getElem? (i := 0) rfl))
  refine own_onW st10 ?_
  show OwnGoW p e below s _ _ _ (T10.setTop (mkF m 43 #[.val (.ref a), .val (.ref na), .val (.ref ss), .val (.long tk), .second] []))
  refine own_onW (fun t k => XS.aloadN X10.here hx rfl (hb hby d20_43) rfl rfl k) ?_
  show OwnGoW p e below s _ _ _ (T10.setTop (mkF m 44 #[.val (.ref a), .val (.ref na), .val (.ref ss), .val (.long tk), .second] [(.ref a)]))
  refine own_onW (fun t k => XS.aloadN X10.here hx rfl (hb hby d20_44) rfl rfl k) ?_
  show OwnGoW p e below s _ _ _ (T10.setTop (mkF m 45 #[.val (.ref a), .val (.ref na), .val (.ref ss), .val (.long tk), .second] [(.ref ss), (.ref a)]))
  have f11 : Fld Z h2 a "com/example/orderly_lock/orderlylock/Grant" "session" "Ljava/lang/String;" u' := P2.ext E2
  have f12 : Fld Z h4 a "com/example/orderly_lock/orderlylock/Grant" "session" "Ljava/lang/String;" u' := f11.ext E4
  have f13 : Fld Z h10 a "com/example/orderly_lock/orderlylock/Grant" "session" "Ljava/lang/String;" u' := f12.other W10 (Or.inr (slot_ne (Or.inr (w123 hw)) (Or.inr (w121 hw)) (by decide) (t := (.object "java/lang/String")) (t' := (.object "com/example/orderly_lock/orderlylock/LockName")) (by decide) (by decide)))
  have f14 : Exa Z h10 a "com/example/orderly_lock/orderlylock/Grant" := f9.wr W10
  obtain ⟨T15, h15, X15, e15, W15, st15⟩ := putF X10 hx hZ hown (host := "") (Or.inl (w122 hw)) Via.refl e10 f13 f14 (Or.inr ⟨(w123 hw), rfl, hnm⟩) (w96 hw) (ty := (.object "java/lang/String")) (by decide) rfl rfl (g := (mkF m 45 #[.val (.ref a), .val (.ref na), .val (.ref ss), .val (.long tk), .second] [(.ref ss), (.ref a)])) rfl rfl (hb hby d20_45)
  have F15 := f13.same W15
  have N15 := Fr.snoc X15 N10 P4
  have Z15 : n0 ≤ h15.size := Nat.le_trans Z10 (Keep.of_wr W15).1
  have K15 : Keep h0 h15 [a] := K10.wr W15 (Or.inl (List.mem_of_getElem? (i := 0) rfl))
  refine own_onW st15 ?_
  show OwnGoW p e below s _ _ _ (T15.setTop (mkF m 48 #[.val (.ref a), .val (.ref na), .val (.ref ss), .val (.long tk), .second] []))
  refine own_onW (fun t k => XS.aloadN X15.here hx rfl (hb hby d20_48) rfl rfl k) ?_
  show OwnGoW p e below s _ _ _ (T15.setTop (mkF m 49 #[.val (.ref a), .val (.ref na), .val (.ref ss), .val (.long tk), .second] [(.ref a)]))
  refine own_onW (fun t k => XS.lloadN X15.here hx rfl (hb hby d20_49) rfl k) ?_
  show OwnGoW p e below s _ _ _ (T15.setTop (mkF m 50 #[.val (.ref a), .val (.ref na), .val (.ref ss), .val (.long tk), .second] [(.long tk), (.ref a)]))
  have f16 : Fld Z h2 a "com/example/orderly_lock/orderlylock/Grant" "token" "J" u'' := P3.ext E2
  have f17 : Fld Z h4 a "com/example/orderly_lock/orderlylock/Grant" "token" "J" u'' := f16.ext E4
  have f18 : Fld Z h10 a "com/example/orderly_lock/orderlylock/Grant" "token" "J" u'' := f17.other W10 (Or.inr (slot_ne (Or.inr (w125 hw)) (Or.inr (w121 hw)) (by decide) (t := .long) (t' := (.object "com/example/orderly_lock/orderlylock/LockName")) (by decide) (by decide)))
  have f19 : Fld Z h15 a "com/example/orderly_lock/orderlylock/Grant" "token" "J" u'' := f18.other W15 (Or.inr (slot_ne (Or.inr (w125 hw)) (Or.inr (w123 hw)) (by decide) (t := .long) (t' := (.object "java/lang/String")) (by decide) (by decide)))
  have f20 : Exa Z h15 a "com/example/orderly_lock/orderlylock/Grant" := f14.wr W15
  obtain ⟨T21, h21, X21, e21, W21, st21⟩ := putF X15 hx hZ hown (host := "") (Or.inl (w124 hw)) Via.refl e15 f19 f20 (Or.inr ⟨(w125 hw), rfl, hnm⟩) (w96 hw) (ty := .long) (by decide) rfl rfl (g := (mkF m 50 #[.val (.ref a), .val (.ref na), .val (.ref ss), .val (.long tk), .second] [(.long tk), (.ref a)])) rfl rfl (hb hby d20_50)
  have F21 := f19.same W21
  have N21 := Fr.snoc X21 N15 P4
  have Z21 : n0 ≤ h21.size := Nat.le_trans Z15 (Keep.of_wr W21).1
  have K21 : Keep h0 h21 [a] := K15.wr W21 (Or.inl (List.mem_of_getElem? (i := 0) rfl))
  refine own_onW st21 ?_
  show OwnGoW p e below s _ _ _ (T21.setTop (mkF m 53 #[.val (.ref a), .val (.ref na), .val (.ref ss), .val (.long tk), .second] []))
  have f22 : Exa Z h21 a "com/example/orderly_lock/orderlylock/Grant" := f20.wr W21
  have f23 : k4 ≤ h10.size := Nat.le_trans hk4 (Keep.of_wr W10).1
  have f24 : k4 ≤ h15.size := Nat.le_trans f23 (Keep.of_wr W15).1
  have f25 : k4 ≤ h21.size := Nat.le_trans f24 (Keep.of_wr W21).1
  exact own_retVW X21 hx hlk Bd.returns (hb hby d20_53) e21 ⟨rfl, N21, K21, f22⟩ (by decide) (by decide) hS4 (by rw [e21]; exact f25)
theorem ef_lsR (m : MethodId) (a : Addr) (na : Addr) (hd : Addr) (hi : Int64)  : entryFrame m #[(.ref a), (.ref na), (.ref hd), (.long hi), (.int (0 : Int32))] 6 = mkF m 0 #[.val (.ref a), .val (.ref na), .val (.ref hd), .val (.long hi), .second, .val (.int (0 : Int32))] [] := by first | (simp [entryFrame, mkF, argsToLocals, Value.category]; done) | rfl
def QlsR (Z : State) (a : Addr) (na : Addr) (hd : Addr) (hi : Int64) (u0 : Value) (u1 : Value) (u2 : Value) (u3 : Value) (h0 : Heap) (n0 : Nat) (v_ : Option Value) (h_ : Heap) (L_ : List Loc) : Prop := v_ = none ∧ Fr n0 L_ ∧ Keep h0 h_ [a] ∧ (Exa Z h_ a "com/example/orderly_lock/orderlylock/LockState") ∧ (Fld Z h_ a "com/example/orderly_lock/orderlylock/LockState" "holder" "Lcom/example/orderly_lock/orderlylock/Grant;" (.ref hd))
set_option maxRecDepth 65536 in
set_option maxHeartbeats 40000000 in
theorem rmlsR (l : Launch) (Z : State) (a0 : Array Value) (hw : ∀ d ∈ tables_1, d.before a0 Z = true) (ws : List Jvm.Cond) (a : Addr) (na : Addr) (hd : Addr) (hi : Int64) (u0 : Value) (u1 : Value) (u2 : Value) (u3 : Value) (h0 : Heap) (n0 : Nat) (Z0 : n0 ≤ h0.size) (P0 : Exa Z h0 a "com/example/orderly_lock/orderlylock/LockState") (P1 : Fld Z h0 a "com/example/orderly_lock/orderlylock/LockState" "lock" "Lcom/example/orderly_lock/orderlylock/LockName;" u0) (P2 : Fld Z h0 a "com/example/orderly_lock/orderlylock/LockState" "holder" "Lcom/example/orderly_lock/orderlylock/Grant;" u1) (P3 : Fld Z h0 a "com/example/orderly_lock/orderlylock/LockState" "highestToken" "J" u2) (P4 : Fld Z h0 a "com/example/orderly_lock/orderlylock/LockState" "delayed" "Z" u3) (P5 : n0 ≤ a) :
    MetFree l (⟨"com/example/orderly_lock/orderlylock/LockState", "<init>", "(Lcom/example/orderly_lock/orderlylock/LockName;Lcom/example/orderly_lock/orderlylock/Grant;JZ)V"⟩ : MethodName) (head1 (Jvm.Cond.code (⟨"com/example/orderly_lock/orderlylock/LockState", "<init>", "(Lcom/example/orderly_lock/orderlylock/LockName;Lcom/example/orderly_lock/orderlylock/Grant;JZ)V"⟩ : MethodName) prog_10_method_1_code 6 none :: ws) ({ frames := 2, cells := 2, slots := 20, locals := 24 } : Room)) (fun A_ U => A_ = #[(.ref a), (.ref na), (.ref hd), (.long hi), (.int (0 : Int32))] ∧ Z.Warmed39 U.vm ∧ U.heap = h0) (fun _ _ _ _ _ => True) (fun _ U_ o_ U'_ => ∃ v_ L_, o_ = .returned v_ ∧ QlsR Z a na hd hi u0 u1 u2 u3 h0 n0 v_ U'_.heap L_ ∧ ReturnedEndW U_ o_ U'_ L_ ({ frames := 2, cells := 2, slots := 20, locals := 24 } : Room).cells ({ frames := 2, cells := 2, slots := 20, locals := 24 } : Room).slots) := by
  refine MetFree.of_bodySF (plainFor_of_name pn_7) hisR ?_
  intro p e s m args below meth c s₁ Bd hml0 hP hK
  obtain ⟨rfl, hZ, hh⟩ := hP
  have hx := Bd.exec
  have hby := Bd.bytes
  have hml : c.maxLocals = 6 := hml0
  have hown : s.vm.findClass "com/example/orderly_lock/orderlylock/LockState" = some m.cls := findClass_of_methodNamed Bd.named
  have hnm := (name_of_methodNamed Bd.named Bd.method).1
  have hlk : meth.locks = false := Bd.notSynchronized
  have X0 : Stand p l e ({ frames := 2, cells := 2, slots := 20, locals := 24 } : Room) s m #[(.ref a), (.ref na), (.ref hd), (.long hi), (.int (0 : Int32))] below meth c s₁ [] 0 0 := Stand.of_body Bd
  have e0 : s₁.heap = h0 := by rw [← hh, Bd.state]; rfl
  have N0 := Fr.nil n0
  have K0 : Keep h0 h0 [a] := Keep.refl _ _
  have hwarm := X0.warmed
  have hS0 : s.Since s₁.vm 0 := X0.warmed.since _
  have hZ : Z.Warmed39 (s.setVm s₁.vm).vm := wtrans hZ X0.warmed
  have hown : (s.setVm s₁.vm).vm.findClass "com/example/orderly_lock/orderlylock/LockState" = some m.cls := (X0.warmed.alike.findClass _ _).trans hown
  have X0 := X0.retabled X0.warmed.wide
  have hml : c.maxLocals = 6 := hml
  refine own_castW (ef_lsR m a na hd hi) ?_
  show OwnGoW p e below s (QlsR Z a na hd hi u0 u1 u2 u3 h0 n0) ({ frames := 2, cells := 2, slots := 20, locals := 24 } : Room).cells ({ frames := 2, cells := 2, slots := 20, locals := 24 } : Room).slots (s₁.setTop (mkF m 0 #[.val (.ref a), .val (.ref na), .val (.ref hd), .val (.long hi), .second, .val (.int (0 : Int32))] []))
  refine own_onW (fun t k => XS.aloadN X0.here hx rfl (hb hby d14_0) rfl rfl k) ?_
  show OwnGoW p e below s _ _ _ (s₁.setTop (mkF m 1 #[.val (.ref a), .val (.ref na), .val (.ref hd), .val (.long hi), .second, .val (.int (0 : Int32))] [(.ref a)]))
  obtain ⟨_, _, ⟨T1, L1, k1, n1⟩, -, X1, ⟨Lc1, hQ1, l1, y1, z1⟩, st1⟩ := X0.specialBack hx (y := (⟨"java/lang/Record", "<init>", "()V"⟩ : MethodName)) rfl hown (mvT hZ (w78 hw)) (mvT hZ (w15 hw)) (mvT hZ (w18 hw)) (by decide) (backOf (W := 0) (rm2 l Z a0 hw [] a h0 n0 Z0 ) hZ (w18 hw) (w17 hw) (by decide) (by decide)) (g := (mkF m 1 #[.val (.ref a), .val (.ref na), .val (.ref hd), .val (.long hi), .second, .val (.int (0 : Int32))] [(.ref a)])) rfl (by rw [hml]; rfl) (Steps.refl _) (a := a) (argsL := []) (rest := []) (lenOf pd_8 rfl) rfl (by show 2 * 0 + _ ≤ _; exact Nat.le_of_eq rfl) (hb hby d14_1) (fun _ _ => ⟨rfl, e0, (by decide : 0 + 0 ≤ _), (by decide : 0 + 0 ≤ _)⟩)
  dsimp only [Pt.U, Pt.locs, Pt.cells, Pt.slots] at X1 l1 y1 z1 st1 hQ1
  replace X1 := own_num (c' := 0) (n' := 0) X1 l1 (y1.trans rfl) (z1.trans rfl)
  obtain ⟨rfl, N1q, e1⟩ := hQ1
  have N1 := Fr.app N0 N1q
  refine own_trW st1 ?_
  show OwnGoW p e below s _ _ _ (T1.setTop (mkF m 4 #[.val (.ref a), .val (.ref na), .val (.ref hd), .val (.long hi), .second, .val (.int (0 : Int32))] []))
  refine own_onW (fun t k => XS.aloadN X1.here hx rfl (hb hby d14_4) rfl rfl k) ?_
  show OwnGoW p e below s _ _ _ (T1.setTop (mkF m 5 #[.val (.ref a), .val (.ref na), .val (.ref hd), .val (.long hi), .second, .val (.int (0 : Int32))] [(.ref na)]))
  obtain ⟨b2, T2, h2, k2, X2, e2, E2, hS2, hk2, hZ, hown, st2⟩ := ldcS X1 hx hZ hown (w79 hw) (own_str hw) e1 hS0 (Nat.zero_le _) (g := (mkF m 5 #[.val (.ref a), .val (.ref na), .val (.ref hd), .val (.long hi), .second, .val (.int (0 : Int32))] [(.ref na)])) rfl (hb hby d14_5) (n := 16) (by decide) (by decide) (by decide) (by decide)
  have Z2 : n0 ≤ h2.size := Nat.le_trans Z0 E2.1
  have K2 : Keep h0 h2 [a] := K0.ext E2
  refine own_onW st2 ?_
  show OwnGoW p e below s _ _ _ (T2.setTop (mkF m 7 #[.val (.ref a), .val (.ref na), .val (.ref hd), .val (.long hi), .second, .val (.int (0 : Int32))] [(.ref b2), (.ref na)]))
  obtain ⟨_, _, ⟨T3, L3, k3, n3⟩, -, X3, ⟨Lc3, hQ3, l3, y3, z3⟩, st3⟩ := Jvm.LawKit.callS X2 hx (y := (⟨"java/util/Objects", "requireNonNull", "(Ljava/lang/Object;Ljava/lang/String;)Ljava/lang/Object;"⟩ : MethodName)) hown (mvT hZ (w80 hw)) (mvT hZ (w24 hw)) (mvT hZ (w25 hw)) (mvT hZ (w26 hw)) (by decide) (backOf (W := 0) (rm4 l Z a0 hw [] na b2 h2 n0 Z2 ) hZ (w26 hw) (w25 hw) (by decide) (by decide)) (g := (mkF m 7 #[.val (.ref a), .val (.ref na), .val (.ref hd), .val (.long hi), .second, .val (.int (0 : Int32))] [(.ref b2), (.ref na)])) rfl (by rw [hml]; rfl) (argsL := [(.ref na), (.ref b2)]) (rest := []) (lenOf pd_9 rfl) rfl (by show 2 * 0 + _ ≤ _; exact Nat.le_of_eq rfl) (hb hby d14_7) (fun _ _ => ⟨rfl, e2, (by decide : 2 + 0 ≤ _), (by decide : 20 + 0 ≤ _)⟩)
  dsimp only [Pt.U, Pt.locs, Pt.cells, Pt.slots] at X3 l3 y3 z3 st3 hQ3
  replace X3 := own_num (c' := 2) (n' := 20) X3 l3 (y3.trans rfl) (z3.trans rfl)
  obtain ⟨rfl, N3q, e3⟩ := hQ3
  have N3 := Fr.app N1 N3q
  refine own_onW st3 ?_
  show OwnGoW p e below s _ _ _ (T3.setTop (mkF m 10 #[.val (.ref a), .val (.ref na), .val (.ref hd), .val (.long hi), .second, .val (.int (0 : Int32))] [(.ref na)]))
  refine own_onW (fun t k => XS.pop X3.here hx rfl (hb hby d14_10) rfl rfl k) ?_
  show OwnGoW p e below s _ _ _ (T3.setTop (mkF m 11 #[.val (.ref a), .val (.ref na), .val (.ref hd), .val (.long hi), .second, .val (.int (0 : Int32))] []))
  refine own_onW (fun t k => XS.iload X3.here hx rfl (hb hby d14_11) rfl k) ?_
  show OwnGoW p e below s _ _ _ (T3.setTop (mkF m 13 #[.val (.ref a), .val (.ref na), .val (.ref hd), .val (.long hi), .second, .val (.int (0 : Int32))] [(.int (0 : Int32))]))
  refine own_onW (fun t k => XS.ifYes X3.here hx rfl (pc0 := 13) (pc' := 30) rfl (hb hby d14_13) rfl ((if0 _ _).trans (teq (by decide : (0 : Int32) = (0 : Int32))).1) (by decide) (by decide) k) ?_
  show OwnGoW p e below s _ _ _ (T3.setTop (mkF m 30 #[.val (.ref a), .val (.ref na), .val (.ref hd), .val (.long hi), .second, .val (.int (0 : Int32))] []))
  refine own_onW (fun t k => XS.aloadN X3.here hx rfl (hb hby d14_30) rfl rfl k) ?_
  show OwnGoW p e below s _ _ _ (T3.setTop (mkF m 31 #[.val (.ref a), .val (.ref na), .val (.ref hd), .val (.long hi), .second, .val (.int (0 : Int32))] [(.ref a)]))
  refine own_onW (fun t k => XS.aloadN X3.here hx rfl (hb hby d14_31) rfl rfl k) ?_
  show OwnGoW p e below s _ _ _ (T3.setTop (mkF m 32 #[.val (.ref a), .val (.ref na), .val (.ref hd), .val (.long hi), .second, .val (.int (0 : Int32))] [(.ref na), (.ref a)]))
  have f4 : Fld Z h2 a "com/example/orderly_lock/orderlylock/LockState" "lock" "Lcom/example/orderly_lock/orderlylock/LockName;" u0 := P1.ext E2
  have f5 : Exa Z h2 a "com/example/orderly_lock/orderlylock/LockState" := P0.ext E2
  obtain ⟨T6, h6, X6, e6, W6, st6⟩ := putF X3 hx hZ hown (host := "") (Or.inl (w81 hw)) Via.refl e3 f4 f5 (Or.inr ⟨(w82 hw), rfl, hnm⟩) (w73 hw) (ty := (.object "com/example/orderly_lock/orderlylock/LockName")) (by decide) rfl rfl (g := (mkF m 32 #[.val (.ref a), .val (.ref na), .val (.ref hd), .val (.long hi), .second, .val (.int (0 : Int32))] [(.ref na), (.ref a)])) rfl rfl (hb hby d14_32)
  have F6 := f4.same W6
  have N6 := Fr.snoc X6 N3 P5
  have Z6 : n0 ≤ h6.size := Nat.le_trans Z2 (Keep.of_wr W6).1
  have K6 : Keep h0 h6 [a] := K2.wr W6 (Or.inl (List.mem_of_getElem? (i := 0) rfl))
  refine own_onW st6 ?_
  show OwnGoW p e below s _ _ _ (T6.setTop (mkF m 35 #[.val (.ref a), .val (.ref na), .val (.ref hd), .val (.long hi), .second, .val (.int (0 : Int32))] []))
  refine own_onW (fun t k => XS.aloadN X6.here hx rfl (hb hby d14_35) rfl rfl k) ?_
  show OwnGoW p e below s _ _ _ (T6.setTop (mkF m 36 #[.val (.ref a), .val (.ref na), .val (.ref hd), .val (.long hi), .second, .val (.int (0 : Int32))] [(.ref a)]))
  refine own_onW (fun t k => XS.aloadN X6.here hx rfl (hb hby d14_36) rfl rfl k) ?_
  show OwnGoW p e below s _ _ _ (T6.setTop (mkF m 37 #[.val (.ref a), .val (.ref na), .val (.ref hd), .val (.long hi), .second, .val (.int (0 : Int32))] [(.ref hd), (.ref a)]))
  have f7 : Fld Z h2 a "com/example/orderly_lock/orderlylock/LockState" "holder" "Lcom/example/orderly_lock/orderlylock/Grant;" u1 := P2.ext E2
  have f8 : Fld Z h6 a "com/example/orderly_lock/orderlylock/LockState" "holder" "Lcom/example/orderly_lock/orderlylock/Grant;" u1 := f7.other W6 (Or.inr (slot_ne (Or.inr (w84 hw)) (Or.inr (w82 hw)) (by decide) (t := (.object "com/example/orderly_lock/orderlylock/Grant")) (t' := (.object "com/example/orderly_lock/orderlylock/LockName")) (by decide) (by decide)))
  have f9 : Exa Z h6 a "com/example/orderly_lock/orderlylock/LockState" := f5.wr W6
  obtain ⟨T10, h10, X10, e10, W10, st10⟩ := putF X6 hx hZ hown (host := "") (Or.inl (w83 hw)) Via.refl e6 f8 f9 (Or.inr ⟨(w84 hw), rfl, hnm⟩) (w73 hw) (ty := (.object "com/example/orderly_lock/orderlylock/Grant")) (by decide) rfl rfl (g := (mkF m 37 #[.val (.ref a), .val (.ref na), .val (.ref hd), .val (.long hi), .second, .val (.int (0 : Int32))] [(.ref hd), (.ref a)])) rfl rfl (hb hby d14_37)
  have F10 := f8.same W10
  have N10 := Fr.snoc X10 N6 P5
  have Z10 : n0 ≤ h10.size := Nat.le_trans Z6 (Keep.of_wr W10).1
  have K10 : Keep h0 h10 [a] := K6.wr W10 (Or.inl (List.mem_of_getElem? (i := 0) rfl))
  refine own_onW st10 ?_
  show OwnGoW p e below s _ _ _ (T10.setTop (mkF m 40 #[.val (.ref a), .val (.ref na), .val (.ref hd), .val (.long hi), .second, .val (.int (0 : Int32))] []))
  refine own_onW (fun t k => XS.aloadN X10.here hx rfl (hb hby d14_40) rfl rfl k) ?_
  show OwnGoW p e below s _ _ _ (T10.setTop (mkF m 41 #[.val (.ref a), .val (.ref na), .val (.ref hd), .val (.long hi), .second, .val (.int (0 : Int32))] [(.ref a)]))
  refine own_onW (fun t k => XS.lloadN X10.here hx rfl (hb hby d14_41) rfl k) ?_
  show OwnGoW p e below s _ _ _ (T10.setTop (mkF m 42 #[.val (.ref a), .val (.ref na), .val (.ref hd), .val (.long hi), .second, .val (.int (0 : Int32))] [(.long hi), (.ref a)]))
  have f11 : Fld Z h2 a "com/example/orderly_lock/orderlylock/LockState" "highestToken" "J" u2 := P3.ext E2
  have f12 : Fld Z h6 a "com/example/orderly_lock/orderlylock/LockState" "highestToken" "J" u2 := f11.other W6 (Or.inr (slot_ne (Or.inr (w86 hw)) (Or.inr (w82 hw)) (by decide) (t := .long) (t' := (.object "com/example/orderly_lock/orderlylock/LockName")) (by decide) (by decide)))
  have f13 : Fld Z h10 a "com/example/orderly_lock/orderlylock/LockState" "highestToken" "J" u2 := f12.other W10 (Or.inr (slot_ne (Or.inr (w86 hw)) (Or.inr (w84 hw)) (by decide) (t := .long) (t' := (.object "com/example/orderly_lock/orderlylock/Grant")) (by decide) (by decide)))
  have f14 : Exa Z h10 a "com/example/orderly_lock/orderlylock/LockState" := f9.wr W10
  obtain ⟨T15, h15, X15, e15, W15, st15⟩ := putF X10 hx hZ hown (host := "") (Or.inl (w85 hw)) Via.refl e10 f13 f14 (Or.inr ⟨(w86 hw), rfl, hnm⟩) (w73 hw) (ty := .long) (by decide) rfl rfl (g := (mkF m 42 #[.val (.ref a), .val (.ref na), .val (.ref hd), .val (.long hi), .second, .val (.int (0 : Int32))] [(.long hi), (.ref a)])) rfl rfl (hb hby d14_42)
  have F15 := f13.same W15
  have N15 := Fr.snoc X15 N10 P5
  have Z15 : n0 ≤ h15.size := Nat.le_trans Z10 (Keep.of_wr W15).1
  have K15 : Keep h0 h15 [a] := K10.wr W15 (Or.inl (List.mem_of_getElem? (i := 0) rfl))
  refine own_onW st15 ?_
  show OwnGoW p e below s _ _ _ (T15.setTop (mkF m 45 #[.val (.ref a), .val (.ref na), .val (.ref hd), .val (.long hi), .second, .val (.int (0 : Int32))] []))
  refine own_onW (fun t k => XS.aloadN X15.here hx rfl (hb hby d14_45) rfl rfl k) ?_
  show OwnGoW p e below s _ _ _ (T15.setTop (mkF m 46 #[.val (.ref a), .val (.ref na), .val (.ref hd), .val (.long hi), .second, .val (.int (0 : Int32))] [(.ref a)]))
  refine own_onW (fun t k => XS.iload X15.here hx rfl (hb hby d14_46) rfl k) ?_
  show OwnGoW p e below s _ _ _ (T15.setTop (mkF m 48 #[.val (.ref a), .val (.ref na), .val (.ref hd), .val (.long hi), .second, .val (.int (0 : Int32))] [(.int (0 : Int32)), (.ref a)]))
  have f16 : Fld Z h2 a "com/example/orderly_lock/orderlylock/LockState" "delayed" "Z" u3 := P4.ext E2
  have f17 : Fld Z h6 a "com/example/orderly_lock/orderlylock/LockState" "delayed" "Z" u3 := f16.other W6 (Or.inr (slot_ne (Or.inr (w88 hw)) (Or.inr (w82 hw)) (by decide) (t := .boolean) (t' := (.object "com/example/orderly_lock/orderlylock/LockName")) (by decide) (by decide)))
  have f18 : Fld Z h10 a "com/example/orderly_lock/orderlylock/LockState" "delayed" "Z" u3 := f17.other W10 (Or.inr (slot_ne (Or.inr (w88 hw)) (Or.inr (w84 hw)) (by decide) (t := .boolean) (t' := (.object "com/example/orderly_lock/orderlylock/Grant")) (by decide) (by decide)))
  have f19 : Fld Z h15 a "com/example/orderly_lock/orderlylock/LockState" "delayed" "Z" u3 := f18.other W15 (Or.inr (slot_ne (Or.inr (w88 hw)) (Or.inr (w86 hw)) (by decide) (t := .boolean) (t' := .long) (by decide) (by decide)))
  have f20 : Exa Z h15 a "com/example/orderly_lock/orderlylock/LockState" := f14.wr W15
  obtain ⟨T21, h21, X21, e21, W21, st21⟩ := putFN X15 hx hZ hown (w87 hw) Via.refl e15 f19 f20 (Or.inr ⟨(w88 hw), rfl, hnm⟩) (w73 hw) (ty := .boolean) (v' := .int (0 : Int32)) (by decide) rfl rfl (g := (mkF m 48 #[.val (.ref a), .val (.ref na), .val (.ref hd), .val (.long hi), .second, .val (.int (0 : Int32))] [(.int (0 : Int32)), (.ref a)])) rfl rfl (hb hby d14_48)
  have F21 := f19.same W21
  have N21 := Fr.snoc X21 N15 P5
  have Z21 : n0 ≤ h21.size := Nat.le_trans Z15 (Keep.of_wr W21).1
  have K21 : Keep h0 h21 [a] := K15.wr W21 (Or.inl (List.mem_of_getElem? (i := 0) rfl))
  refine own_onW st21 ?_
  show OwnGoW p e below s _ _ _ (T21.setTop (mkF m 51 #[.val (.ref a), .val (.ref na), .val (.ref hd), .val (.long hi), .second, .val (.int (0 : Int32))] []))
  have f22 : Exa Z h21 a "com/example/orderly_lock/orderlylock/LockState" := f20.wr W21
  have f23 : Fld Z h15 a "com/example/orderly_lock/orderlylock/LockState" "holder" "Lcom/example/orderly_lock/orderlylock/Grant;" (.ref hd) := F10.other W15 (Or.inr (slot_ne (Or.inr (w84 hw)) (Or.inr (w86 hw)) (by decide) (t := (.object "com/example/orderly_lock/orderlylock/Grant")) (t' := .long) (by decide) (by decide)))
  have f24 : Fld Z h21 a "com/example/orderly_lock/orderlylock/LockState" "holder" "Lcom/example/orderly_lock/orderlylock/Grant;" (.ref hd) := f23.other W21 (Or.inr (slot_ne (Or.inr (w84 hw)) (Or.inr (w88 hw)) (by decide) (t := (.object "com/example/orderly_lock/orderlylock/Grant")) (t' := .boolean) (by decide) (by decide)))
  have f25 : k2 ≤ h6.size := Nat.le_trans hk2 (Keep.of_wr W6).1
  have f26 : k2 ≤ h10.size := Nat.le_trans f25 (Keep.of_wr W10).1
  have f27 : k2 ≤ h15.size := Nat.le_trans f26 (Keep.of_wr W15).1
  have f28 : k2 ≤ h21.size := Nat.le_trans f27 (Keep.of_wr W21).1
  exact own_retVW X21 hx hlk Bd.returns (hb hby d14_51) e21 ⟨rfl, N21, K21, f22, f24⟩ (by decide) (by decide) hS2 (by rw [e21]; exact f28)
theorem ef_lsN (m : MethodId) (a : Addr) (na : Addr) (hi : Int64) (dl : Int32)  : entryFrame m #[(.ref a), (.ref na), .null, (.long hi), (.int dl)] 6 = mkF m 0 #[.val (.ref a), .val (.ref na), .val .null, .val (.long hi), .second, .val (.int dl)] [] := by first | (simp [entryFrame, mkF, argsToLocals, Value.category]; done) | rfl
def QlsN (Z : State) (a : Addr) (na : Addr) (hi : Int64) (dl : Int32) (u0 : Value) (u1 : Value) (u2 : Value) (u3 : Value) (h0 : Heap) (n0 : Nat) (v_ : Option Value) (h_ : Heap) (L_ : List Loc) : Prop := v_ = none ∧ Fr n0 L_ ∧ Keep h0 h_ [a] ∧ (Exa Z h_ a "com/example/orderly_lock/orderlylock/LockState") ∧ (Fld Z h_ a "com/example/orderly_lock/orderlylock/LockState" "holder" "Lcom/example/orderly_lock/orderlylock/Grant;" .null)
set_option maxRecDepth 65536 in
set_option maxHeartbeats 40000000 in
theorem rmlsN (l : Launch) (Z : State) (a0 : Array Value) (hw : ∀ d ∈ tables_1, d.before a0 Z = true) (ws : List Jvm.Cond) (a : Addr) (na : Addr) (hi : Int64) (dl : Int32) (u0 : Value) (u1 : Value) (u2 : Value) (u3 : Value) (h0 : Heap) (n0 : Nat) (Z0 : n0 ≤ h0.size) (P0 : Exa Z h0 a "com/example/orderly_lock/orderlylock/LockState") (P1 : Fld Z h0 a "com/example/orderly_lock/orderlylock/LockState" "lock" "Lcom/example/orderly_lock/orderlylock/LockName;" u0) (P2 : Fld Z h0 a "com/example/orderly_lock/orderlylock/LockState" "holder" "Lcom/example/orderly_lock/orderlylock/Grant;" u1) (P3 : Fld Z h0 a "com/example/orderly_lock/orderlylock/LockState" "highestToken" "J" u2) (P4 : Fld Z h0 a "com/example/orderly_lock/orderlylock/LockState" "delayed" "Z" u3) (P5 : n0 ≤ a) :
    MetFree l (⟨"com/example/orderly_lock/orderlylock/LockState", "<init>", "(Lcom/example/orderly_lock/orderlylock/LockName;Lcom/example/orderly_lock/orderlylock/Grant;JZ)V"⟩ : MethodName) (head1 (Jvm.Cond.code (⟨"com/example/orderly_lock/orderlylock/LockState", "<init>", "(Lcom/example/orderly_lock/orderlylock/LockName;Lcom/example/orderly_lock/orderlylock/Grant;JZ)V"⟩ : MethodName) prog_10_method_1_code 6 none :: ws) ({ frames := 2, cells := 2, slots := 20, locals := 24 } : Room)) (fun A_ U => A_ = #[(.ref a), (.ref na), .null, (.long hi), (.int dl)] ∧ Z.Warmed39 U.vm ∧ U.heap = h0) (fun _ _ _ _ _ => True) (fun _ U_ o_ U'_ => ∃ v_ L_, o_ = .returned v_ ∧ QlsN Z a na hi dl u0 u1 u2 u3 h0 n0 v_ U'_.heap L_ ∧ ReturnedEndW U_ o_ U'_ L_ ({ frames := 2, cells := 2, slots := 20, locals := 24 } : Room).cells ({ frames := 2, cells := 2, slots := 20, locals := 24 } : Room).slots) := by
  refine MetFree.of_bodySF (plainFor_of_name pn_7) hisR ?_
  intro p e s m args below meth c s₁ Bd hml0 hP hK
  obtain ⟨rfl, hZ, hh⟩ := hP
  have hx := Bd.exec
  have hby := Bd.bytes
  have hml : c.maxLocals = 6 := hml0
  have hown : s.vm.findClass "com/example/orderly_lock/orderlylock/LockState" = some m.cls := findClass_of_methodNamed Bd.named
  have hnm := (name_of_methodNamed Bd.named Bd.method).1
  have hlk : meth.locks = false := Bd.notSynchronized
  have X0 : Stand p l e ({ frames := 2, cells := 2, slots := 20, locals := 24 } : Room) s m #[(.ref a), (.ref na), .null, (.long hi), (.int dl)] below meth c s₁ [] 0 0 := Stand.of_body Bd
  have e0 : s₁.heap = h0 := by rw [← hh, Bd.state]; rfl
  have N0 := Fr.nil n0
  have K0 : Keep h0 h0 [a] := Keep.refl _ _
  have hwarm := X0.warmed
  have hS0 : s.Since s₁.vm 0 := X0.warmed.since _
  have hZ : Z.Warmed39 (s.setVm s₁.vm).vm := wtrans hZ X0.warmed
  have hown : (s.setVm s₁.vm).vm.findClass "com/example/orderly_lock/orderlylock/LockState" = some m.cls := (X0.warmed.alike.findClass _ _).trans hown
  have X0 := X0.retabled X0.warmed.wide
  have hml : c.maxLocals = 6 := hml
  refine own_castW (ef_lsN m a na hi dl) ?_
  show OwnGoW p e below s (QlsN Z a na hi dl u0 u1 u2 u3 h0 n0) ({ frames := 2, cells := 2, slots := 20, locals := 24 } : Room).cells ({ frames := 2, cells := 2, slots := 20, locals := 24 } : Room).slots (s₁.setTop (mkF m 0 #[.val (.ref a), .val (.ref na), .val .null, .val (.long hi), .second, .val (.int dl)] []))
  refine own_onW (fun t k => XS.aloadN X0.here hx rfl (hb hby d14_0) rfl rfl k) ?_
  show OwnGoW p e below s _ _ _ (s₁.setTop (mkF m 1 #[.val (.ref a), .val (.ref na), .val .null, .val (.long hi), .second, .val (.int dl)] [(.ref a)]))
  obtain ⟨_, _, ⟨T1, L1, k1, n1⟩, -, X1, ⟨Lc1, hQ1, l1, y1, z1⟩, st1⟩ := X0.specialBack hx (y := (⟨"java/lang/Record", "<init>", "()V"⟩ : MethodName)) rfl hown (mvT hZ (w78 hw)) (mvT hZ (w15 hw)) (mvT hZ (w18 hw)) (by decide) (backOf (W := 0) (rm2 l Z a0 hw [] a h0 n0 Z0 ) hZ (w18 hw) (w17 hw) (by decide) (by decide)) (g := (mkF m 1 #[.val (.ref a), .val (.ref na), .val .null, .val (.long hi), .second, .val (.int dl)] [(.ref a)])) rfl (by rw [hml]; rfl) (Steps.refl _) (a := a) (argsL := []) (rest := []) (lenOf pd_8 rfl) rfl (by show 2 * 0 + _ ≤ _; exact Nat.le_of_eq rfl) (hb hby d14_1) (fun _ _ => ⟨rfl, e0, (by decide : 0 + 0 ≤ _), (by decide : 0 + 0 ≤ _)⟩)
  dsimp only [Pt.U, Pt.locs, Pt.cells, Pt.slots] at X1 l1 y1 z1 st1 hQ1
  replace X1 := own_num (c' := 0) (n' := 0) X1 l1 (y1.trans rfl) (z1.trans rfl)
  obtain ⟨rfl, N1q, e1⟩ := hQ1
  have N1 := Fr.app N0 N1q
  refine own_trW st1 ?_
  show OwnGoW p e below s _ _ _ (T1.setTop (mkF m 4 #[.val (.ref a), .val (.ref na), .val .null, .val (.long hi), .second, .val (.int dl)] []))
  refine own_onW (fun t k => XS.aloadN X1.here hx rfl (hb hby d14_4) rfl rfl k) ?_
  show OwnGoW p e below s _ _ _ (T1.setTop (mkF m 5 #[.val (.ref a), .val (.ref na), .val .null, .val (.long hi), .second, .val (.int dl)] [(.ref na)]))
  obtain ⟨b2, T2, h2, k2, X2, e2, E2, hS2, hk2, hZ, hown, st2⟩ := ldcS X1 hx hZ hown (w79 hw) (own_str hw) e1 hS0 (Nat.zero_le _) (g := (mkF m 5 #[.val (.ref a), .val (.ref na), .val .null, .val (.long hi), .second, .val (.int dl)] [(.ref na)])) rfl (hb hby d14_5) (n := 16) (by decide) (by decide) (by decide) (by decide)
  have Z2 : n0 ≤ h2.size := Nat.le_trans Z0 E2.1
  have K2 : Keep h0 h2 [a] := K0.ext E2
  refine own_onW st2 ?_
  show OwnGoW p e below s _ _ _ (T2.setTop (mkF m 7 #[.val (.ref a), .val (.ref na), .val .null, .val (.long hi), .second, .val (.int dl)] [(.ref b2), (.ref na)]))
  obtain ⟨_, _, ⟨T3, L3, k3, n3⟩, -, X3, ⟨Lc3, hQ3, l3, y3, z3⟩, st3⟩ := Jvm.LawKit.callS X2 hx (y := (⟨"java/util/Objects", "requireNonNull", "(Ljava/lang/Object;Ljava/lang/String;)Ljava/lang/Object;"⟩ : MethodName)) hown (mvT hZ (w80 hw)) (mvT hZ (w24 hw)) (mvT hZ (w25 hw)) (mvT hZ (w26 hw)) (by decide) (backOf (W := 0) (rm4 l Z a0 hw [] na b2 h2 n0 Z2 ) hZ (w26 hw) (w25 hw) (by decide) (by decide)) (g := (mkF m 7 #[.val (.ref a), .val (.ref na), .val .null, .val (.long hi), .second, .val (.int dl)] [(.ref b2), (.ref na)])) rfl (by rw [hml]; rfl) (argsL := [(.ref na), (.ref b2)]) (rest := []) (lenOf pd_9 rfl) rfl (by show 2 * 0 + _ ≤ _; exact Nat.le_of_eq rfl) (hb hby d14_7) (fun _ _ => ⟨rfl, e2, (by decide : 2 + 0 ≤ _), (by decide : 20 + 0 ≤ _)⟩)
  dsimp only [Pt.U, Pt.locs, Pt.cells, Pt.slots] at X3 l3 y3 z3 st3 hQ3
  replace X3 := own_num (c' := 2) (n' := 20) X3 l3 (y3.trans rfl) (z3.trans rfl)
  obtain ⟨rfl, N3q, e3⟩ := hQ3
  have N3 := Fr.app N1 N3q
  refine own_onW st3 ?_
  show OwnGoW p e below s _ _ _ (T3.setTop (mkF m 10 #[.val (.ref a), .val (.ref na), .val .null, .val (.long hi), .second, .val (.int dl)] [(.ref na)]))
  refine own_onW (fun t k => XS.pop X3.here hx rfl (hb hby d14_10) rfl rfl k) ?_
  show OwnGoW p e below s _ _ _ (T3.setTop (mkF m 11 #[.val (.ref a), .val (.ref na), .val .null, .val (.long hi), .second, .val (.int dl)] []))
  refine own_onW (fun t k => XS.iload X3.here hx rfl (hb hby d14_11) rfl k) ?_
  show OwnGoW p e below s _ _ _ (T3.setTop (mkF m 13 #[.val (.ref a), .val (.ref na), .val .null, .val (.long hi), .second, .val (.int dl)] [(.int dl)]))
  by_cases q0 : dl = (0 : Int32)
  · refine own_onW (fun t k => XS.ifYes X3.here hx rfl (pc0 := 13) (pc' := 30) rfl (hb hby d14_13) rfl ((if0 _ _).trans (teq q0).1) (by decide) (by decide) k) ?_
    show OwnGoW p e below s _ _ _ (T3.setTop (mkF m 30 #[.val (.ref a), .val (.ref na), .val .null, .val (.long hi), .second, .val (.int dl)] []))
    refine own_onW (fun t k => XS.aloadN X3.here hx rfl (hb hby d14_30) rfl rfl k) ?_
    show OwnGoW p e below s _ _ _ (T3.setTop (mkF m 31 #[.val (.ref a), .val (.ref na), .val .null, .val (.long hi), .second, .val (.int dl)] [(.ref a)]))
    refine own_onW (fun t k => XS.aloadN X3.here hx rfl (hb hby d14_31) rfl rfl k) ?_
    show OwnGoW p e below s _ _ _ (T3.setTop (mkF m 32 #[.val (.ref a), .val (.ref na), .val .null, .val (.long hi), .second, .val (.int dl)] [(.ref na), (.ref a)]))
    have f4 : Fld Z h2 a "com/example/orderly_lock/orderlylock/LockState" "lock" "Lcom/example/orderly_lock/orderlylock/LockName;" u0 := P1.ext E2
    have f5 : Exa Z h2 a "com/example/orderly_lock/orderlylock/LockState" := P0.ext E2
    obtain ⟨T6, h6, X6, e6, W6, st6⟩ := putF X3 hx hZ hown (host := "") (Or.inl (w81 hw)) Via.refl e3 f4 f5 (Or.inr ⟨(w82 hw), rfl, hnm⟩) (w73 hw) (ty := (.object "com/example/orderly_lock/orderlylock/LockName")) (by decide) rfl rfl (g := (mkF m 32 #[.val (.ref a), .val (.ref na), .val .null, .val (.long hi), .second, .val (.int dl)] [(.ref na), (.ref a)])) rfl rfl (hb hby d14_32)
    have F6 := f4.same W6
    have N6 := Fr.snoc X6 N3 P5
    have Z6 : n0 ≤ h6.size := Nat.le_trans Z2 (Keep.of_wr W6).1
    have K6 : Keep h0 h6 [a] := K2.wr W6 (Or.inl (List.mem_of_getElem? (i := 0) rfl))
    refine own_onW st6 ?_
    show OwnGoW p e below s _ _ _ (T6.setTop (mkF m 35 #[.val (.ref a), .val (.ref na), .val .null, .val (.long hi), .second, .val (.int dl)] []))
    refine own_onW (fun t k => XS.aloadN X6.here hx rfl (hb hby d14_35) rfl rfl k) ?_
    show OwnGoW p e below s _ _ _ (T6.setTop (mkF m 36 #[.val (.ref a), .val (.ref na), .val .null, .val (.long hi), .second, .val (.int dl)] [(.ref a)]))
    refine own_onW (fun t k => XS.aloadN X6.here hx rfl (hb hby d14_36) rfl rfl k) ?_
    show OwnGoW p e below s _ _ _ (T6.setTop (mkF m 37 #[.val (.ref a), .val (.ref na), .val .null, .val (.long hi), .second, .val (.int dl)] [.null, (.ref a)]))
    have f7 : Fld Z h2 a "com/example/orderly_lock/orderlylock/LockState" "holder" "Lcom/example/orderly_lock/orderlylock/Grant;" u1 := P2.ext E2
    have f8 : Fld Z h6 a "com/example/orderly_lock/orderlylock/LockState" "holder" "Lcom/example/orderly_lock/orderlylock/Grant;" u1 := f7.other W6 (Or.inr (slot_ne (Or.inr (w84 hw)) (Or.inr (w82 hw)) (by decide) (t := (.object "com/example/orderly_lock/orderlylock/Grant")) (t' := (.object "com/example/orderly_lock/orderlylock/LockName")) (by decide) (by decide)))
    have f9 : Exa Z h6 a "com/example/orderly_lock/orderlylock/LockState" := f5.wr W6
    obtain ⟨T10, h10, X10, e10, W10, st10⟩ := putF X6 hx hZ hown (host := "") (Or.inl (w83 hw)) Via.refl e6 f8 f9 (Or.inr ⟨(w84 hw), rfl, hnm⟩) (w73 hw) (ty := (.object "com/example/orderly_lock/orderlylock/Grant")) (by decide) rfl rfl (g := (mkF m 37 #[.val (.ref a), .val (.ref na), .val .null, .val (.long hi), .second, .val (.int dl)] [.null, (.ref a)])) rfl rfl (hb hby d14_37)
    have F10 := f8.same W10
    have N10 := Fr.snoc X10 N6 P5
    have Z10 : n0 ≤ h10.size := Nat.le_trans Z6 (Keep.of_wr W10).1
    have K10 : Keep h0 h10 [a] := K6.wr W10 (Or.inl (List.mem_of_getElem? (i := 0) rfl))
    refine own_onW st10 ?_
    show OwnGoW p e below s _ _ _ (T10.setTop (mkF m 40 #[.val (.ref a), .val (.ref na), .val .null, .val (.long hi), .second, .val (.int dl)] []))
    refine own_onW (fun t k => XS.aloadN X10.here hx rfl (hb hby d14_40) rfl rfl k) ?_
    show OwnGoW p e below s _ _ _ (T10.setTop (mkF m 41 #[.val (.ref a), .val (.ref na), .val .null, .val (.long hi), .second, .val (.int dl)] [(.ref a)]))
    refine own_onW (fun t k => XS.lloadN X10.here hx rfl (hb hby d14_41) rfl k) ?_
    show OwnGoW p e below s _ _ _ (T10.setTop (mkF m 42 #[.val (.ref a), .val (.ref na), .val .null, .val (.long hi), .second, .val (.int dl)] [(.long hi), (.ref a)]))
    have f11 : Fld Z h2 a "com/example/orderly_lock/orderlylock/LockState" "highestToken" "J" u2 := P3.ext E2
    have f12 : Fld Z h6 a "com/example/orderly_lock/orderlylock/LockState" "highestToken" "J" u2 := f11.other W6 (Or.inr (slot_ne (Or.inr (w86 hw)) (Or.inr (w82 hw)) (by decide) (t := .long) (t' := (.object "com/example/orderly_lock/orderlylock/LockName")) (by decide) (by decide)))
    have f13 : Fld Z h10 a "com/example/orderly_lock/orderlylock/LockState" "highestToken" "J" u2 := f12.other W10 (Or.inr (slot_ne (Or.inr (w86 hw)) (Or.inr (w84 hw)) (by decide) (t := .long) (t' := (.object "com/example/orderly_lock/orderlylock/Grant")) (by decide) (by decide)))
    have f14 : Exa Z h10 a "com/example/orderly_lock/orderlylock/LockState" := f9.wr W10
    obtain ⟨T15, h15, X15, e15, W15, st15⟩ := putF X10 hx hZ hown (host := "") (Or.inl (w85 hw)) Via.refl e10 f13 f14 (Or.inr ⟨(w86 hw), rfl, hnm⟩) (w73 hw) (ty := .long) (by decide) rfl rfl (g := (mkF m 42 #[.val (.ref a), .val (.ref na), .val .null, .val (.long hi), .second, .val (.int dl)] [(.long hi), (.ref a)])) rfl rfl (hb hby d14_42)
    have F15 := f13.same W15
    have N15 := Fr.snoc X15 N10 P5
    have Z15 : n0 ≤ h15.size := Nat.le_trans Z10 (Keep.of_wr W15).1
    have K15 : Keep h0 h15 [a] := K10.wr W15 (Or.inl (List.mem_of_getElem? (i := 0) rfl))
    refine own_onW st15 ?_
    show OwnGoW p e below s _ _ _ (T15.setTop (mkF m 45 #[.val (.ref a), .val (.ref na), .val .null, .val (.long hi), .second, .val (.int dl)] []))
    refine own_onW (fun t k => XS.aloadN X15.here hx rfl (hb hby d14_45) rfl rfl k) ?_
    show OwnGoW p e below s _ _ _ (T15.setTop (mkF m 46 #[.val (.ref a), .val (.ref na), .val .null, .val (.long hi), .second, .val (.int dl)] [(.ref a)]))
    refine own_onW (fun t k => XS.iload X15.here hx rfl (hb hby d14_46) rfl k) ?_
    show OwnGoW p e below s _ _ _ (T15.setTop (mkF m 48 #[.val (.ref a), .val (.ref na), .val .null, .val (.long hi), .second, .val (.int dl)] [(.int dl), (.ref a)]))
    have f16 : Fld Z h2 a "com/example/orderly_lock/orderlylock/LockState" "delayed" "Z" u3 := P4.ext E2
    have f17 : Fld Z h6 a "com/example/orderly_lock/orderlylock/LockState" "delayed" "Z" u3 := f16.other W6 (Or.inr (slot_ne (Or.inr (w88 hw)) (Or.inr (w82 hw)) (by decide) (t := .boolean) (t' := (.object "com/example/orderly_lock/orderlylock/LockName")) (by decide) (by decide)))
    have f18 : Fld Z h10 a "com/example/orderly_lock/orderlylock/LockState" "delayed" "Z" u3 := f17.other W10 (Or.inr (slot_ne (Or.inr (w88 hw)) (Or.inr (w84 hw)) (by decide) (t := .boolean) (t' := (.object "com/example/orderly_lock/orderlylock/Grant")) (by decide) (by decide)))
    have f19 : Fld Z h15 a "com/example/orderly_lock/orderlylock/LockState" "delayed" "Z" u3 := f18.other W15 (Or.inr (slot_ne (Or.inr (w88 hw)) (Or.inr (w86 hw)) (by decide) (t := .boolean) (t' := .long) (by decide) (by decide)))
    have f20 : Exa Z h15 a "com/example/orderly_lock/orderlylock/LockState" := f14.wr W15
    obtain ⟨T21, h21, X21, e21, W21, st21⟩ := putFN X15 hx hZ hown (w87 hw) Via.refl e15 f19 f20 (Or.inr ⟨(w88 hw), rfl, hnm⟩) (w73 hw) (ty := .boolean) (v' := .int (nar .boolean dl)) (by decide) rfl (fits_nar_bool _) (g := (mkF m 48 #[.val (.ref a), .val (.ref na), .val .null, .val (.long hi), .second, .val (.int dl)] [(.int dl), (.ref a)])) rfl rfl (hb hby d14_48)
    have F21 := f19.same W21
    have N21 := Fr.snoc X21 N15 P5
    have Z21 : n0 ≤ h21.size := Nat.le_trans Z15 (Keep.of_wr W21).1
    have K21 : Keep h0 h21 [a] := K15.wr W21 (Or.inl (List.mem_of_getElem? (i := 0) rfl))
    refine own_onW st21 ?_
    show OwnGoW p e below s _ _ _ (T21.setTop (mkF m 51 #[.val (.ref a), .val (.ref na), .val .null, .val (.long hi), .second, .val (.int dl)] []))
    have f22 : Exa Z h21 a "com/example/orderly_lock/orderlylock/LockState" := f20.wr W21
    have f23 : Fld Z h15 a "com/example/orderly_lock/orderlylock/LockState" "holder" "Lcom/example/orderly_lock/orderlylock/Grant;" .null := F10.other W15 (Or.inr (slot_ne (Or.inr (w84 hw)) (Or.inr (w86 hw)) (by decide) (t := (.object "com/example/orderly_lock/orderlylock/Grant")) (t' := .long) (by decide) (by decide)))
    have f24 : Fld Z h21 a "com/example/orderly_lock/orderlylock/LockState" "holder" "Lcom/example/orderly_lock/orderlylock/Grant;" .null := f23.other W21 (Or.inr (slot_ne (Or.inr (w84 hw)) (Or.inr (w88 hw)) (by decide) (t := (.object "com/example/orderly_lock/orderlylock/Grant")) (t' := .boolean) (by decide) (by decide)))
    have f25 : k2 ≤ h6.size := Nat.le_trans hk2 (Keep.of_wr W6).1
    have f26 : k2 ≤ h10.size := Nat.le_trans f25 (Keep.of_wr W10).1
    have f27 : k2 ≤ h15.size := Nat.le_trans f26 (Keep.of_wr W15).1
    have f28 : k2 ≤ h21.size := Nat.le_trans f27 (Keep.of_wr W21).1
    exact own_retVW X21 hx hlk Bd.returns (hb hby d14_51) e21 ⟨rfl, N21, K21, f22, f24⟩ (by decide) (by decide) hS2 (by rw [e21]; exact f28)
  · refine own_onW (fun t k => XS.ifNo X3.here hx rfl (hb hby d14_13) rfl ((if0 _ _).trans (feq q0).1) k) ?_
    show OwnGoW p e below s _ _ _ (T3.setTop (mkF m 16 #[.val (.ref a), .val (.ref na), .val .null, .val (.long hi), .second, .val (.int dl)] []))
    refine own_onW (fun t k => XS.aloadN X3.here hx rfl (hb hby d14_16) rfl rfl k) ?_
    show OwnGoW p e below s _ _ _ (T3.setTop (mkF m 17 #[.val (.ref a), .val (.ref na), .val .null, .val (.long hi), .second, .val (.int dl)] [.null]))
    refine own_onW (fun t k => XS.ifnullYes X3.here hx rfl (pc0 := 17) (pc' := 30) rfl (hb hby d14_17) rfl (by decide) (by decide) k) ?_
    show OwnGoW p e below s _ _ _ (T3.setTop (mkF m 30 #[.val (.ref a), .val (.ref na), .val .null, .val (.long hi), .second, .val (.int dl)] []))
    refine own_onW (fun t k => XS.aloadN X3.here hx rfl (hb hby d14_30) rfl rfl k) ?_
    show OwnGoW p e below s _ _ _ (T3.setTop (mkF m 31 #[.val (.ref a), .val (.ref na), .val .null, .val (.long hi), .second, .val (.int dl)] [(.ref a)]))
    refine own_onW (fun t k => XS.aloadN X3.here hx rfl (hb hby d14_31) rfl rfl k) ?_
    show OwnGoW p e below s _ _ _ (T3.setTop (mkF m 32 #[.val (.ref a), .val (.ref na), .val .null, .val (.long hi), .second, .val (.int dl)] [(.ref na), (.ref a)]))
    have f29 : Fld Z h2 a "com/example/orderly_lock/orderlylock/LockState" "lock" "Lcom/example/orderly_lock/orderlylock/LockName;" u0 := P1.ext E2
    have f30 : Exa Z h2 a "com/example/orderly_lock/orderlylock/LockState" := P0.ext E2
    obtain ⟨T31, h31, X31, e31, W31, st31⟩ := putF X3 hx hZ hown (host := "") (Or.inl (w81 hw)) Via.refl e3 f29 f30 (Or.inr ⟨(w82 hw), rfl, hnm⟩) (w73 hw) (ty := (.object "com/example/orderly_lock/orderlylock/LockName")) (by decide) rfl rfl (g := (mkF m 32 #[.val (.ref a), .val (.ref na), .val .null, .val (.long hi), .second, .val (.int dl)] [(.ref na), (.ref a)])) rfl rfl (hb hby d14_32)
    have F31 := f29.same W31
    have N31 := Fr.snoc X31 N3 P5
    have Z31 : n0 ≤ h31.size := Nat.le_trans Z2 (Keep.of_wr W31).1
    have K31 : Keep h0 h31 [a] := K2.wr W31 (Or.inl (List.mem_of_getElem? (i := 0) rfl))
    refine own_onW st31 ?_
    show OwnGoW p e below s _ _ _ (T31.setTop (mkF m 35 #[.val (.ref a), .val (.ref na), .val .null, .val (.long hi), .second, .val (.int dl)] []))
    refine own_onW (fun t k => XS.aloadN X31.here hx rfl (hb hby d14_35) rfl rfl k) ?_
    show OwnGoW p e below s _ _ _ (T31.setTop (mkF m 36 #[.val (.ref a), .val (.ref na), .val .null, .val (.long hi), .second, .val (.int dl)] [(.ref a)]))
    refine own_onW (fun t k => XS.aloadN X31.here hx rfl (hb hby d14_36) rfl rfl k) ?_
    show OwnGoW p e below s _ _ _ (T31.setTop (mkF m 37 #[.val (.ref a), .val (.ref na), .val .null, .val (.long hi), .second, .val (.int dl)] [.null, (.ref a)]))
    have f32 : Fld Z h2 a "com/example/orderly_lock/orderlylock/LockState" "holder" "Lcom/example/orderly_lock/orderlylock/Grant;" u1 := P2.ext E2
    have f33 : Fld Z h31 a "com/example/orderly_lock/orderlylock/LockState" "holder" "Lcom/example/orderly_lock/orderlylock/Grant;" u1 := f32.other W31 (Or.inr (slot_ne (Or.inr (w84 hw)) (Or.inr (w82 hw)) (by decide) (t := (.object "com/example/orderly_lock/orderlylock/Grant")) (t' := (.object "com/example/orderly_lock/orderlylock/LockName")) (by decide) (by decide)))
    have f34 : Exa Z h31 a "com/example/orderly_lock/orderlylock/LockState" := f30.wr W31
    obtain ⟨T35, h35, X35, e35, W35, st35⟩ := putF X31 hx hZ hown (host := "") (Or.inl (w83 hw)) Via.refl e31 f33 f34 (Or.inr ⟨(w84 hw), rfl, hnm⟩) (w73 hw) (ty := (.object "com/example/orderly_lock/orderlylock/Grant")) (by decide) rfl rfl (g := (mkF m 37 #[.val (.ref a), .val (.ref na), .val .null, .val (.long hi), .second, .val (.int dl)] [.null, (.ref a)])) rfl rfl (hb hby d14_37)
    have F35 := f33.same W35
    have N35 := Fr.snoc X35 N31 P5
    have Z35 : n0 ≤ h35.size := Nat.le_trans Z31 (Keep.of_wr W35).1
    have K35 : Keep h0 h35 [a] := K31.wr W35 (Or.inl (List.mem_of_getElem? (i := 0) rfl))
    refine own_onW st35 ?_
    show OwnGoW p e below s _ _ _ (T35.setTop (mkF m 40 #[.val (.ref a), .val (.ref na), .val .null, .val (.long hi), .second, .val (.int dl)] []))
    refine own_onW (fun t k => XS.aloadN X35.here hx rfl (hb hby d14_40) rfl rfl k) ?_
    show OwnGoW p e below s _ _ _ (T35.setTop (mkF m 41 #[.val (.ref a), .val (.ref na), .val .null, .val (.long hi), .second, .val (.int dl)] [(.ref a)]))
    refine own_onW (fun t k => XS.lloadN X35.here hx rfl (hb hby d14_41) rfl k) ?_
    show OwnGoW p e below s _ _ _ (T35.setTop (mkF m 42 #[.val (.ref a), .val (.ref na), .val .null, .val (.long hi), .second, .val (.int dl)] [(.long hi), (.ref a)]))
    have f36 : Fld Z h2 a "com/example/orderly_lock/orderlylock/LockState" "highestToken" "J" u2 := P3.ext E2
    have f37 : Fld Z h31 a "com/example/orderly_lock/orderlylock/LockState" "highestToken" "J" u2 := f36.other W31 (Or.inr (slot_ne (Or.inr (w86 hw)) (Or.inr (w82 hw)) (by decide) (t := .long) (t' := (.object "com/example/orderly_lock/orderlylock/LockName")) (by decide) (by decide)))
    have f38 : Fld Z h35 a "com/example/orderly_lock/orderlylock/LockState" "highestToken" "J" u2 := f37.other W35 (Or.inr (slot_ne (Or.inr (w86 hw)) (Or.inr (w84 hw)) (by decide) (t := .long) (t' := (.object "com/example/orderly_lock/orderlylock/Grant")) (by decide) (by decide)))
    have f39 : Exa Z h35 a "com/example/orderly_lock/orderlylock/LockState" := f34.wr W35
    obtain ⟨T40, h40, X40, e40, W40, st40⟩ := putF X35 hx hZ hown (host := "") (Or.inl (w85 hw)) Via.refl e35 f38 f39 (Or.inr ⟨(w86 hw), rfl, hnm⟩) (w73 hw) (ty := .long) (by decide) rfl rfl (g := (mkF m 42 #[.val (.ref a), .val (.ref na), .val .null, .val (.long hi), .second, .val (.int dl)] [(.long hi), (.ref a)])) rfl rfl (hb hby d14_42)
    have F40 := f38.same W40
    have N40 := Fr.snoc X40 N35 P5
    have Z40 : n0 ≤ h40.size := Nat.le_trans Z35 (Keep.of_wr W40).1
    have K40 : Keep h0 h40 [a] := K35.wr W40 (Or.inl (List.mem_of_getElem? (i := 0) rfl))
    refine own_onW st40 ?_
    show OwnGoW p e below s _ _ _ (T40.setTop (mkF m 45 #[.val (.ref a), .val (.ref na), .val .null, .val (.long hi), .second, .val (.int dl)] []))
    refine own_onW (fun t k => XS.aloadN X40.here hx rfl (hb hby d14_45) rfl rfl k) ?_
    show OwnGoW p e below s _ _ _ (T40.setTop (mkF m 46 #[.val (.ref a), .val (.ref na), .val .null, .val (.long hi), .second, .val (.int dl)] [(.ref a)]))
    refine own_onW (fun t k => XS.iload X40.here hx rfl (hb hby d14_46) rfl k) ?_
    show OwnGoW p e below s _ _ _ (T40.setTop (mkF m 48 #[.val (.ref a), .val (.ref na), .val .null, .val (.long hi), .second, .val (.int dl)] [(.int dl), (.ref a)]))
    have f41 : Fld Z h2 a "com/example/orderly_lock/orderlylock/LockState" "delayed" "Z" u3 := P4.ext E2
    have f42 : Fld Z h31 a "com/example/orderly_lock/orderlylock/LockState" "delayed" "Z" u3 := f41.other W31 (Or.inr (slot_ne (Or.inr (w88 hw)) (Or.inr (w82 hw)) (by decide) (t := .boolean) (t' := (.object "com/example/orderly_lock/orderlylock/LockName")) (by decide) (by decide)))
    have f43 : Fld Z h35 a "com/example/orderly_lock/orderlylock/LockState" "delayed" "Z" u3 := f42.other W35 (Or.inr (slot_ne (Or.inr (w88 hw)) (Or.inr (w84 hw)) (by decide) (t := .boolean) (t' := (.object "com/example/orderly_lock/orderlylock/Grant")) (by decide) (by decide)))
    have f44 : Fld Z h40 a "com/example/orderly_lock/orderlylock/LockState" "delayed" "Z" u3 := f43.other W40 (Or.inr (slot_ne (Or.inr (w88 hw)) (Or.inr (w86 hw)) (by decide) (t := .boolean) (t' := .long) (by decide) (by decide)))
    have f45 : Exa Z h40 a "com/example/orderly_lock/orderlylock/LockState" := f39.wr W40
    obtain ⟨T46, h46, X46, e46, W46, st46⟩ := putFN X40 hx hZ hown (w87 hw) Via.refl e40 f44 f45 (Or.inr ⟨(w88 hw), rfl, hnm⟩) (w73 hw) (ty := .boolean) (v' := .int (nar .boolean dl)) (by decide) rfl (fits_nar_bool _) (g := (mkF m 48 #[.val (.ref a), .val (.ref na), .val .null, .val (.long hi), .second, .val (.int dl)] [(.int dl), (.ref a)])) rfl rfl (hb hby d14_48)
    have F46 := f44.same W46
    have N46 := Fr.snoc X46 N40 P5
    have Z46 : n0 ≤ h46.size := Nat.le_trans Z40 (Keep.of_wr W46).1
    have K46 : Keep h0 h46 [a] := K40.wr W46 (Or.inl (List.mem_of_getElem? (i := 0) rfl))
    refine own_onW st46 ?_
    show OwnGoW p e below s _ _ _ (T46.setTop (mkF m 51 #[.val (.ref a), .val (.ref na), .val .null, .val (.long hi), .second, .val (.int dl)] []))
    have f47 : Exa Z h46 a "com/example/orderly_lock/orderlylock/LockState" := f45.wr W46
    have f48 : Fld Z h40 a "com/example/orderly_lock/orderlylock/LockState" "holder" "Lcom/example/orderly_lock/orderlylock/Grant;" .null := F35.other W40 (Or.inr (slot_ne (Or.inr (w84 hw)) (Or.inr (w86 hw)) (by decide) (t := (.object "com/example/orderly_lock/orderlylock/Grant")) (t' := .long) (by decide) (by decide)))
    have f49 : Fld Z h46 a "com/example/orderly_lock/orderlylock/LockState" "holder" "Lcom/example/orderly_lock/orderlylock/Grant;" .null := f48.other W46 (Or.inr (slot_ne (Or.inr (w84 hw)) (Or.inr (w88 hw)) (by decide) (t := (.object "com/example/orderly_lock/orderlylock/Grant")) (t' := .boolean) (by decide) (by decide)))
    have f50 : k2 ≤ h31.size := Nat.le_trans hk2 (Keep.of_wr W31).1
    have f51 : k2 ≤ h35.size := Nat.le_trans f50 (Keep.of_wr W35).1
    have f52 : k2 ≤ h40.size := Nat.le_trans f51 (Keep.of_wr W40).1
    have f53 : k2 ≤ h46.size := Nat.le_trans f52 (Keep.of_wr W46).1
    exact own_retVW X46 hx hlk Bd.returns (hb hby d14_51) e46 ⟨rfl, N46, K46, f47, f49⟩ (by decide) (by decide) hS2 (by rw [e46]; exact f53)
theorem ef_hR (m : MethodId) (a : Addr)  : entryFrame m #[(.ref a)] 1 = mkF m 0 #[.val (.ref a)] [] := by first | (simp [entryFrame, mkF, argsToLocals, Value.category]; done) | rfl
def QhR (Z : State) (a : Addr) (hd : Addr) (h0 : Heap) (n0 : Nat) (v_ : Option Value) (h_ : Heap) (L_ : List Loc) : Prop := v_ = some (.int (1 : Int32)) ∧ Fr n0 L_ ∧ h_ = h0
set_option maxRecDepth 65536 in
set_option maxHeartbeats 40000000 in
theorem rmhR (l : Launch) (Z : State) (a0 : Array Value) (hw : ∀ d ∈ tables_1, d.before a0 Z = true) (ws : List Jvm.Cond) (a : Addr) (hd : Addr) (h0 : Heap) (n0 : Nat) (Z0 : n0 ≤ h0.size) (P0 : Fld Z h0 a "com/example/orderly_lock/orderlylock/LockState" "holder" "Lcom/example/orderly_lock/orderlylock/Grant;" (.ref hd)) :
    MetFree l (⟨"com/example/orderly_lock/orderlylock/LockState", "held", "()Z"⟩ : MethodName) (head1 (Jvm.Cond.code (⟨"com/example/orderly_lock/orderlylock/LockState", "held", "()Z"⟩ : MethodName) prog_10_method_2_code 1 (some .boolean) :: ws) ({ frames := 0, cells := 0, slots := 0, locals := 0 } : Room)) (fun A_ U => A_ = #[(.ref a)] ∧ Z.Warmed39 U.vm ∧ U.heap = h0) (fun _ _ _ _ _ => True) (fun _ U_ o_ U'_ => ∃ v_ L_, o_ = .returned v_ ∧ QhR Z a hd h0 n0 v_ U'_.heap L_ ∧ FrameEnd U_ o_ U'_ L_ ({ frames := 0, cells := 0, slots := 0, locals := 0 } : Room).cells ({ frames := 0, cells := 0, slots := 0, locals := 0 } : Room).slots) := by
  refine MetFree.of_bodySF (plainFor_of_name pn_7) hisR ?_
  intro p e s m args below meth c s₁ Bd hml0 hP hK
  obtain ⟨rfl, hZ, hh⟩ := hP
  have hx := Bd.exec
  have hby := Bd.bytes
  have hml : c.maxLocals = 1 := hml0
  have hown : s.vm.findClass "com/example/orderly_lock/orderlylock/LockState" = some m.cls := findClass_of_methodNamed Bd.named
  have hnm := (name_of_methodNamed Bd.named Bd.method).1
  have hlk : meth.locks = false := Bd.notSynchronized
  have X0 : Stand p l e ({ frames := 0, cells := 0, slots := 0, locals := 0 } : Room) s m #[(.ref a)] below meth c s₁ [] 0 0 := Stand.of_body Bd
  have e0 : s₁.heap = h0 := by rw [← hh, Bd.state]; rfl
  have N0 := Fr.nil n0
  have K0 : Keep h0 h0 [] := Keep.refl _ _
  refine own_cast (ef_hR m a) ?_
  show OwnGo p e below s (QhR Z a hd h0 n0) ({ frames := 0, cells := 0, slots := 0, locals := 0 } : Room).cells ({ frames := 0, cells := 0, slots := 0, locals := 0 } : Room).slots (s₁.setTop (mkF m 0 #[.val (.ref a)] []))
  refine own_on (fun t k => XS.aloadN X0.here hx rfl (hb hby d15_0) rfl rfl k) ?_
  show OwnGo p e below s _ _ _ (s₁.setTop (mkF m 1 #[.val (.ref a)] [(.ref a)]))
  obtain ⟨T1, X1, e1, st1⟩ := getF X0 hx hZ hown (host := "") (Or.inl (w83 hw)) Via.refl e0 P0 (g := (mkF m 1 #[.val (.ref a)] [(.ref a)])) rfl rfl (hb hby d15_1)
  refine own_on st1 ?_
  show OwnGo p e below s _ _ _ (T1.setTop (mkF m 4 #[.val (.ref a)] [(.ref hd)]))
  refine own_on (fun t k => XS.ifnullNo X1.here hx rfl (hb hby d15_4) rfl k) ?_
  show OwnGo p e below s _ _ _ (T1.setTop (mkF m 7 #[.val (.ref a)] []))
  refine own_on (fun t k => XS.iconst X1.here hx rfl (hb hby d15_7) k) ?_
  show OwnGo p e below s _ _ _ (T1.setTop (mkF m 8 #[.val (.ref a)] [(.int (1 : Int32))]))
  refine own_on (fun t k => XS.goto X1.here hx rfl (pc0 := 8) (pc' := 12) rfl (hb hby d15_8) (by decide) (by decide) k) ?_
  show OwnGo p e below s _ _ _ (T1.setTop (mkF m 12 #[.val (.ref a)] [(.int (1 : Int32))]))
  exact own_retN X1 hx hlk (t := .boolean) Bd.returns (by simp) (hb hby d15_12) e1 ⟨rfl, N0, rfl⟩ (by decide) (by decide)
theorem ef_hN (m : MethodId) (a : Addr)  : entryFrame m #[(.ref a)] 1 = mkF m 0 #[.val (.ref a)] [] := by first | (simp [entryFrame, mkF, argsToLocals, Value.category]; done) | rfl
def QhN (Z : State) (a : Addr) (h0 : Heap) (n0 : Nat) (v_ : Option Value) (h_ : Heap) (L_ : List Loc) : Prop := v_ = some (.int (0 : Int32)) ∧ Fr n0 L_ ∧ h_ = h0
set_option maxRecDepth 65536 in
set_option maxHeartbeats 40000000 in
theorem rmhN (l : Launch) (Z : State) (a0 : Array Value) (hw : ∀ d ∈ tables_1, d.before a0 Z = true) (ws : List Jvm.Cond) (a : Addr) (h0 : Heap) (n0 : Nat) (Z0 : n0 ≤ h0.size) (P0 : Fld Z h0 a "com/example/orderly_lock/orderlylock/LockState" "holder" "Lcom/example/orderly_lock/orderlylock/Grant;" .null) :
    MetFree l (⟨"com/example/orderly_lock/orderlylock/LockState", "held", "()Z"⟩ : MethodName) (head1 (Jvm.Cond.code (⟨"com/example/orderly_lock/orderlylock/LockState", "held", "()Z"⟩ : MethodName) prog_10_method_2_code 1 (some .boolean) :: ws) ({ frames := 0, cells := 0, slots := 0, locals := 0 } : Room)) (fun A_ U => A_ = #[(.ref a)] ∧ Z.Warmed39 U.vm ∧ U.heap = h0) (fun _ _ _ _ _ => True) (fun _ U_ o_ U'_ => ∃ v_ L_, o_ = .returned v_ ∧ QhN Z a h0 n0 v_ U'_.heap L_ ∧ FrameEnd U_ o_ U'_ L_ ({ frames := 0, cells := 0, slots := 0, locals := 0 } : Room).cells ({ frames := 0, cells := 0, slots := 0, locals := 0 } : Room).slots) := by
  refine MetFree.of_bodySF (plainFor_of_name pn_7) hisR ?_
  intro p e s m args below meth c s₁ Bd hml0 hP hK
  obtain ⟨rfl, hZ, hh⟩ := hP
  have hx := Bd.exec
  have hby := Bd.bytes
  have hml : c.maxLocals = 1 := hml0
  have hown : s.vm.findClass "com/example/orderly_lock/orderlylock/LockState" = some m.cls := findClass_of_methodNamed Bd.named
  have hnm := (name_of_methodNamed Bd.named Bd.method).1
  have hlk : meth.locks = false := Bd.notSynchronized
  have X0 : Stand p l e ({ frames := 0, cells := 0, slots := 0, locals := 0 } : Room) s m #[(.ref a)] below meth c s₁ [] 0 0 := Stand.of_body Bd
  have e0 : s₁.heap = h0 := by rw [← hh, Bd.state]; rfl
  have N0 := Fr.nil n0
  have K0 : Keep h0 h0 [] := Keep.refl _ _
  refine own_cast (ef_hN m a) ?_
  show OwnGo p e below s (QhN Z a h0 n0) ({ frames := 0, cells := 0, slots := 0, locals := 0 } : Room).cells ({ frames := 0, cells := 0, slots := 0, locals := 0 } : Room).slots (s₁.setTop (mkF m 0 #[.val (.ref a)] []))
  refine own_on (fun t k => XS.aloadN X0.here hx rfl (hb hby d15_0) rfl rfl k) ?_
  show OwnGo p e below s _ _ _ (s₁.setTop (mkF m 1 #[.val (.ref a)] [(.ref a)]))
  obtain ⟨T1, X1, e1, st1⟩ := getF X0 hx hZ hown (host := "") (Or.inl (w83 hw)) Via.refl e0 P0 (g := (mkF m 1 #[.val (.ref a)] [(.ref a)])) rfl rfl (hb hby d15_1)
  refine own_on st1 ?_
  show OwnGo p e below s _ _ _ (T1.setTop (mkF m 4 #[.val (.ref a)] [.null]))
  refine own_on (fun t k => XS.ifnullYes X1.here hx rfl (pc0 := 4) (pc' := 11) rfl (hb hby d15_4) rfl (by decide) (by decide) k) ?_
  show OwnGo p e below s _ _ _ (T1.setTop (mkF m 11 #[.val (.ref a)] []))
  refine own_on (fun t k => XS.iconst X1.here hx rfl (hb hby d15_11) k) ?_
  show OwnGo p e below s _ _ _ (T1.setTop (mkF m 12 #[.val (.ref a)] [(.int (0 : Int32))]))
  exact own_retN X1 hx hlk (t := .boolean) Bd.returns (by simp) (hb hby d15_12) e1 ⟨rfl, N0, rfl⟩ (by decide) (by decide)
theorem ef_0 (m : MethodId) (fl : Int32) (hi : Int64) (tok : Int64) (sess : Int32)  : entryFrame m #[(.int fl), (.long hi), (.long tok), (.int sess)] maxLocals = mkF m 0 #[.val (.int fl), .val (.long hi), .second, .val (.long tok), .second, .val (.int sess), .unset, .unset, .unset, .unset, .unset, .unset] [] := by first | (simp [entryFrame, mkF, argsToLocals, Value.category, maxLocals]; done) | rfl
def Q0 (Z : State) (fl : Int32) (hi : Int64) (tok : Int64) (sess : Int32) (cs : Int32) (sf : Value) (h0 : Heap) (n0 : Nat) (v_ : Option Value) (h_ : Heap) (L_ : List Loc) : Prop := v_ = some (.int (1 : Int32)) ∧ Fr n0 L_ ∧ Keep h0 h_ []
set_option maxRecDepth 65536 in
set_option maxHeartbeats 40000000 in
theorem rm0 (l : Launch) (Z : State) (a0 : Array Value) (hw : ∀ d ∈ tables_1, d.before a0 Z = true) (ws : List Jvm.Cond) (fl : Int32) (hi : Int64) (tok : Int64) (sess : Int32) (cs : Int32) (sf : Value) (h0 : Heap) (n0 : Nat) (Z0 : n0 ≤ h0.size) (P0 : Old Z n0 h0) (P1 : Sta Z Z.heap "java/lang/String" "COMPACT_STRINGS" "Z" (.int cs)) (P2 : ¬ (cs = (0 : Int32))) (P3 : Sta Z Z.heap "jdk/internal/util/Preconditions" "SIOOBE_FORMATTER" "Ljava/util/function/BiFunction;" sf) (P4 : sf.isRef = true) (P5 : Jvm.Lit.constHeld Z "com/example/orderly_lock/orderlylock/LockStateHeldPinLaw" 9) (P6 : Jvm.Lit.compactW.before a0 Z = true) :
    MetFree l x (head1 (Jvm.Cond.code x code maxLocals ret :: ws) room_1) (fun A_ U => A_ = #[(.int fl), (.long hi), (.long tok), (.int sess)] ∧ Z.Warmed39 U.vm ∧ U.heap = h0 ∧ IB Z U.vm []) (fun _ _ _ _ _ => True) (fun _ U_ o_ U'_ => ∃ v_ L_, o_ = .returned v_ ∧ Q0 Z fl hi tok sess cs sf h0 n0 v_ U'_.heap L_ ∧ ReturnedEndW U_ o_ U'_ L_ room_1.cells room_1.slots) := by
  refine MetFree.of_bodySF (plainFor_of_name pn_8) hisR ?_
  intro p e s m args below meth c s₁ Bd hml0 hP hK
  obtain ⟨rfl, hZ, hh, hIB⟩ := hP
  have hx := Bd.exec
  have hby := Bd.bytes
  have hml : c.maxLocals = 12 := hml0
  have hown : s.vm.findClass "com/example/orderly_lock/orderlylock/LockStateHeldPinLaw" = some m.cls := findClass_of_methodNamed Bd.named
  have hnm := (name_of_methodNamed Bd.named Bd.method).1
  have hlk : meth.locks = false := Bd.notSynchronized
  have X0 : Stand p l e room_1 s m #[(.int fl), (.long hi), (.long tok), (.int sess)] below meth c s₁ [] 0 0 := Stand.of_body Bd
  have e0 : s₁.heap = h0 := by rw [← hh, Bd.state]; rfl
  have N0 := Fr.nil n0
  have K0 : Keep h0 h0 [] := Keep.refl _ _
  have hwarm := X0.warmed
  have hS0 : s.Since s₁.vm 0 := X0.warmed.since _
  have hZ : Z.Warmed39 (s.setVm s₁.vm).vm := wtrans hZ X0.warmed
  have hown : (s.setVm s₁.vm).vm.findClass "com/example/orderly_lock/orderlylock/LockStateHeldPinLaw" = some m.cls := (X0.warmed.alike.findClass _ _).trans hown
  have X0 := X0.retabled X0.warmed.wide
  have hml : c.maxLocals = 12 := hml
  refine own_castW (ef_0 m fl hi tok sess) ?_
  show OwnGoW p e below s (Q0 Z fl hi tok sess cs sf h0 n0) room_1.cells room_1.slots (s₁.setTop (mkF m 0 #[.val (.int fl), .val (.long hi), .second, .val (.long tok), .second, .val (.int sess), .unset, .unset, .unset, .unset, .unset, .unset] []))
  refine own_onW (fun t k => XS.iloadN X0.here hx rfl (hb hby at_0) rfl k) ?_
  show OwnGoW p e below s _ _ _ (s₁.setTop (mkF m 1 #[.val (.int fl), .val (.long hi), .second, .val (.long tok), .second, .val (.int sess), .unset, .unset, .unset, .unset, .unset, .unset] [(.int fl)]))
  refine own_onW (fun t k => XS.iconst X0.here hx rfl (hb hby at_1) k) ?_
  show OwnGoW p e below s _ _ _ (s₁.setTop (mkF m 2 #[.val (.int fl), .val (.long hi), .second, .val (.long tok), .second, .val (.int sess), .unset, .unset, .unset, .unset, .unset, .unset] [(.int (1 : Int32)), (.int fl)]))
  refine own_onW (fun t k => XS.iand X0.here hx rfl (hb hby at_2) rfl k) ?_
  show OwnGoW p e below s _ _ _ (s₁.setTop (mkF m 3 #[.val (.int fl), .val (.long hi), .second, .val (.long tok), .second, .val (.int sess), .unset, .unset, .unset, .unset, .unset, .unset] [(.int (fl &&& (1 : Int32)))]))
  by_cases hf0 : (fl &&& (1 : Int32)) = (0 : Int32)
  · refine own_onW (fun t k => XS.ifYes X0.here hx rfl (pc0 := 3) (pc' := 10) rfl (hb hby at_3) rfl ((if0 _ _).trans (teq hf0).1) (by decide) (by decide) k) ?_
    show OwnGoW p e below s _ _ _ (s₁.setTop (mkF m 10 #[.val (.int fl), .val (.long hi), .second, .val (.long tok), .second, .val (.int sess), .unset, .unset, .unset, .unset, .unset, .unset] []))
    refine own_onW (fun t k => XS.iconst X0.here hx rfl (hb hby at_10) k) ?_
    show OwnGoW p e below s _ _ _ (s₁.setTop (mkF m 11 #[.val (.int fl), .val (.long hi), .second, .val (.long tok), .second, .val (.int sess), .unset, .unset, .unset, .unset, .unset, .unset] [(.int (0 : Int32))]))
    refine own_onW (fun t k => XS.istore X0.here hx rfl (hb hby at_11) rfl (l' := #[.val (.int fl), .val (.long hi), .second, .val (.long tok), .second, .val (.int sess), .val (.int (0 : Int32)), .unset, .unset, .unset, .unset, .unset]) rfl k) ?_
    show OwnGoW p e below s _ _ _ (s₁.setTop (mkF m 13 #[.val (.int fl), .val (.long hi), .second, .val (.long tok), .second, .val (.int sess), .val (.int (0 : Int32)), .unset, .unset, .unset, .unset, .unset] []))
    refine own_onW (fun t k => XS.iload X0.here hx rfl (hb hby at_13) rfl k) ?_
    show OwnGoW p e below s _ _ _ (s₁.setTop (mkF m 15 #[.val (.int fl), .val (.long hi), .second, .val (.long tok), .second, .val (.int sess), .val (.int (0 : Int32)), .unset, .unset, .unset, .unset, .unset] [(.int (0 : Int32))]))
    refine own_onW (fun t k => XS.ifNo X0.here hx rfl (hb hby at_15) rfl ((if0 _ _).trans (teq (by decide : (0 : Int32) = (0 : Int32))).2) k) ?_
    show OwnGoW p e below s _ _ _ (s₁.setTop (mkF m 18 #[.val (.int fl), .val (.long hi), .second, .val (.long tok), .second, .val (.int sess), .val (.int (0 : Int32)), .unset, .unset, .unset, .unset, .unset] []))
    refine own_onW (fun t k => XS.iloadN X0.here hx rfl (hb hby at_18) rfl k) ?_
    show OwnGoW p e below s _ _ _ (s₁.setTop (mkF m 19 #[.val (.int fl), .val (.long hi), .second, .val (.long tok), .second, .val (.int sess), .val (.int (0 : Int32)), .unset, .unset, .unset, .unset, .unset] [(.int fl)]))
    refine own_onW (fun t k => XS.iconst X0.here hx rfl (hb hby at_19) k) ?_
    show OwnGoW p e below s _ _ _ (s₁.setTop (mkF m 20 #[.val (.int fl), .val (.long hi), .second, .val (.long tok), .second, .val (.int sess), .val (.int (0 : Int32)), .unset, .unset, .unset, .unset, .unset] [(.int (1 : Int32)), (.int fl)]))
    refine own_onW (fun t k => XS.ishr X0.here hx rfl (hb hby at_20) rfl k) ?_
    show OwnGoW p e below s _ _ _ (s₁.setTop (mkF m 21 #[.val (.int fl), .val (.long hi), .second, .val (.long tok), .second, .val (.int sess), .val (.int (0 : Int32)), .unset, .unset, .unset, .unset, .unset] [(.int (fl >>> ((1 : Int32) &&& 31)))]))
    refine own_onW (fun t k => XS.iconst X0.here hx rfl (hb hby at_21) k) ?_
    show OwnGoW p e below s _ _ _ (s₁.setTop (mkF m 22 #[.val (.int fl), .val (.long hi), .second, .val (.long tok), .second, .val (.int sess), .val (.int (0 : Int32)), .unset, .unset, .unset, .unset, .unset] [(.int (1 : Int32)), (.int (fl >>> ((1 : Int32) &&& 31)))]))
    refine own_onW (fun t k => XS.iand X0.here hx rfl (hb hby at_22) rfl k) ?_
    show OwnGoW p e below s _ _ _ (s₁.setTop (mkF m 23 #[.val (.int fl), .val (.long hi), .second, .val (.long tok), .second, .val (.int sess), .val (.int (0 : Int32)), .unset, .unset, .unset, .unset, .unset] [(.int ((fl >>> ((1 : Int32) &&& 31)) &&& (1 : Int32)))]))
    by_cases hf1 : ((fl >>> ((1 : Int32) &&& 31)) &&& (1 : Int32)) = (0 : Int32)
    · refine own_onW (fun t k => XS.ifYes X0.here hx rfl (pc0 := 23) (pc' := 30) rfl (hb hby at_23) rfl ((if0 _ _).trans (teq hf1).1) (by decide) (by decide) k) ?_
      show OwnGoW p e below s _ _ _ (s₁.setTop (mkF m 30 #[.val (.int fl), .val (.long hi), .second, .val (.long tok), .second, .val (.int sess), .val (.int (0 : Int32)), .unset, .unset, .unset, .unset, .unset] []))
      refine own_onW (fun t k => XS.iconst X0.here hx rfl (hb hby at_30) k) ?_
      show OwnGoW p e below s _ _ _ (s₁.setTop (mkF m 31 #[.val (.int fl), .val (.long hi), .second, .val (.long tok), .second, .val (.int sess), .val (.int (0 : Int32)), .unset, .unset, .unset, .unset, .unset] [(.int (0 : Int32))]))
      refine own_onW (fun t k => XS.istore X0.here hx rfl (hb hby at_31) rfl (l' := #[.val (.int fl), .val (.long hi), .second, .val (.long tok), .second, .val (.int sess), .val (.int (0 : Int32)), .val (.int (0 : Int32)), .unset, .unset, .unset, .unset]) rfl k) ?_
      show OwnGoW p e below s _ _ _ (s₁.setTop (mkF m 33 #[.val (.int fl), .val (.long hi), .second, .val (.long tok), .second, .val (.int sess), .val (.int (0 : Int32)), .val (.int (0 : Int32)), .unset, .unset, .unset, .unset] []))
      obtain ⟨T1, h1, X1, e1, E1, A1, D1, u1, st1⟩ := newO X0 hx hZ hown (w0 hw) (w1 hw) (w2 hw) e0 (g := (mkF m 33 #[.val (.int fl), .val (.long hi), .second, .val (.long tok), .second, .val (.int sess), .val (.int (0 : Int32)), .val (.int (0 : Int32)), .unset, .unset, .unset, .unset] [])) rfl (hb hby at_33) (by decide) (by decide)
      obtain ⟨b1, g1⟩ : ∃ z, z = h0.size := ⟨_, rfl⟩
      rw [← g1] at A1 D1 st1
      have g2 : n0 ≤ b1 := Nat.le_trans Z0 (Nat.le_of_eq g1.symm)
      have z3 : h0.size ≤ b1 := Nat.le_trans K0.1 (Nat.le_of_eq g1.symm)
      have Z1 : n0 ≤ h1.size := Nat.le_trans Z0 E1.1
      have K1 : Keep h0 h1 [] := K0.ext E1
      have F1_value : Fld Z h1 b1 "com/example/orderly_lock/orderlylock/LockName" "value" "Ljava/lang/String;" .null := D1 (Or.inr (w71 hw)) (ty := (.object "java/lang/String")) (by decide)
      refine own_onW st1 ?_
      show OwnGoW p e below s _ _ _ (T1.setTop (mkF m 36 #[.val (.int fl), .val (.long hi), .second, .val (.long tok), .second, .val (.int sess), .val (.int (0 : Int32)), .val (.int (0 : Int32)), .unset, .unset, .unset, .unset] [(.ref b1)]))
      refine own_onW (fun t k => XS.dup X1.here hx rfl (hb hby at_36) rfl rfl k) ?_
      show OwnGoW p e below s _ _ _ (T1.setTop (mkF m 37 #[.val (.int fl), .val (.long hi), .second, .val (.long tok), .second, .val (.int sess), .val (.int (0 : Int32)), .val (.int (0 : Int32)), .unset, .unset, .unset, .unset] [(.ref b1), (.ref b1)]))
      have IB0 : IB Z s₁.vm [] := own_ib hIB hwarm
      have f5 : 0 ≤ h1.size := Nat.le_trans (Nat.zero_le _) E1.1
      obtain ⟨b4, T4, h4, k4, c4, d4, X4, e4, E4, hS4, hk4, hZ, hown, xE4, xC4, xV4, xA4, xl4, xm4, IB4, st4⟩ := ldcSV (Ts := []) X1 hx hZ hown (w3 hw) (own_str hw) e1 hS0 f5 (Fr.nil _) (fun b cl q => by rw [hh]; exact P0.2.2 b cl q) IB0 (by decide) P5 P6 (vs := [(.int (108 : Int32)), (.int (101 : Int32)), (.int (100 : Int32)), (.int (103 : Int32)), (.int (101 : Int32)), (.int (114 : Int32))]) (z := 6) (by decide) (by decide) (by decide) (g := (mkF m 37 #[.val (.int fl), .val (.long hi), .second, .val (.long tok), .second, .val (.int sess), .val (.int (0 : Int32)), .val (.int (0 : Int32)), .unset, .unset, .unset, .unset] [(.ref b1), (.ref b1)])) rfl (hb hby at_37) (n := 24) (by decide) (by decide) (by decide) (by decide)
      have Z4 : n0 ≤ h4.size := Nat.le_trans Z1 E4.1
      have K4 : Keep h0 h4 [] := K1.ext E4
      have f6 : Exa Z h4 b1 "com/example/orderly_lock/orderlylock/LockName" := A1.ext E4
      have ne7 : b1 ≠ b4 := Exa.ne f6 xE4 (by decide)
      have ne8 : b1 ≠ c4 := Exa.neArv f6 xA4 (w1 hw)
      refine own_onW st4 ?_
      show OwnGoW p e below s _ _ _ (T4.setTop (mkF m 39 #[.val (.int fl), .val (.long hi), .second, .val (.long tok), .second, .val (.int sess), .val (.int (0 : Int32)), .val (.int (0 : Int32)), .unset, .unset, .unset, .unset] [(.ref b4), (.ref b1), (.ref b1)]))
      have f9 : Old Z n0 h1 := P0.ext E1
      have f10 : Old Z n0 h4 := f9.ext E4
      have f11 : Fld Z h4 b1 "com/example/orderly_lock/orderlylock/LockName" "value" "Ljava/lang/String;" .null := F1_value.ext E4
      obtain ⟨_, _, ⟨T12, L12, k12, n12⟩, -, X12, hS12, hG12, ⟨Lc12, hQ12, l12, y12, z12⟩, st12⟩ := X4.specialBackS hx (y := (⟨"com/example/orderly_lock/orderlylock/LockName", "<init>", "(Ljava/lang/String;)V"⟩ : MethodName)) rfl hown (mvT hZ (w11 hw)) (mvT hZ (w12 hw)) (mvT hZ (w13 hw)) (by decide) (backOfS (W := 1) (rm1 l Z a0 hw [] b1 b4 cs sf c4 d4 .null h4 n0 Z4 f10 P1 P2 P3 P4 f6 f11 g2 xE4 xC4 xV4 xA4) hZ (w13 hw) (w2 hw) (by decide) (by decide)) (g := (mkF m 39 #[.val (.int fl), .val (.long hi), .second, .val (.long tok), .second, .val (.int sess), .val (.int (0 : Int32)), .val (.int (0 : Int32)), .unset, .unset, .unset, .unset] [(.ref b4), (.ref b1), (.ref b1)])) rfl (by rw [hml]; rfl) (Steps.refl _) (a := b1) (argsL := [(.ref b4)]) (rest := [(.ref b1)]) (lenOf pd_12 rfl) rfl (by show 2 * 0 + _ ≤ _; exact Nat.le_of_eq rfl) (hb hby at_39) (fun _ _ => ⟨rfl, e4, (by decide : 3 + 2 ≤ _), (by decide : 29 + 40 ≤ _)⟩)
      dsimp only [Pt.U, Pt.locs, Pt.cells, Pt.slots] at X12 l12 y12 z12 st12 hQ12 hS12 hG12
      obtain ⟨X12, hS12, hZ, hown⟩ := rebS hS4 (by rw [e4]; exact hk4) X12 hS12 hG12 hZ hown
      replace X12 := own_num (c' := 5) (n' := 69) X12 l12 (y12.trans rfl) (z12.trans rfl)
      obtain ⟨rfl, N12q, K12q, c12_0, c12_1⟩ := hQ12
      have N12 := Fr.app N0 N12q
      have Z12 : n0 ≤ T12.heap.size := Nat.le_trans Z4 K12q.1
      have K12 : Keep h0 T12.heap [] := K4.trans K12q (allS (P := fun x => x ∈ [] ∨ h0.size ≤ x) (Or.inr z3) all0)
      have hk12 : T12.heap.size ≤ T12.heap.size := Nat.le_refl _
      refine own_trW st12 ?_
      show OwnGoW p e below s _ _ _ (T12.setTop (mkF m 42 #[.val (.int fl), .val (.long hi), .second, .val (.long tok), .second, .val (.int sess), .val (.int (0 : Int32)), .val (.int (0 : Int32)), .unset, .unset, .unset, .unset] [(.ref b1)]))
      refine own_onW (fun t k => XS.astore X12.here hx rfl (hb hby at_42) rfl rfl (l' := #[.val (.int fl), .val (.long hi), .second, .val (.long tok), .second, .val (.int sess), .val (.int (0 : Int32)), .val (.int (0 : Int32)), .val (.ref b1), .unset, .unset, .unset]) rfl k) ?_
      show OwnGoW p e below s _ _ _ (T12.setTop (mkF m 44 #[.val (.int fl), .val (.long hi), .second, .val (.long tok), .second, .val (.int sess), .val (.int (0 : Int32)), .val (.int (0 : Int32)), .val (.ref b1), .unset, .unset, .unset] []))
      refine own_onW (fun t k => XS.aconstNull X12.here hx rfl (hb hby at_44) k) ?_
      show OwnGoW p e below s _ _ _ (T12.setTop (mkF m 45 #[.val (.int fl), .val (.long hi), .second, .val (.long tok), .second, .val (.int sess), .val (.int (0 : Int32)), .val (.int (0 : Int32)), .val (.ref b1), .unset, .unset, .unset] [.null]))
      refine own_onW (fun t k => XS.astore X12.here hx rfl (hb hby at_45) rfl rfl (l' := #[.val (.int fl), .val (.long hi), .second, .val (.long tok), .second, .val (.int sess), .val (.int (0 : Int32)), .val (.int (0 : Int32)), .val (.ref b1), .val .null, .unset, .unset]) rfl k) ?_
      show OwnGoW p e below s _ _ _ (T12.setTop (mkF m 47 #[.val (.int fl), .val (.long hi), .second, .val (.long tok), .second, .val (.int sess), .val (.int (0 : Int32)), .val (.int (0 : Int32)), .val (.ref b1), .val .null, .unset, .unset] []))
      refine own_onW (fun t k => XS.iload X12.here hx rfl (hb hby at_47) rfl k) ?_
      show OwnGoW p e below s _ _ _ (T12.setTop (mkF m 49 #[.val (.int fl), .val (.long hi), .second, .val (.long tok), .second, .val (.int sess), .val (.int (0 : Int32)), .val (.int (0 : Int32)), .val (.ref b1), .val .null, .unset, .unset] [(.int (0 : Int32))]))
      refine own_onW (fun t k => XS.ifYes X12.here hx rfl (pc0 := 49) (pc' := 92) rfl (hb hby at_49) rfl ((if0 _ _).trans (teq (by decide : (0 : Int32) = (0 : Int32))).1) (by decide) (by decide) k) ?_
      show OwnGoW p e below s _ _ _ (T12.setTop (mkF m 92 #[.val (.int fl), .val (.long hi), .second, .val (.long tok), .second, .val (.int sess), .val (.int (0 : Int32)), .val (.int (0 : Int32)), .val (.ref b1), .val .null, .unset, .unset] []))
      obtain ⟨T13, h13, X13, e13, E13, A13, D13, u13, st13⟩ := newO X12 hx hZ hown (w72 hw) (w73 hw) (w74 hw) rfl (g := (mkF m 92 #[.val (.int fl), .val (.long hi), .second, .val (.long tok), .second, .val (.int sess), .val (.int (0 : Int32)), .val (.int (0 : Int32)), .val (.ref b1), .val .null, .unset, .unset] [])) rfl (hb hby at_92) (by decide) (by decide)
      obtain ⟨b13, g13⟩ : ∃ z, z = T12.heap.size := ⟨_, rfl⟩
      rw [← g13] at A13 D13 st13
      have f14 : Exa Z T12.heap b1 "com/example/orderly_lock/orderlylock/LockName" := f6.keep K12q
      have ne15 : b1 ≠ b13 := Nat.ne_of_lt (Nat.lt_of_lt_of_le f14.lt (Nat.le_of_eq g13.symm))
      have f16 : Exa Z T12.heap b4 "java/lang/String" := xE4.keep K12q
      have ne17 : b4 ≠ b13 := Nat.ne_of_lt (Nat.lt_of_lt_of_le f16.lt (Nat.le_of_eq g13.symm))
      have f18 : Arv Z T12.heap c4 d4 .byte (6 : Int32) [(.int (108 : Int32)), (.int (101 : Int32)), (.int (100 : Int32)), (.int (103 : Int32)), (.int (101 : Int32)), (.int (114 : Int32))] (.int (0 : Int32)) := xA4.keep K12q (ninS (Ne.symm ne8) nin0)
      have ne19 : c4 ≠ b13 := Nat.ne_of_lt (Nat.lt_of_lt_of_le f18.lt (Nat.le_of_eq g13.symm))
      have g20 : n0 ≤ b13 := Nat.le_trans Z12 (Nat.le_of_eq g13.symm)
      have z21 : h0.size ≤ b13 := Nat.le_trans K12.1 (Nat.le_of_eq g13.symm)
      have Z13 : n0 ≤ h13.size := Nat.le_trans Z12 E13.1
      have K13 : Keep h0 h13 [] := K12.ext E13
      have F13_lock : Fld Z h13 b13 "com/example/orderly_lock/orderlylock/LockState" "lock" "Lcom/example/orderly_lock/orderlylock/LockName;" .null := D13 (Or.inr (w82 hw)) (ty := (.object "com/example/orderly_lock/orderlylock/LockName")) (by decide)
      have F13_holder : Fld Z h13 b13 "com/example/orderly_lock/orderlylock/LockState" "holder" "Lcom/example/orderly_lock/orderlylock/Grant;" .null := D13 (Or.inr (w84 hw)) (ty := (.object "com/example/orderly_lock/orderlylock/Grant")) (by decide)
      have F13_highestToken : Fld Z h13 b13 "com/example/orderly_lock/orderlylock/LockState" "highestToken" "J" (.long (0 : Int64)) := D13 (Or.inr (w86 hw)) (ty := .long) (by decide)
      have F13_delayed : Fld Z h13 b13 "com/example/orderly_lock/orderlylock/LockState" "delayed" "Z" (.int (0 : Int32)) := D13 (Or.inr (w88 hw)) (ty := .boolean) (by decide)
      refine own_onW st13 ?_
      show OwnGoW p e below s _ _ _ (T13.setTop (mkF m 95 #[.val (.int fl), .val (.long hi), .second, .val (.long tok), .second, .val (.int sess), .val (.int (0 : Int32)), .val (.int (0 : Int32)), .val (.ref b1), .val .null, .unset, .unset] [(.ref b13)]))
      refine own_onW (fun t k => XS.dup X13.here hx rfl (hb hby at_95) rfl rfl k) ?_
      show OwnGoW p e below s _ _ _ (T13.setTop (mkF m 96 #[.val (.int fl), .val (.long hi), .second, .val (.long tok), .second, .val (.int sess), .val (.int (0 : Int32)), .val (.int (0 : Int32)), .val (.ref b1), .val .null, .unset, .unset] [(.ref b13), (.ref b13)]))
      refine own_onW (fun t k => XS.aload X13.here hx rfl (hb hby at_96) rfl rfl k) ?_
      show OwnGoW p e below s _ _ _ (T13.setTop (mkF m 98 #[.val (.int fl), .val (.long hi), .second, .val (.long tok), .second, .val (.int sess), .val (.int (0 : Int32)), .val (.int (0 : Int32)), .val (.ref b1), .val .null, .unset, .unset] [(.ref b1), (.ref b13), (.ref b13)]))
      refine own_onW (fun t k => XS.aload X13.here hx rfl (hb hby at_98) rfl rfl k) ?_
      show OwnGoW p e below s _ _ _ (T13.setTop (mkF m 100 #[.val (.int fl), .val (.long hi), .second, .val (.long tok), .second, .val (.int sess), .val (.int (0 : Int32)), .val (.int (0 : Int32)), .val (.ref b1), .val .null, .unset, .unset] [.null, (.ref b1), (.ref b13), (.ref b13)]))
      refine own_onW (fun t k => XS.lloadN X13.here hx rfl (hb hby at_100) rfl k) ?_
      show OwnGoW p e below s _ _ _ (T13.setTop (mkF m 101 #[.val (.int fl), .val (.long hi), .second, .val (.long tok), .second, .val (.int sess), .val (.int (0 : Int32)), .val (.int (0 : Int32)), .val (.ref b1), .val .null, .unset, .unset] [(.long hi), .null, (.ref b1), (.ref b13), (.ref b13)]))
      refine own_onW (fun t k => XS.iload X13.here hx rfl (hb hby at_101) rfl k) ?_
      show OwnGoW p e below s _ _ _ (T13.setTop (mkF m 103 #[.val (.int fl), .val (.long hi), .second, .val (.long tok), .second, .val (.int sess), .val (.int (0 : Int32)), .val (.int (0 : Int32)), .val (.ref b1), .val .null, .unset, .unset] [(.int (0 : Int32)), (.long hi), .null, (.ref b1), (.ref b13), (.ref b13)]))
      obtain ⟨_, _, ⟨T22, L22, k22, n22⟩, -, X22, hS22, hG22, ⟨Lc22, hQ22, l22, y22, z22⟩, st22⟩ := X13.specialBackS hx (y := (⟨"com/example/orderly_lock/orderlylock/LockState", "<init>", "(Lcom/example/orderly_lock/orderlylock/LockName;Lcom/example/orderly_lock/orderlylock/Grant;JZ)V"⟩ : MethodName)) rfl hown (mvT hZ (w75 hw)) (mvT hZ (w76 hw)) (mvT hZ (w77 hw)) (by decide) (backOfS (W := 1) (rmlsN l Z a0 hw [] b13 b1 hi (0 : Int32) .null .null (.long (0 : Int64)) (.int (0 : Int32)) h13 n0 Z13 A13 F13_lock F13_holder F13_highestToken F13_delayed g20) hZ (w77 hw) (w74 hw) (by decide) (by decide)) (g := (mkF m 103 #[.val (.int fl), .val (.long hi), .second, .val (.long tok), .second, .val (.int sess), .val (.int (0 : Int32)), .val (.int (0 : Int32)), .val (.ref b1), .val .null, .unset, .unset] [(.int (0 : Int32)), (.long hi), .null, (.ref b1), (.ref b13), (.ref b13)])) rfl (by rw [hml]; rfl) (Steps.refl _) (a := b13) (argsL := [(.ref b1), .null, (.long hi), (.int (0 : Int32))]) (rest := [(.ref b13)]) (lenOf pd_13 rfl) rfl (by show 2 * 0 + _ ≤ _; exact Nat.le_of_eq rfl) (hb hby at_103) (fun _ _ => ⟨rfl, e13, (by decide : 6 + 2 ≤ _), (by decide : 73 + 20 ≤ _)⟩)
      dsimp only [Pt.U, Pt.locs, Pt.cells, Pt.slots] at X22 l22 y22 z22 st22 hQ22 hS22 hG22
      have f23 : T12.heap.size ≤ h13.size := Nat.le_trans hk12 E13.1
      obtain ⟨X22, hS22, hZ, hown⟩ := rebS hS12 (by rw [e13]; exact f23) X22 hS22 hG22 hZ hown
      replace X22 := own_num (c' := 8) (n' := 93) X22 l22 (y22.trans rfl) (z22.trans rfl)
      obtain ⟨rfl, N22q, K22q, c22_0, c22_1⟩ := hQ22
      have N22 := Fr.app N12 N22q
      have Z22 : n0 ≤ T22.heap.size := Nat.le_trans Z13 K22q.1
      have K22 : Keep h0 T22.heap [] := K13.trans K22q (allS (P := fun x => x ∈ [] ∨ h0.size ≤ x) (Or.inr z21) all0)
      have hk22 : T22.heap.size ≤ T22.heap.size := Nat.le_refl _
      refine own_trW st22 ?_
      show OwnGoW p e below s _ _ _ (T22.setTop (mkF m 106 #[.val (.int fl), .val (.long hi), .second, .val (.long tok), .second, .val (.int sess), .val (.int (0 : Int32)), .val (.int (0 : Int32)), .val (.ref b1), .val .null, .unset, .unset] [(.ref b13)]))
      refine own_onW (fun t k => XS.astore X22.here hx rfl (hb hby at_106) rfl rfl (l' := #[.val (.int fl), .val (.long hi), .second, .val (.long tok), .second, .val (.int sess), .val (.int (0 : Int32)), .val (.int (0 : Int32)), .val (.ref b1), .val .null, .val (.ref b13), .unset]) rfl k) ?_
      show OwnGoW p e below s _ _ _ (T22.setTop (mkF m 108 #[.val (.int fl), .val (.long hi), .second, .val (.long tok), .second, .val (.int sess), .val (.int (0 : Int32)), .val (.int (0 : Int32)), .val (.ref b1), .val .null, .val (.ref b13), .unset] []))
      refine own_onW (fun t k => XS.aload X22.here hx rfl (hb hby at_108) rfl rfl k) ?_
      show OwnGoW p e below s _ _ _ (T22.setTop (mkF m 110 #[.val (.int fl), .val (.long hi), .second, .val (.long tok), .second, .val (.int sess), .val (.int (0 : Int32)), .val (.int (0 : Int32)), .val (.ref b1), .val .null, .val (.ref b13), .unset] [(.ref b13)]))
      obtain ⟨cq24, kq24, q24a, q24b, q24c⟩ := isOf hZ rfl c22_0
      obtain ⟨_, _, ⟨T24, L24, k24, n24⟩, -, X24, ⟨Lc24, hQ24, l24, y24, z24⟩, st24⟩ := X22.virtualBack hx (y := (⟨"com/example/orderly_lock/orderlylock/LockState", "held", "()Z"⟩ : MethodName)) (z := (⟨"com/example/orderly_lock/orderlylock/LockState", "held", "()Z"⟩ : MethodName)) hown (mvT hZ (w89 hw)) (mvT hZ (w90 hw)) (notFace_of_selects (args := #[]) (mvT hZ (w92 hw))) (mvT hZ (w92 hw)) (mvT hZ (w91 hw)) (by decide) (backOf (W := 0) (rmhN l Z a0 hw [] b13 T22.heap n0 Z22 c22_1) hZ (w93 hw) (w74 hw) (by decide) (by decide)) q24a q24c (g := (mkF m 110 #[.val (.int fl), .val (.long hi), .second, .val (.long tok), .second, .val (.int sess), .val (.int (0 : Int32)), .val (.int (0 : Int32)), .val (.ref b1), .val .null, .val (.ref b13), .unset] [(.ref b13)])) rfl (by rw [hml]; rfl) (Steps.refl _) (argsL := []) (rest := []) (lenOf pd_3 rfl) rfl (by show 2 * 0 + _ ≤ _; exact Nat.le_of_eq rfl) (hb hby at_110) (fun _ _ => ⟨rfl, rfl, (by decide : 8 + 0 ≤ _), (by decide : 93 + 0 ≤ _)⟩)
      dsimp only [Pt.U, Pt.locs, Pt.cells, Pt.slots] at X24 l24 y24 z24 st24 hQ24
      replace X24 := own_num (c' := 8) (n' := 93) X24 l24 (y24.trans rfl) (z24.trans rfl)
      obtain ⟨rfl, N24q, e24⟩ := hQ24
      have N24 := Fr.app N22 N24q
      refine own_trW st24 ?_
      show OwnGoW p e below s _ _ _ (T24.setTop (mkF m 113 #[.val (.int fl), .val (.long hi), .second, .val (.long tok), .second, .val (.int sess), .val (.int (0 : Int32)), .val (.int (0 : Int32)), .val (.ref b1), .val .null, .val (.ref b13), .unset] [(.int (0 : Int32))]))
      refine own_onW (fun t k => XS.istore X24.here hx rfl (hb hby at_113) rfl (l' := #[.val (.int fl), .val (.long hi), .second, .val (.long tok), .second, .val (.int sess), .val (.int (0 : Int32)), .val (.int (0 : Int32)), .val (.ref b1), .val .null, .val (.ref b13), .val (.int (0 : Int32))]) rfl k) ?_
      show OwnGoW p e below s _ _ _ (T24.setTop (mkF m 115 #[.val (.int fl), .val (.long hi), .second, .val (.long tok), .second, .val (.int sess), .val (.int (0 : Int32)), .val (.int (0 : Int32)), .val (.ref b1), .val .null, .val (.ref b13), .val (.int (0 : Int32))] []))
      refine own_onW (fun t k => XS.iload X24.here hx rfl (hb hby at_115) rfl k) ?_
      show OwnGoW p e below s _ _ _ (T24.setTop (mkF m 117 #[.val (.int fl), .val (.long hi), .second, .val (.long tok), .second, .val (.int sess), .val (.int (0 : Int32)), .val (.int (0 : Int32)), .val (.ref b1), .val .null, .val (.ref b13), .val (.int (0 : Int32))] [(.int (0 : Int32))]))
      refine own_onW (fun t k => XS.iload X24.here hx rfl (hb hby at_117) rfl k) ?_
      show OwnGoW p e below s _ _ _ (T24.setTop (mkF m 119 #[.val (.int fl), .val (.long hi), .second, .val (.long tok), .second, .val (.int sess), .val (.int (0 : Int32)), .val (.int (0 : Int32)), .val (.ref b1), .val .null, .val (.ref b13), .val (.int (0 : Int32))] [(.int (0 : Int32)), (.int (0 : Int32))]))
      refine own_onW (fun t k => XS.icmpYes X24.here hx rfl (pc0 := 119) (pc' := 124) rfl (hb hby at_119) rfl (teq (by decide : (0 : Int32) = (0 : Int32))).1 (by decide) (by decide) k) ?_
      show OwnGoW p e below s _ _ _ (T24.setTop (mkF m 124 #[.val (.int fl), .val (.long hi), .second, .val (.long tok), .second, .val (.int sess), .val (.int (0 : Int32)), .val (.int (0 : Int32)), .val (.ref b1), .val .null, .val (.ref b13), .val (.int (0 : Int32))] []))
      refine own_onW (fun t k => XS.iload X24.here hx rfl (hb hby at_124) rfl k) ?_
      show OwnGoW p e below s _ _ _ (T24.setTop (mkF m 126 #[.val (.int fl), .val (.long hi), .second, .val (.long tok), .second, .val (.int sess), .val (.int (0 : Int32)), .val (.int (0 : Int32)), .val (.ref b1), .val .null, .val (.ref b13), .val (.int (0 : Int32))] [(.int (0 : Int32))]))
      refine own_onW (fun t k => XS.ifYes X24.here hx rfl (pc0 := 126) (pc' := 136) rfl (hb hby at_126) rfl ((if0 _ _).trans (teq (by decide : (0 : Int32) = (0 : Int32))).1) (by decide) (by decide) k) ?_
      show OwnGoW p e below s _ _ _ (T24.setTop (mkF m 136 #[.val (.int fl), .val (.long hi), .second, .val (.long tok), .second, .val (.int sess), .val (.int (0 : Int32)), .val (.int (0 : Int32)), .val (.ref b1), .val .null, .val (.ref b13), .val (.int (0 : Int32))] []))
      refine own_onW (fun t k => XS.iconst X24.here hx rfl (hb hby at_136) k) ?_
      show OwnGoW p e below s _ _ _ (T24.setTop (mkF m 137 #[.val (.int fl), .val (.long hi), .second, .val (.long tok), .second, .val (.int sess), .val (.int (0 : Int32)), .val (.int (0 : Int32)), .val (.ref b1), .val .null, .val (.ref b13), .val (.int (0 : Int32))] [(.int (1 : Int32))]))
      exact own_retNW X24 hx hlk (t := .boolean) Bd.returns (by simp) (hb hby at_137) e24 ⟨rfl, N24, K22⟩ (by decide) (by decide) hS22 (by rw [e24]; exact hk22)
    · refine own_onW (fun t k => XS.ifNo X0.here hx rfl (hb hby at_23) rfl ((if0 _ _).trans (feq hf1).1) k) ?_
      show OwnGoW p e below s _ _ _ (s₁.setTop (mkF m 26 #[.val (.int fl), .val (.long hi), .second, .val (.long tok), .second, .val (.int sess), .val (.int (0 : Int32)), .unset, .unset, .unset, .unset, .unset] []))
      refine own_onW (fun t k => XS.iconst X0.here hx rfl (hb hby at_26) k) ?_
      show OwnGoW p e below s _ _ _ (s₁.setTop (mkF m 27 #[.val (.int fl), .val (.long hi), .second, .val (.long tok), .second, .val (.int sess), .val (.int (0 : Int32)), .unset, .unset, .unset, .unset, .unset] [(.int (1 : Int32))]))
      refine own_onW (fun t k => XS.goto X0.here hx rfl (pc0 := 27) (pc' := 31) rfl (hb hby at_27) (by decide) (by decide) k) ?_
      show OwnGoW p e below s _ _ _ (s₁.setTop (mkF m 31 #[.val (.int fl), .val (.long hi), .second, .val (.long tok), .second, .val (.int sess), .val (.int (0 : Int32)), .unset, .unset, .unset, .unset, .unset] [(.int (1 : Int32))]))
      refine own_onW (fun t k => XS.istore X0.here hx rfl (hb hby at_31) rfl (l' := #[.val (.int fl), .val (.long hi), .second, .val (.long tok), .second, .val (.int sess), .val (.int (0 : Int32)), .val (.int (1 : Int32)), .unset, .unset, .unset, .unset]) rfl k) ?_
      show OwnGoW p e below s _ _ _ (s₁.setTop (mkF m 33 #[.val (.int fl), .val (.long hi), .second, .val (.long tok), .second, .val (.int sess), .val (.int (0 : Int32)), .val (.int (1 : Int32)), .unset, .unset, .unset, .unset] []))
      obtain ⟨T25, h25, X25, e25, E25, A25, D25, u25, st25⟩ := newO X0 hx hZ hown (w0 hw) (w1 hw) (w2 hw) e0 (g := (mkF m 33 #[.val (.int fl), .val (.long hi), .second, .val (.long tok), .second, .val (.int sess), .val (.int (0 : Int32)), .val (.int (1 : Int32)), .unset, .unset, .unset, .unset] [])) rfl (hb hby at_33) (by decide) (by decide)
      obtain ⟨b25, g25⟩ : ∃ z, z = h0.size := ⟨_, rfl⟩
      rw [← g25] at A25 D25 st25
      have g26 : n0 ≤ b25 := Nat.le_trans Z0 (Nat.le_of_eq g25.symm)
      have z27 : h0.size ≤ b25 := Nat.le_trans K0.1 (Nat.le_of_eq g25.symm)
      have Z25 : n0 ≤ h25.size := Nat.le_trans Z0 E25.1
      have K25 : Keep h0 h25 [] := K0.ext E25
      have F25_value : Fld Z h25 b25 "com/example/orderly_lock/orderlylock/LockName" "value" "Ljava/lang/String;" .null := D25 (Or.inr (w71 hw)) (ty := (.object "java/lang/String")) (by decide)
      refine own_onW st25 ?_
      show OwnGoW p e below s _ _ _ (T25.setTop (mkF m 36 #[.val (.int fl), .val (.long hi), .second, .val (.long tok), .second, .val (.int sess), .val (.int (0 : Int32)), .val (.int (1 : Int32)), .unset, .unset, .unset, .unset] [(.ref b25)]))
      refine own_onW (fun t k => XS.dup X25.here hx rfl (hb hby at_36) rfl rfl k) ?_
      show OwnGoW p e below s _ _ _ (T25.setTop (mkF m 37 #[.val (.int fl), .val (.long hi), .second, .val (.long tok), .second, .val (.int sess), .val (.int (0 : Int32)), .val (.int (1 : Int32)), .unset, .unset, .unset, .unset] [(.ref b25), (.ref b25)]))
      have IB0 : IB Z s₁.vm [] := own_ib hIB hwarm
      have f29 : 0 ≤ h25.size := Nat.le_trans (Nat.zero_le _) E25.1
      obtain ⟨b28, T28, h28, k28, c28, d28, X28, e28, E28, hS28, hk28, hZ, hown, xE28, xC28, xV28, xA28, xl28, xm28, IB28, st28⟩ := ldcSV (Ts := []) X25 hx hZ hown (w3 hw) (own_str hw) e25 hS0 f29 (Fr.nil _) (fun b cl q => by rw [hh]; exact P0.2.2 b cl q) IB0 (by decide) P5 P6 (vs := [(.int (108 : Int32)), (.int (101 : Int32)), (.int (100 : Int32)), (.int (103 : Int32)), (.int (101 : Int32)), (.int (114 : Int32))]) (z := 6) (by decide) (by decide) (by decide) (g := (mkF m 37 #[.val (.int fl), .val (.long hi), .second, .val (.long tok), .second, .val (.int sess), .val (.int (0 : Int32)), .val (.int (1 : Int32)), .unset, .unset, .unset, .unset] [(.ref b25), (.ref b25)])) rfl (hb hby at_37) (n := 24) (by decide) (by decide) (by decide) (by decide)
      have Z28 : n0 ≤ h28.size := Nat.le_trans Z25 E28.1
      have K28 : Keep h0 h28 [] := K25.ext E28
      have f30 : Exa Z h28 b25 "com/example/orderly_lock/orderlylock/LockName" := A25.ext E28
      have ne31 : b25 ≠ b28 := Exa.ne f30 xE28 (by decide)
      have ne32 : b25 ≠ c28 := Exa.neArv f30 xA28 (w1 hw)
      refine own_onW st28 ?_
      show OwnGoW p e below s _ _ _ (T28.setTop (mkF m 39 #[.val (.int fl), .val (.long hi), .second, .val (.long tok), .second, .val (.int sess), .val (.int (0 : Int32)), .val (.int (1 : Int32)), .unset, .unset, .unset, .unset] [(.ref b28), (.ref b25), (.ref b25)]))
      have f33 : Old Z n0 h25 := P0.ext E25
      have f34 : Old Z n0 h28 := f33.ext E28
      have f35 : Fld Z h28 b25 "com/example/orderly_lock/orderlylock/LockName" "value" "Ljava/lang/String;" .null := F25_value.ext E28
      obtain ⟨_, _, ⟨T36, L36, k36, n36⟩, -, X36, hS36, hG36, ⟨Lc36, hQ36, l36, y36, z36⟩, st36⟩ := X28.specialBackS hx (y := (⟨"com/example/orderly_lock/orderlylock/LockName", "<init>", "(Ljava/lang/String;)V"⟩ : MethodName)) rfl hown (mvT hZ (w11 hw)) (mvT hZ (w12 hw)) (mvT hZ (w13 hw)) (by decide) (backOfS (W := 1) (rm1 l Z a0 hw [] b25 b28 cs sf c28 d28 .null h28 n0 Z28 f34 P1 P2 P3 P4 f30 f35 g26 xE28 xC28 xV28 xA28) hZ (w13 hw) (w2 hw) (by decide) (by decide)) (g := (mkF m 39 #[.val (.int fl), .val (.long hi), .second, .val (.long tok), .second, .val (.int sess), .val (.int (0 : Int32)), .val (.int (1 : Int32)), .unset, .unset, .unset, .unset] [(.ref b28), (.ref b25), (.ref b25)])) rfl (by rw [hml]; rfl) (Steps.refl _) (a := b25) (argsL := [(.ref b28)]) (rest := [(.ref b25)]) (lenOf pd_12 rfl) rfl (by show 2 * 0 + _ ≤ _; exact Nat.le_of_eq rfl) (hb hby at_39) (fun _ _ => ⟨rfl, e28, (by decide : 3 + 2 ≤ _), (by decide : 29 + 40 ≤ _)⟩)
      dsimp only [Pt.U, Pt.locs, Pt.cells, Pt.slots] at X36 l36 y36 z36 st36 hQ36 hS36 hG36
      obtain ⟨X36, hS36, hZ, hown⟩ := rebS hS28 (by rw [e28]; exact hk28) X36 hS36 hG36 hZ hown
      replace X36 := own_num (c' := 5) (n' := 69) X36 l36 (y36.trans rfl) (z36.trans rfl)
      obtain ⟨rfl, N36q, K36q, c36_0, c36_1⟩ := hQ36
      have N36 := Fr.app N0 N36q
      have Z36 : n0 ≤ T36.heap.size := Nat.le_trans Z28 K36q.1
      have K36 : Keep h0 T36.heap [] := K28.trans K36q (allS (P := fun x => x ∈ [] ∨ h0.size ≤ x) (Or.inr z27) all0)
      have hk36 : T36.heap.size ≤ T36.heap.size := Nat.le_refl _
      refine own_trW st36 ?_
      show OwnGoW p e below s _ _ _ (T36.setTop (mkF m 42 #[.val (.int fl), .val (.long hi), .second, .val (.long tok), .second, .val (.int sess), .val (.int (0 : Int32)), .val (.int (1 : Int32)), .unset, .unset, .unset, .unset] [(.ref b25)]))
      refine own_onW (fun t k => XS.astore X36.here hx rfl (hb hby at_42) rfl rfl (l' := #[.val (.int fl), .val (.long hi), .second, .val (.long tok), .second, .val (.int sess), .val (.int (0 : Int32)), .val (.int (1 : Int32)), .val (.ref b25), .unset, .unset, .unset]) rfl k) ?_
      show OwnGoW p e below s _ _ _ (T36.setTop (mkF m 44 #[.val (.int fl), .val (.long hi), .second, .val (.long tok), .second, .val (.int sess), .val (.int (0 : Int32)), .val (.int (1 : Int32)), .val (.ref b25), .unset, .unset, .unset] []))
      refine own_onW (fun t k => XS.aconstNull X36.here hx rfl (hb hby at_44) k) ?_
      show OwnGoW p e below s _ _ _ (T36.setTop (mkF m 45 #[.val (.int fl), .val (.long hi), .second, .val (.long tok), .second, .val (.int sess), .val (.int (0 : Int32)), .val (.int (1 : Int32)), .val (.ref b25), .unset, .unset, .unset] [.null]))
      refine own_onW (fun t k => XS.astore X36.here hx rfl (hb hby at_45) rfl rfl (l' := #[.val (.int fl), .val (.long hi), .second, .val (.long tok), .second, .val (.int sess), .val (.int (0 : Int32)), .val (.int (1 : Int32)), .val (.ref b25), .val .null, .unset, .unset]) rfl k) ?_
      show OwnGoW p e below s _ _ _ (T36.setTop (mkF m 47 #[.val (.int fl), .val (.long hi), .second, .val (.long tok), .second, .val (.int sess), .val (.int (0 : Int32)), .val (.int (1 : Int32)), .val (.ref b25), .val .null, .unset, .unset] []))
      refine own_onW (fun t k => XS.iload X36.here hx rfl (hb hby at_47) rfl k) ?_
      show OwnGoW p e below s _ _ _ (T36.setTop (mkF m 49 #[.val (.int fl), .val (.long hi), .second, .val (.long tok), .second, .val (.int sess), .val (.int (0 : Int32)), .val (.int (1 : Int32)), .val (.ref b25), .val .null, .unset, .unset] [(.int (0 : Int32))]))
      refine own_onW (fun t k => XS.ifYes X36.here hx rfl (pc0 := 49) (pc' := 92) rfl (hb hby at_49) rfl ((if0 _ _).trans (teq (by decide : (0 : Int32) = (0 : Int32))).1) (by decide) (by decide) k) ?_
      show OwnGoW p e below s _ _ _ (T36.setTop (mkF m 92 #[.val (.int fl), .val (.long hi), .second, .val (.long tok), .second, .val (.int sess), .val (.int (0 : Int32)), .val (.int (1 : Int32)), .val (.ref b25), .val .null, .unset, .unset] []))
      obtain ⟨T37, h37, X37, e37, E37, A37, D37, u37, st37⟩ := newO X36 hx hZ hown (w72 hw) (w73 hw) (w74 hw) rfl (g := (mkF m 92 #[.val (.int fl), .val (.long hi), .second, .val (.long tok), .second, .val (.int sess), .val (.int (0 : Int32)), .val (.int (1 : Int32)), .val (.ref b25), .val .null, .unset, .unset] [])) rfl (hb hby at_92) (by decide) (by decide)
      obtain ⟨b37, g37⟩ : ∃ z, z = T36.heap.size := ⟨_, rfl⟩
      rw [← g37] at A37 D37 st37
      have f38 : Exa Z T36.heap b25 "com/example/orderly_lock/orderlylock/LockName" := f30.keep K36q
      have ne39 : b25 ≠ b37 := Nat.ne_of_lt (Nat.lt_of_lt_of_le f38.lt (Nat.le_of_eq g37.symm))
      have f40 : Exa Z T36.heap b28 "java/lang/String" := xE28.keep K36q
      have ne41 : b28 ≠ b37 := Nat.ne_of_lt (Nat.lt_of_lt_of_le f40.lt (Nat.le_of_eq g37.symm))
      have f42 : Arv Z T36.heap c28 d28 .byte (6 : Int32) [(.int (108 : Int32)), (.int (101 : Int32)), (.int (100 : Int32)), (.int (103 : Int32)), (.int (101 : Int32)), (.int (114 : Int32))] (.int (0 : Int32)) := xA28.keep K36q (ninS (Ne.symm ne32) nin0)
      have ne43 : c28 ≠ b37 := Nat.ne_of_lt (Nat.lt_of_lt_of_le f42.lt (Nat.le_of_eq g37.symm))
      have g44 : n0 ≤ b37 := Nat.le_trans Z36 (Nat.le_of_eq g37.symm)
      have z45 : h0.size ≤ b37 := Nat.le_trans K36.1 (Nat.le_of_eq g37.symm)
      have Z37 : n0 ≤ h37.size := Nat.le_trans Z36 E37.1
      have K37 : Keep h0 h37 [] := K36.ext E37
      have F37_lock : Fld Z h37 b37 "com/example/orderly_lock/orderlylock/LockState" "lock" "Lcom/example/orderly_lock/orderlylock/LockName;" .null := D37 (Or.inr (w82 hw)) (ty := (.object "com/example/orderly_lock/orderlylock/LockName")) (by decide)
      have F37_holder : Fld Z h37 b37 "com/example/orderly_lock/orderlylock/LockState" "holder" "Lcom/example/orderly_lock/orderlylock/Grant;" .null := D37 (Or.inr (w84 hw)) (ty := (.object "com/example/orderly_lock/orderlylock/Grant")) (by decide)
      have F37_highestToken : Fld Z h37 b37 "com/example/orderly_lock/orderlylock/LockState" "highestToken" "J" (.long (0 : Int64)) := D37 (Or.inr (w86 hw)) (ty := .long) (by decide)
      have F37_delayed : Fld Z h37 b37 "com/example/orderly_lock/orderlylock/LockState" "delayed" "Z" (.int (0 : Int32)) := D37 (Or.inr (w88 hw)) (ty := .boolean) (by decide)
      refine own_onW st37 ?_
      show OwnGoW p e below s _ _ _ (T37.setTop (mkF m 95 #[.val (.int fl), .val (.long hi), .second, .val (.long tok), .second, .val (.int sess), .val (.int (0 : Int32)), .val (.int (1 : Int32)), .val (.ref b25), .val .null, .unset, .unset] [(.ref b37)]))
      refine own_onW (fun t k => XS.dup X37.here hx rfl (hb hby at_95) rfl rfl k) ?_
      show OwnGoW p e below s _ _ _ (T37.setTop (mkF m 96 #[.val (.int fl), .val (.long hi), .second, .val (.long tok), .second, .val (.int sess), .val (.int (0 : Int32)), .val (.int (1 : Int32)), .val (.ref b25), .val .null, .unset, .unset] [(.ref b37), (.ref b37)]))
      refine own_onW (fun t k => XS.aload X37.here hx rfl (hb hby at_96) rfl rfl k) ?_
      show OwnGoW p e below s _ _ _ (T37.setTop (mkF m 98 #[.val (.int fl), .val (.long hi), .second, .val (.long tok), .second, .val (.int sess), .val (.int (0 : Int32)), .val (.int (1 : Int32)), .val (.ref b25), .val .null, .unset, .unset] [(.ref b25), (.ref b37), (.ref b37)]))
      refine own_onW (fun t k => XS.aload X37.here hx rfl (hb hby at_98) rfl rfl k) ?_
      show OwnGoW p e below s _ _ _ (T37.setTop (mkF m 100 #[.val (.int fl), .val (.long hi), .second, .val (.long tok), .second, .val (.int sess), .val (.int (0 : Int32)), .val (.int (1 : Int32)), .val (.ref b25), .val .null, .unset, .unset] [.null, (.ref b25), (.ref b37), (.ref b37)]))
      refine own_onW (fun t k => XS.lloadN X37.here hx rfl (hb hby at_100) rfl k) ?_
      show OwnGoW p e below s _ _ _ (T37.setTop (mkF m 101 #[.val (.int fl), .val (.long hi), .second, .val (.long tok), .second, .val (.int sess), .val (.int (0 : Int32)), .val (.int (1 : Int32)), .val (.ref b25), .val .null, .unset, .unset] [(.long hi), .null, (.ref b25), (.ref b37), (.ref b37)]))
      refine own_onW (fun t k => XS.iload X37.here hx rfl (hb hby at_101) rfl k) ?_
      show OwnGoW p e below s _ _ _ (T37.setTop (mkF m 103 #[.val (.int fl), .val (.long hi), .second, .val (.long tok), .second, .val (.int sess), .val (.int (0 : Int32)), .val (.int (1 : Int32)), .val (.ref b25), .val .null, .unset, .unset] [(.int (1 : Int32)), (.long hi), .null, (.ref b25), (.ref b37), (.ref b37)]))
      obtain ⟨_, _, ⟨T46, L46, k46, n46⟩, -, X46, hS46, hG46, ⟨Lc46, hQ46, l46, y46, z46⟩, st46⟩ := X37.specialBackS hx (y := (⟨"com/example/orderly_lock/orderlylock/LockState", "<init>", "(Lcom/example/orderly_lock/orderlylock/LockName;Lcom/example/orderly_lock/orderlylock/Grant;JZ)V"⟩ : MethodName)) rfl hown (mvT hZ (w75 hw)) (mvT hZ (w76 hw)) (mvT hZ (w77 hw)) (by decide) (backOfS (W := 1) (rmlsN l Z a0 hw [] b37 b25 hi (1 : Int32) .null .null (.long (0 : Int64)) (.int (0 : Int32)) h37 n0 Z37 A37 F37_lock F37_holder F37_highestToken F37_delayed g44) hZ (w77 hw) (w74 hw) (by decide) (by decide)) (g := (mkF m 103 #[.val (.int fl), .val (.long hi), .second, .val (.long tok), .second, .val (.int sess), .val (.int (0 : Int32)), .val (.int (1 : Int32)), .val (.ref b25), .val .null, .unset, .unset] [(.int (1 : Int32)), (.long hi), .null, (.ref b25), (.ref b37), (.ref b37)])) rfl (by rw [hml]; rfl) (Steps.refl _) (a := b37) (argsL := [(.ref b25), .null, (.long hi), (.int (1 : Int32))]) (rest := [(.ref b37)]) (lenOf pd_13 rfl) rfl (by show 2 * 0 + _ ≤ _; exact Nat.le_of_eq rfl) (hb hby at_103) (fun _ _ => ⟨rfl, e37, (by decide : 6 + 2 ≤ _), (by decide : 73 + 20 ≤ _)⟩)
      dsimp only [Pt.U, Pt.locs, Pt.cells, Pt.slots] at X46 l46 y46 z46 st46 hQ46 hS46 hG46
      have f47 : T36.heap.size ≤ h37.size := Nat.le_trans hk36 E37.1
      obtain ⟨X46, hS46, hZ, hown⟩ := rebS hS36 (by rw [e37]; exact f47) X46 hS46 hG46 hZ hown
      replace X46 := own_num (c' := 8) (n' := 93) X46 l46 (y46.trans rfl) (z46.trans rfl)
      obtain ⟨rfl, N46q, K46q, c46_0, c46_1⟩ := hQ46
      have N46 := Fr.app N36 N46q
      have Z46 : n0 ≤ T46.heap.size := Nat.le_trans Z37 K46q.1
      have K46 : Keep h0 T46.heap [] := K37.trans K46q (allS (P := fun x => x ∈ [] ∨ h0.size ≤ x) (Or.inr z45) all0)
      have hk46 : T46.heap.size ≤ T46.heap.size := Nat.le_refl _
      refine own_trW st46 ?_
      show OwnGoW p e below s _ _ _ (T46.setTop (mkF m 106 #[.val (.int fl), .val (.long hi), .second, .val (.long tok), .second, .val (.int sess), .val (.int (0 : Int32)), .val (.int (1 : Int32)), .val (.ref b25), .val .null, .unset, .unset] [(.ref b37)]))
      refine own_onW (fun t k => XS.astore X46.here hx rfl (hb hby at_106) rfl rfl (l' := #[.val (.int fl), .val (.long hi), .second, .val (.long tok), .second, .val (.int sess), .val (.int (0 : Int32)), .val (.int (1 : Int32)), .val (.ref b25), .val .null, .val (.ref b37), .unset]) rfl k) ?_
      show OwnGoW p e below s _ _ _ (T46.setTop (mkF m 108 #[.val (.int fl), .val (.long hi), .second, .val (.long tok), .second, .val (.int sess), .val (.int (0 : Int32)), .val (.int (1 : Int32)), .val (.ref b25), .val .null, .val (.ref b37), .unset] []))
      refine own_onW (fun t k => XS.aload X46.here hx rfl (hb hby at_108) rfl rfl k) ?_
      show OwnGoW p e below s _ _ _ (T46.setTop (mkF m 110 #[.val (.int fl), .val (.long hi), .second, .val (.long tok), .second, .val (.int sess), .val (.int (0 : Int32)), .val (.int (1 : Int32)), .val (.ref b25), .val .null, .val (.ref b37), .unset] [(.ref b37)]))
      obtain ⟨cq48, kq48, q48a, q48b, q48c⟩ := isOf hZ rfl c46_0
      obtain ⟨_, _, ⟨T48, L48, k48, n48⟩, -, X48, ⟨Lc48, hQ48, l48, y48, z48⟩, st48⟩ := X46.virtualBack hx (y := (⟨"com/example/orderly_lock/orderlylock/LockState", "held", "()Z"⟩ : MethodName)) (z := (⟨"com/example/orderly_lock/orderlylock/LockState", "held", "()Z"⟩ : MethodName)) hown (mvT hZ (w89 hw)) (mvT hZ (w90 hw)) (notFace_of_selects (args := #[]) (mvT hZ (w92 hw))) (mvT hZ (w92 hw)) (mvT hZ (w91 hw)) (by decide) (backOf (W := 0) (rmhN l Z a0 hw [] b37 T46.heap n0 Z46 c46_1) hZ (w93 hw) (w74 hw) (by decide) (by decide)) q48a q48c (g := (mkF m 110 #[.val (.int fl), .val (.long hi), .second, .val (.long tok), .second, .val (.int sess), .val (.int (0 : Int32)), .val (.int (1 : Int32)), .val (.ref b25), .val .null, .val (.ref b37), .unset] [(.ref b37)])) rfl (by rw [hml]; rfl) (Steps.refl _) (argsL := []) (rest := []) (lenOf pd_3 rfl) rfl (by show 2 * 0 + _ ≤ _; exact Nat.le_of_eq rfl) (hb hby at_110) (fun _ _ => ⟨rfl, rfl, (by decide : 8 + 0 ≤ _), (by decide : 93 + 0 ≤ _)⟩)
      dsimp only [Pt.U, Pt.locs, Pt.cells, Pt.slots] at X48 l48 y48 z48 st48 hQ48
      replace X48 := own_num (c' := 8) (n' := 93) X48 l48 (y48.trans rfl) (z48.trans rfl)
      obtain ⟨rfl, N48q, e48⟩ := hQ48
      have N48 := Fr.app N46 N48q
      refine own_trW st48 ?_
      show OwnGoW p e below s _ _ _ (T48.setTop (mkF m 113 #[.val (.int fl), .val (.long hi), .second, .val (.long tok), .second, .val (.int sess), .val (.int (0 : Int32)), .val (.int (1 : Int32)), .val (.ref b25), .val .null, .val (.ref b37), .unset] [(.int (0 : Int32))]))
      refine own_onW (fun t k => XS.istore X48.here hx rfl (hb hby at_113) rfl (l' := #[.val (.int fl), .val (.long hi), .second, .val (.long tok), .second, .val (.int sess), .val (.int (0 : Int32)), .val (.int (1 : Int32)), .val (.ref b25), .val .null, .val (.ref b37), .val (.int (0 : Int32))]) rfl k) ?_
      show OwnGoW p e below s _ _ _ (T48.setTop (mkF m 115 #[.val (.int fl), .val (.long hi), .second, .val (.long tok), .second, .val (.int sess), .val (.int (0 : Int32)), .val (.int (1 : Int32)), .val (.ref b25), .val .null, .val (.ref b37), .val (.int (0 : Int32))] []))
      refine own_onW (fun t k => XS.iload X48.here hx rfl (hb hby at_115) rfl k) ?_
      show OwnGoW p e below s _ _ _ (T48.setTop (mkF m 117 #[.val (.int fl), .val (.long hi), .second, .val (.long tok), .second, .val (.int sess), .val (.int (0 : Int32)), .val (.int (1 : Int32)), .val (.ref b25), .val .null, .val (.ref b37), .val (.int (0 : Int32))] [(.int (0 : Int32))]))
      refine own_onW (fun t k => XS.iload X48.here hx rfl (hb hby at_117) rfl k) ?_
      show OwnGoW p e below s _ _ _ (T48.setTop (mkF m 119 #[.val (.int fl), .val (.long hi), .second, .val (.long tok), .second, .val (.int sess), .val (.int (0 : Int32)), .val (.int (1 : Int32)), .val (.ref b25), .val .null, .val (.ref b37), .val (.int (0 : Int32))] [(.int (0 : Int32)), (.int (0 : Int32))]))
      refine own_onW (fun t k => XS.icmpYes X48.here hx rfl (pc0 := 119) (pc' := 124) rfl (hb hby at_119) rfl (teq (by decide : (0 : Int32) = (0 : Int32))).1 (by decide) (by decide) k) ?_
      show OwnGoW p e below s _ _ _ (T48.setTop (mkF m 124 #[.val (.int fl), .val (.long hi), .second, .val (.long tok), .second, .val (.int sess), .val (.int (0 : Int32)), .val (.int (1 : Int32)), .val (.ref b25), .val .null, .val (.ref b37), .val (.int (0 : Int32))] []))
      refine own_onW (fun t k => XS.iload X48.here hx rfl (hb hby at_124) rfl k) ?_
      show OwnGoW p e below s _ _ _ (T48.setTop (mkF m 126 #[.val (.int fl), .val (.long hi), .second, .val (.long tok), .second, .val (.int sess), .val (.int (0 : Int32)), .val (.int (1 : Int32)), .val (.ref b25), .val .null, .val (.ref b37), .val (.int (0 : Int32))] [(.int (1 : Int32))]))
      refine own_onW (fun t k => XS.ifNo X48.here hx rfl (hb hby at_126) rfl ((if0 _ _).trans (feq (by decide : ¬ ((1 : Int32) = (0 : Int32)))).1) k) ?_
      show OwnGoW p e below s _ _ _ (T48.setTop (mkF m 129 #[.val (.int fl), .val (.long hi), .second, .val (.long tok), .second, .val (.int sess), .val (.int (0 : Int32)), .val (.int (1 : Int32)), .val (.ref b25), .val .null, .val (.ref b37), .val (.int (0 : Int32))] []))
      refine own_onW (fun t k => XS.iload X48.here hx rfl (hb hby at_129) rfl k) ?_
      show OwnGoW p e below s _ _ _ (T48.setTop (mkF m 131 #[.val (.int fl), .val (.long hi), .second, .val (.long tok), .second, .val (.int sess), .val (.int (0 : Int32)), .val (.int (1 : Int32)), .val (.ref b25), .val .null, .val (.ref b37), .val (.int (0 : Int32))] [(.int (0 : Int32))]))
      refine own_onW (fun t k => XS.ifYes X48.here hx rfl (pc0 := 131) (pc' := 136) rfl (hb hby at_131) rfl ((if0 _ _).trans (teq (by decide : (0 : Int32) = (0 : Int32))).1) (by decide) (by decide) k) ?_
      show OwnGoW p e below s _ _ _ (T48.setTop (mkF m 136 #[.val (.int fl), .val (.long hi), .second, .val (.long tok), .second, .val (.int sess), .val (.int (0 : Int32)), .val (.int (1 : Int32)), .val (.ref b25), .val .null, .val (.ref b37), .val (.int (0 : Int32))] []))
      refine own_onW (fun t k => XS.iconst X48.here hx rfl (hb hby at_136) k) ?_
      show OwnGoW p e below s _ _ _ (T48.setTop (mkF m 137 #[.val (.int fl), .val (.long hi), .second, .val (.long tok), .second, .val (.int sess), .val (.int (0 : Int32)), .val (.int (1 : Int32)), .val (.ref b25), .val .null, .val (.ref b37), .val (.int (0 : Int32))] [(.int (1 : Int32))]))
      exact own_retNW X48 hx hlk (t := .boolean) Bd.returns (by simp) (hb hby at_137) e48 ⟨rfl, N48, K46⟩ (by decide) (by decide) hS46 (by rw [e48]; exact hk46)
  · refine own_onW (fun t k => XS.ifNo X0.here hx rfl (hb hby at_3) rfl ((if0 _ _).trans (feq hf0).1) k) ?_
    show OwnGoW p e below s _ _ _ (s₁.setTop (mkF m 6 #[.val (.int fl), .val (.long hi), .second, .val (.long tok), .second, .val (.int sess), .unset, .unset, .unset, .unset, .unset, .unset] []))
    refine own_onW (fun t k => XS.iconst X0.here hx rfl (hb hby at_6) k) ?_
    show OwnGoW p e below s _ _ _ (s₁.setTop (mkF m 7 #[.val (.int fl), .val (.long hi), .second, .val (.long tok), .second, .val (.int sess), .unset, .unset, .unset, .unset, .unset, .unset] [(.int (1 : Int32))]))
    refine own_onW (fun t k => XS.goto X0.here hx rfl (pc0 := 7) (pc' := 11) rfl (hb hby at_7) (by decide) (by decide) k) ?_
    show OwnGoW p e below s _ _ _ (s₁.setTop (mkF m 11 #[.val (.int fl), .val (.long hi), .second, .val (.long tok), .second, .val (.int sess), .unset, .unset, .unset, .unset, .unset, .unset] [(.int (1 : Int32))]))
    refine own_onW (fun t k => XS.istore X0.here hx rfl (hb hby at_11) rfl (l' := #[.val (.int fl), .val (.long hi), .second, .val (.long tok), .second, .val (.int sess), .val (.int (1 : Int32)), .unset, .unset, .unset, .unset, .unset]) rfl k) ?_
    show OwnGoW p e below s _ _ _ (s₁.setTop (mkF m 13 #[.val (.int fl), .val (.long hi), .second, .val (.long tok), .second, .val (.int sess), .val (.int (1 : Int32)), .unset, .unset, .unset, .unset, .unset] []))
    refine own_onW (fun t k => XS.iload X0.here hx rfl (hb hby at_13) rfl k) ?_
    show OwnGoW p e below s _ _ _ (s₁.setTop (mkF m 15 #[.val (.int fl), .val (.long hi), .second, .val (.long tok), .second, .val (.int sess), .val (.int (1 : Int32)), .unset, .unset, .unset, .unset, .unset] [(.int (1 : Int32))]))
    refine own_onW (fun t k => XS.ifYes X0.here hx rfl (pc0 := 15) (pc' := 30) rfl (hb hby at_15) rfl ((if0 _ _).trans (feq (by decide : ¬ ((1 : Int32) = (0 : Int32)))).2) (by decide) (by decide) k) ?_
    show OwnGoW p e below s _ _ _ (s₁.setTop (mkF m 30 #[.val (.int fl), .val (.long hi), .second, .val (.long tok), .second, .val (.int sess), .val (.int (1 : Int32)), .unset, .unset, .unset, .unset, .unset] []))
    refine own_onW (fun t k => XS.iconst X0.here hx rfl (hb hby at_30) k) ?_
    show OwnGoW p e below s _ _ _ (s₁.setTop (mkF m 31 #[.val (.int fl), .val (.long hi), .second, .val (.long tok), .second, .val (.int sess), .val (.int (1 : Int32)), .unset, .unset, .unset, .unset, .unset] [(.int (0 : Int32))]))
    refine own_onW (fun t k => XS.istore X0.here hx rfl (hb hby at_31) rfl (l' := #[.val (.int fl), .val (.long hi), .second, .val (.long tok), .second, .val (.int sess), .val (.int (1 : Int32)), .val (.int (0 : Int32)), .unset, .unset, .unset, .unset]) rfl k) ?_
    show OwnGoW p e below s _ _ _ (s₁.setTop (mkF m 33 #[.val (.int fl), .val (.long hi), .second, .val (.long tok), .second, .val (.int sess), .val (.int (1 : Int32)), .val (.int (0 : Int32)), .unset, .unset, .unset, .unset] []))
    obtain ⟨T49, h49, X49, e49, E49, A49, D49, u49, st49⟩ := newO X0 hx hZ hown (w0 hw) (w1 hw) (w2 hw) e0 (g := (mkF m 33 #[.val (.int fl), .val (.long hi), .second, .val (.long tok), .second, .val (.int sess), .val (.int (1 : Int32)), .val (.int (0 : Int32)), .unset, .unset, .unset, .unset] [])) rfl (hb hby at_33) (by decide) (by decide)
    obtain ⟨b49, g49⟩ : ∃ z, z = h0.size := ⟨_, rfl⟩
    rw [← g49] at A49 D49 st49
    have g50 : n0 ≤ b49 := Nat.le_trans Z0 (Nat.le_of_eq g49.symm)
    have z51 : h0.size ≤ b49 := Nat.le_trans K0.1 (Nat.le_of_eq g49.symm)
    have Z49 : n0 ≤ h49.size := Nat.le_trans Z0 E49.1
    have K49 : Keep h0 h49 [] := K0.ext E49
    have F49_value : Fld Z h49 b49 "com/example/orderly_lock/orderlylock/LockName" "value" "Ljava/lang/String;" .null := D49 (Or.inr (w71 hw)) (ty := (.object "java/lang/String")) (by decide)
    refine own_onW st49 ?_
    show OwnGoW p e below s _ _ _ (T49.setTop (mkF m 36 #[.val (.int fl), .val (.long hi), .second, .val (.long tok), .second, .val (.int sess), .val (.int (1 : Int32)), .val (.int (0 : Int32)), .unset, .unset, .unset, .unset] [(.ref b49)]))
    refine own_onW (fun t k => XS.dup X49.here hx rfl (hb hby at_36) rfl rfl k) ?_
    show OwnGoW p e below s _ _ _ (T49.setTop (mkF m 37 #[.val (.int fl), .val (.long hi), .second, .val (.long tok), .second, .val (.int sess), .val (.int (1 : Int32)), .val (.int (0 : Int32)), .unset, .unset, .unset, .unset] [(.ref b49), (.ref b49)]))
    have IB0 : IB Z s₁.vm [] := own_ib hIB hwarm
    have f53 : 0 ≤ h49.size := Nat.le_trans (Nat.zero_le _) E49.1
    obtain ⟨b52, T52, h52, k52, c52, d52, X52, e52, E52, hS52, hk52, hZ, hown, xE52, xC52, xV52, xA52, xl52, xm52, IB52, st52⟩ := ldcSV (Ts := []) X49 hx hZ hown (w3 hw) (own_str hw) e49 hS0 f53 (Fr.nil _) (fun b cl q => by rw [hh]; exact P0.2.2 b cl q) IB0 (by decide) P5 P6 (vs := [(.int (108 : Int32)), (.int (101 : Int32)), (.int (100 : Int32)), (.int (103 : Int32)), (.int (101 : Int32)), (.int (114 : Int32))]) (z := 6) (by decide) (by decide) (by decide) (g := (mkF m 37 #[.val (.int fl), .val (.long hi), .second, .val (.long tok), .second, .val (.int sess), .val (.int (1 : Int32)), .val (.int (0 : Int32)), .unset, .unset, .unset, .unset] [(.ref b49), (.ref b49)])) rfl (hb hby at_37) (n := 24) (by decide) (by decide) (by decide) (by decide)
    have Z52 : n0 ≤ h52.size := Nat.le_trans Z49 E52.1
    have K52 : Keep h0 h52 [] := K49.ext E52
    have f54 : Exa Z h52 b49 "com/example/orderly_lock/orderlylock/LockName" := A49.ext E52
    have ne55 : b49 ≠ b52 := Exa.ne f54 xE52 (by decide)
    have ne56 : b49 ≠ c52 := Exa.neArv f54 xA52 (w1 hw)
    refine own_onW st52 ?_
    show OwnGoW p e below s _ _ _ (T52.setTop (mkF m 39 #[.val (.int fl), .val (.long hi), .second, .val (.long tok), .second, .val (.int sess), .val (.int (1 : Int32)), .val (.int (0 : Int32)), .unset, .unset, .unset, .unset] [(.ref b52), (.ref b49), (.ref b49)]))
    have f57 : Old Z n0 h49 := P0.ext E49
    have f58 : Old Z n0 h52 := f57.ext E52
    have f59 : Fld Z h52 b49 "com/example/orderly_lock/orderlylock/LockName" "value" "Ljava/lang/String;" .null := F49_value.ext E52
    obtain ⟨_, _, ⟨T60, L60, k60, n60⟩, -, X60, hS60, hG60, ⟨Lc60, hQ60, l60, y60, z60⟩, st60⟩ := X52.specialBackS hx (y := (⟨"com/example/orderly_lock/orderlylock/LockName", "<init>", "(Ljava/lang/String;)V"⟩ : MethodName)) rfl hown (mvT hZ (w11 hw)) (mvT hZ (w12 hw)) (mvT hZ (w13 hw)) (by decide) (backOfS (W := 1) (rm1 l Z a0 hw [] b49 b52 cs sf c52 d52 .null h52 n0 Z52 f58 P1 P2 P3 P4 f54 f59 g50 xE52 xC52 xV52 xA52) hZ (w13 hw) (w2 hw) (by decide) (by decide)) (g := (mkF m 39 #[.val (.int fl), .val (.long hi), .second, .val (.long tok), .second, .val (.int sess), .val (.int (1 : Int32)), .val (.int (0 : Int32)), .unset, .unset, .unset, .unset] [(.ref b52), (.ref b49), (.ref b49)])) rfl (by rw [hml]; rfl) (Steps.refl _) (a := b49) (argsL := [(.ref b52)]) (rest := [(.ref b49)]) (lenOf pd_12 rfl) rfl (by show 2 * 0 + _ ≤ _; exact Nat.le_of_eq rfl) (hb hby at_39) (fun _ _ => ⟨rfl, e52, (by decide : 3 + 2 ≤ _), (by decide : 29 + 40 ≤ _)⟩)
    dsimp only [Pt.U, Pt.locs, Pt.cells, Pt.slots] at X60 l60 y60 z60 st60 hQ60 hS60 hG60
    obtain ⟨X60, hS60, hZ, hown⟩ := rebS hS52 (by rw [e52]; exact hk52) X60 hS60 hG60 hZ hown
    replace X60 := own_num (c' := 5) (n' := 69) X60 l60 (y60.trans rfl) (z60.trans rfl)
    obtain ⟨rfl, N60q, K60q, c60_0, c60_1⟩ := hQ60
    have N60 := Fr.app N0 N60q
    have Z60 : n0 ≤ T60.heap.size := Nat.le_trans Z52 K60q.1
    have K60 : Keep h0 T60.heap [] := K52.trans K60q (allS (P := fun x => x ∈ [] ∨ h0.size ≤ x) (Or.inr z51) all0)
    have hk60 : T60.heap.size ≤ T60.heap.size := Nat.le_refl _
    refine own_trW st60 ?_
    show OwnGoW p e below s _ _ _ (T60.setTop (mkF m 42 #[.val (.int fl), .val (.long hi), .second, .val (.long tok), .second, .val (.int sess), .val (.int (1 : Int32)), .val (.int (0 : Int32)), .unset, .unset, .unset, .unset] [(.ref b49)]))
    refine own_onW (fun t k => XS.astore X60.here hx rfl (hb hby at_42) rfl rfl (l' := #[.val (.int fl), .val (.long hi), .second, .val (.long tok), .second, .val (.int sess), .val (.int (1 : Int32)), .val (.int (0 : Int32)), .val (.ref b49), .unset, .unset, .unset]) rfl k) ?_
    show OwnGoW p e below s _ _ _ (T60.setTop (mkF m 44 #[.val (.int fl), .val (.long hi), .second, .val (.long tok), .second, .val (.int sess), .val (.int (1 : Int32)), .val (.int (0 : Int32)), .val (.ref b49), .unset, .unset, .unset] []))
    refine own_onW (fun t k => XS.aconstNull X60.here hx rfl (hb hby at_44) k) ?_
    show OwnGoW p e below s _ _ _ (T60.setTop (mkF m 45 #[.val (.int fl), .val (.long hi), .second, .val (.long tok), .second, .val (.int sess), .val (.int (1 : Int32)), .val (.int (0 : Int32)), .val (.ref b49), .unset, .unset, .unset] [.null]))
    refine own_onW (fun t k => XS.astore X60.here hx rfl (hb hby at_45) rfl rfl (l' := #[.val (.int fl), .val (.long hi), .second, .val (.long tok), .second, .val (.int sess), .val (.int (1 : Int32)), .val (.int (0 : Int32)), .val (.ref b49), .val .null, .unset, .unset]) rfl k) ?_
    show OwnGoW p e below s _ _ _ (T60.setTop (mkF m 47 #[.val (.int fl), .val (.long hi), .second, .val (.long tok), .second, .val (.int sess), .val (.int (1 : Int32)), .val (.int (0 : Int32)), .val (.ref b49), .val .null, .unset, .unset] []))
    refine own_onW (fun t k => XS.iload X60.here hx rfl (hb hby at_47) rfl k) ?_
    show OwnGoW p e below s _ _ _ (T60.setTop (mkF m 49 #[.val (.int fl), .val (.long hi), .second, .val (.long tok), .second, .val (.int sess), .val (.int (1 : Int32)), .val (.int (0 : Int32)), .val (.ref b49), .val .null, .unset, .unset] [(.int (1 : Int32))]))
    refine own_onW (fun t k => XS.ifNo X60.here hx rfl (hb hby at_49) rfl ((if0 _ _).trans (feq (by decide : ¬ ((1 : Int32) = (0 : Int32)))).1) k) ?_
    show OwnGoW p e below s _ _ _ (T60.setTop (mkF m 52 #[.val (.int fl), .val (.long hi), .second, .val (.long tok), .second, .val (.int sess), .val (.int (1 : Int32)), .val (.int (0 : Int32)), .val (.ref b49), .val .null, .unset, .unset] []))
    refine own_onW (fun t k => XS.lloadN X60.here hx rfl (hb hby at_52) rfl k) ?_
    show OwnGoW p e below s _ _ _ (T60.setTop (mkF m 53 #[.val (.int fl), .val (.long hi), .second, .val (.long tok), .second, .val (.int sess), .val (.int (1 : Int32)), .val (.int (0 : Int32)), .val (.ref b49), .val .null, .unset, .unset] [(.long tok)]))
    refine own_onW (X60.ldc2Long hx hown (mvT hZ (w94 hw)) (g := (mkF m 53 #[.val (.int fl), .val (.long hi), .second, .val (.long tok), .second, .val (.int sess), .val (.int (1 : Int32)), .val (.int (0 : Int32)), .val (.ref b49), .val .null, .unset, .unset] [(.long tok)])) rfl (hb hby at_53)) ?_
    show OwnGoW p e below s _ _ _ (T60.setTop (mkF m 56 #[.val (.int fl), .val (.long hi), .second, .val (.long tok), .second, .val (.int sess), .val (.int (1 : Int32)), .val (.int (0 : Int32)), .val (.ref b49), .val .null, .unset, .unset] [(.long (9223372036854775807 : Int64)), (.long tok)]))
    refine own_onW (fun t k => XS.land X60.here hx rfl (hb hby at_56) rfl k) ?_
    show OwnGoW p e below s _ _ _ (T60.setTop (mkF m 57 #[.val (.int fl), .val (.long hi), .second, .val (.long tok), .second, .val (.int sess), .val (.int (1 : Int32)), .val (.int (0 : Int32)), .val (.ref b49), .val .null, .unset, .unset] [(.long (tok &&& (9223372036854775807 : Int64)))]))
    refine own_onW (fun t k => XS.lstore X60.here hx rfl (hb hby at_57) rfl (l' := #[.val (.int fl), .val (.long hi), .second, .val (.long tok), .second, .val (.int sess), .val (.int (1 : Int32)), .val (.int (0 : Int32)), .val (.ref b49), .val .null, .val (.long (tok &&& (9223372036854775807 : Int64))), .second]) rfl k) ?_
    show OwnGoW p e below s _ _ _ (T60.setTop (mkF m 59 #[.val (.int fl), .val (.long hi), .second, .val (.long tok), .second, .val (.int sess), .val (.int (1 : Int32)), .val (.int (0 : Int32)), .val (.ref b49), .val .null, .val (.long (tok &&& (9223372036854775807 : Int64))), .second] []))
    refine own_onW (fun t k => XS.lload X60.here hx rfl (hb hby at_59) rfl k) ?_
    show OwnGoW p e below s _ _ _ (T60.setTop (mkF m 61 #[.val (.int fl), .val (.long hi), .second, .val (.long tok), .second, .val (.int sess), .val (.int (1 : Int32)), .val (.int (0 : Int32)), .val (.ref b49), .val .null, .val (.long (tok &&& (9223372036854775807 : Int64))), .second] [(.long (tok &&& (9223372036854775807 : Int64)))]))
    refine own_onW (fun t k => XS.lconst X60.here hx rfl (hb hby at_61) k) ?_
    show OwnGoW p e below s _ _ _ (T60.setTop (mkF m 62 #[.val (.int fl), .val (.long hi), .second, .val (.long tok), .second, .val (.int sess), .val (.int (1 : Int32)), .val (.int (0 : Int32)), .val (.ref b49), .val .null, .val (.long (tok &&& (9223372036854775807 : Int64))), .second] [(.long (0 : Int64)), (.long (tok &&& (9223372036854775807 : Int64)))]))
    refine own_onW (fun t k => XS.lcmp X60.here hx rfl (hb hby at_62) rfl k) ?_
    show OwnGoW p e below s _ _ _ (T60.setTop (mkF m 63 #[.val (.int fl), .val (.long hi), .second, .val (.long tok), .second, .val (.int sess), .val (.int (1 : Int32)), .val (.int (0 : Int32)), .val (.ref b49), .val .null, .val (.long (tok &&& (9223372036854775807 : Int64))), .second] [(.int (lcmpW (tok &&& (9223372036854775807 : Int64)) (0 : Int64)))]))
    by_cases ht : (lcmpW (tok &&& (9223372036854775807 : Int64)) (0 : Int64)) = (0 : Int32)
    · refine own_onW (fun t k => XS.ifNo X60.here hx rfl (hb hby at_63) rfl ((if0 _ _).trans (teq ht).2) k) ?_
      show OwnGoW p e below s _ _ _ (T60.setTop (mkF m 66 #[.val (.int fl), .val (.long hi), .second, .val (.long tok), .second, .val (.int sess), .val (.int (1 : Int32)), .val (.int (0 : Int32)), .val (.ref b49), .val .null, .val (.long (tok &&& (9223372036854775807 : Int64))), .second] []))
      refine own_onW (fun t k => XS.lconst X60.here hx rfl (hb hby at_66) k) ?_
      show OwnGoW p e below s _ _ _ (T60.setTop (mkF m 67 #[.val (.int fl), .val (.long hi), .second, .val (.long tok), .second, .val (.int sess), .val (.int (1 : Int32)), .val (.int (0 : Int32)), .val (.ref b49), .val .null, .val (.long (tok &&& (9223372036854775807 : Int64))), .second] [(.long (1 : Int64))]))
      refine own_onW (fun t k => XS.lstore X60.here hx rfl (hb hby at_67) rfl (l' := #[.val (.int fl), .val (.long hi), .second, .val (.long tok), .second, .val (.int sess), .val (.int (1 : Int32)), .val (.int (0 : Int32)), .val (.ref b49), .val .null, .val (.long (1 : Int64)), .second]) rfl k) ?_
      show OwnGoW p e below s _ _ _ (T60.setTop (mkF m 69 #[.val (.int fl), .val (.long hi), .second, .val (.long tok), .second, .val (.int sess), .val (.int (1 : Int32)), .val (.int (0 : Int32)), .val (.ref b49), .val .null, .val (.long (1 : Int64)), .second] []))
      obtain ⟨T61, h61, X61, e61, E61, A61, D61, u61, st61⟩ := newO X60 hx hZ hown (w95 hw) (w96 hw) (w97 hw) rfl (g := (mkF m 69 #[.val (.int fl), .val (.long hi), .second, .val (.long tok), .second, .val (.int sess), .val (.int (1 : Int32)), .val (.int (0 : Int32)), .val (.ref b49), .val .null, .val (.long (1 : Int64)), .second] [])) rfl (hb hby at_69) (by decide) (by decide)
      obtain ⟨b61, g61⟩ : ∃ z, z = T60.heap.size := ⟨_, rfl⟩
      rw [← g61] at A61 D61 st61
      have f62 : Exa Z T60.heap b49 "com/example/orderly_lock/orderlylock/LockName" := f54.keep K60q
      have ne63 : b49 ≠ b61 := Nat.ne_of_lt (Nat.lt_of_lt_of_le f62.lt (Nat.le_of_eq g61.symm))
      have f64 : Exa Z T60.heap b52 "java/lang/String" := xE52.keep K60q
      have ne65 : b52 ≠ b61 := Nat.ne_of_lt (Nat.lt_of_lt_of_le f64.lt (Nat.le_of_eq g61.symm))
      have f66 : Arv Z T60.heap c52 d52 .byte (6 : Int32) [(.int (108 : Int32)), (.int (101 : Int32)), (.int (100 : Int32)), (.int (103 : Int32)), (.int (101 : Int32)), (.int (114 : Int32))] (.int (0 : Int32)) := xA52.keep K60q (ninS (Ne.symm ne56) nin0)
      have ne67 : c52 ≠ b61 := Nat.ne_of_lt (Nat.lt_of_lt_of_le f66.lt (Nat.le_of_eq g61.symm))
      have g68 : n0 ≤ b61 := Nat.le_trans Z60 (Nat.le_of_eq g61.symm)
      have z69 : h0.size ≤ b61 := Nat.le_trans K60.1 (Nat.le_of_eq g61.symm)
      have Z61 : n0 ≤ h61.size := Nat.le_trans Z60 E61.1
      have K61 : Keep h0 h61 [] := K60.ext E61
      have F61_lock : Fld Z h61 b61 "com/example/orderly_lock/orderlylock/Grant" "lock" "Lcom/example/orderly_lock/orderlylock/LockName;" .null := D61 (Or.inr (w121 hw)) (ty := (.object "com/example/orderly_lock/orderlylock/LockName")) (by decide)
      have F61_session : Fld Z h61 b61 "com/example/orderly_lock/orderlylock/Grant" "session" "Ljava/lang/String;" .null := D61 (Or.inr (w123 hw)) (ty := (.object "java/lang/String")) (by decide)
      have F61_token : Fld Z h61 b61 "com/example/orderly_lock/orderlylock/Grant" "token" "J" (.long (0 : Int64)) := D61 (Or.inr (w125 hw)) (ty := .long) (by decide)
      refine own_onW st61 ?_
      show OwnGoW p e below s _ _ _ (T61.setTop (mkF m 72 #[.val (.int fl), .val (.long hi), .second, .val (.long tok), .second, .val (.int sess), .val (.int (1 : Int32)), .val (.int (0 : Int32)), .val (.ref b49), .val .null, .val (.long (1 : Int64)), .second] [(.ref b61)]))
      refine own_onW (fun t k => XS.dup X61.here hx rfl (hb hby at_72) rfl rfl k) ?_
      show OwnGoW p e below s _ _ _ (T61.setTop (mkF m 73 #[.val (.int fl), .val (.long hi), .second, .val (.long tok), .second, .val (.int sess), .val (.int (1 : Int32)), .val (.int (0 : Int32)), .val (.ref b49), .val .null, .val (.long (1 : Int64)), .second] [(.ref b61), (.ref b61)]))
      refine own_onW (fun t k => XS.aload X61.here hx rfl (hb hby at_73) rfl rfl k) ?_
      show OwnGoW p e below s _ _ _ (T61.setTop (mkF m 75 #[.val (.int fl), .val (.long hi), .second, .val (.long tok), .second, .val (.int sess), .val (.int (1 : Int32)), .val (.int (0 : Int32)), .val (.ref b49), .val .null, .val (.long (1 : Int64)), .second] [(.ref b49), (.ref b61), (.ref b61)]))
      refine own_onW (fun t k => XS.iload X61.here hx rfl (hb hby at_75) rfl k) ?_
      show OwnGoW p e below s _ _ _ (T61.setTop (mkF m 77 #[.val (.int fl), .val (.long hi), .second, .val (.long tok), .second, .val (.int sess), .val (.int (1 : Int32)), .val (.int (0 : Int32)), .val (.ref b49), .val .null, .val (.long (1 : Int64)), .second] [(.int sess), (.ref b49), (.ref b61), (.ref b61)]))
      refine own_onW (fun t k => XS.sipush X61.here hx rfl (hb hby at_77) k) ?_
      show OwnGoW p e below s _ _ _ (T61.setTop (mkF m 80 #[.val (.int fl), .val (.long hi), .second, .val (.long tok), .second, .val (.int sess), .val (.int (1 : Int32)), .val (.int (0 : Int32)), .val (.ref b49), .val .null, .val (.long (1 : Int64)), .second] [(.int (255 : Int32)), (.int sess), (.ref b49), (.ref b61), (.ref b61)]))
      refine own_onW (fun t k => XS.iand X61.here hx rfl (hb hby at_80) rfl k) ?_
      show OwnGoW p e below s _ _ _ (T61.setTop (mkF m 81 #[.val (.int fl), .val (.long hi), .second, .val (.long tok), .second, .val (.int sess), .val (.int (1 : Int32)), .val (.int (0 : Int32)), .val (.ref b49), .val .null, .val (.long (1 : Int64)), .second] [(.int (sess &&& (255 : Int32))), (.ref b49), (.ref b61), (.ref b61)]))
      refine own_onW (fun t k => XS.i2c X61.here hx rfl (hb hby at_81) rfl k) ?_
      show OwnGoW p e below s _ _ _ (T61.setTop (mkF m 82 #[.val (.int fl), .val (.long hi), .second, .val (.long tok), .second, .val (.int sess), .val (.int (1 : Int32)), .val (.int (0 : Int32)), .val (.ref b49), .val .null, .val (.long (1 : Int64)), .second] [(.int ((sess &&& (255 : Int32)).toUInt32.toUInt16.toUInt32.toInt32)), (.ref b49), (.ref b61), (.ref b61)]))
      have hv : ¬ (255 : Int32) < ((sess &&& (255 : Int32)).toUInt32.toUInt16.toUInt32.toInt32) := own_le255 _
      have ht1 : ¬ ((lcmpW (1 : Int64) (1 : Int64)) < (0 : Int32)) := by decide
      have f70 : Old Z n0 h61 := c60_1.ext E61
      obtain ⟨_, _, ⟨T71, L71, k71, n71⟩, -, X71, ⟨Lc71, hQ71, l71, y71, z71⟩, st71⟩ := Jvm.LawKit.callS X61 hx (y := (⟨"java/lang/String", "valueOf", "(C)Ljava/lang/String;"⟩ : MethodName)) hown (mvT hZ (w98 hw)) (mvT hZ (w99 hw)) (mvT hZ (w4 hw)) (mvT hZ (w100 hw)) (by decide) (backOf (W := 3) (rm16 l Z a0 hw [] ((sess &&& (255 : Int32)).toUInt32.toUInt16.toUInt32.toInt32) cs h61 n0 Z61 f70 P1 P2 hv) hZ (w100 hw) (w4 hw) (by decide) (by decide)) (g := (mkF m 82 #[.val (.int fl), .val (.long hi), .second, .val (.long tok), .second, .val (.int sess), .val (.int (1 : Int32)), .val (.int (0 : Int32)), .val (.ref b49), .val .null, .val (.long (1 : Int64)), .second] [(.int ((sess &&& (255 : Int32)).toUInt32.toUInt16.toUInt32.toInt32)), (.ref b49), (.ref b61), (.ref b61)])) rfl (by rw [hml]; rfl) (argsL := [(.int ((sess &&& (255 : Int32)).toUInt32.toUInt16.toUInt32.toInt32))]) (rest := [(.ref b49), (.ref b61), (.ref b61)]) (lenOf pd_14 rfl) rfl (by show 2 * 0 + _ ≤ _; exact Nat.le_of_eq rfl) (hb hby at_82) (fun _ _ => ⟨rfl, e61, (by decide : 6 + 2 ≤ _), (by decide : 72 + 5 ≤ _)⟩)
      have f72 : Exa Z h61 b49 "com/example/orderly_lock/orderlylock/LockName" := f62.ext E61
      have f73 : Exa Z h61 b52 "java/lang/String" := f64.ext E61
      have f74 : Arv Z h61 c52 d52 .byte (6 : Int32) [(.int (108 : Int32)), (.int (101 : Int32)), (.int (100 : Int32)), (.int (103 : Int32)), (.int (101 : Int32)), (.int (114 : Int32))] (.int (0 : Int32)) := f66.ext E61
      dsimp only [Pt.U, Pt.locs, Pt.cells, Pt.slots] at X71 l71 y71 z71 st71 hQ71
      replace X71 := own_num (c' := 8) (n' := 77) X71 l71 (y71.trans rfl) (z71.trans rfl)
      obtain ⟨r_71, rb_71, kr_71, rfl, N71q, K71q, c71_0, c71_1, c71_2, c71_3, c71_4, c71_5, c71_6, c71_7, c71_8⟩ := hQ71
      have N71 := Fr.app N60 N71q
      have Z71 : n0 ≤ T71.heap.size := Nat.le_trans Z61 K71q.1
      have K71 : Keep h0 T71.heap [] := K61.trans K71q all0
      have ne75 : b49 ≠ r_71 := Nat.ne_of_lt (Nat.lt_of_lt_of_le f72.lt c71_6)
      have ne76 : b52 ≠ r_71 := Nat.ne_of_lt (Nat.lt_of_lt_of_le f73.lt c71_6)
      have ne77 : c52 ≠ r_71 := Nat.ne_of_lt (Nat.lt_of_lt_of_le f74.lt c71_6)
      have ne78 : b61 ≠ r_71 := Nat.ne_of_lt (Nat.lt_of_lt_of_le A61.lt c71_6)
      have z79 : h0.size ≤ r_71 := Nat.le_trans K61.1 c71_6
      have ne80 : b49 ≠ rb_71 := Nat.ne_of_lt (Nat.lt_of_lt_of_le f72.lt c71_7)
      have ne81 : b52 ≠ rb_71 := Nat.ne_of_lt (Nat.lt_of_lt_of_le f73.lt c71_7)
      have ne82 : c52 ≠ rb_71 := Nat.ne_of_lt (Nat.lt_of_lt_of_le f74.lt c71_7)
      have ne83 : b61 ≠ rb_71 := Nat.ne_of_lt (Nat.lt_of_lt_of_le A61.lt c71_7)
      have z84 : h0.size ≤ rb_71 := Nat.le_trans K61.1 c71_7
      refine own_onW st71 ?_
      show OwnGoW p e below s _ _ _ (T71.setTop (mkF m 85 #[.val (.int fl), .val (.long hi), .second, .val (.long tok), .second, .val (.int sess), .val (.int (1 : Int32)), .val (.int (0 : Int32)), .val (.ref b49), .val .null, .val (.long (1 : Int64)), .second] [(.ref r_71), (.ref b49), (.ref b61), (.ref b61)]))
      refine own_onW (fun t k => XS.lload X71.here hx rfl (hb hby at_85) rfl k) ?_
      show OwnGoW p e below s _ _ _ (T71.setTop (mkF m 87 #[.val (.int fl), .val (.long hi), .second, .val (.long tok), .second, .val (.int sess), .val (.int (1 : Int32)), .val (.int (0 : Int32)), .val (.ref b49), .val .null, .val (.long (1 : Int64)), .second] [(.long (1 : Int64)), (.ref r_71), (.ref b49), (.ref b61), (.ref b61)]))
      have f85 : Exa Z T71.heap b61 "com/example/orderly_lock/orderlylock/Grant" := A61.keep K71q
      have f86 : Fld Z T71.heap b61 "com/example/orderly_lock/orderlylock/Grant" "lock" "Lcom/example/orderly_lock/orderlylock/LockName;" .null := F61_lock.keep K71q nin0
      have f87 : Fld Z T71.heap b61 "com/example/orderly_lock/orderlylock/Grant" "session" "Ljava/lang/String;" .null := F61_session.keep K71q nin0
      have f88 : Fld Z T71.heap b61 "com/example/orderly_lock/orderlylock/Grant" "token" "J" (.long (0 : Int64)) := F61_token.keep K71q nin0
      obtain ⟨_, _, ⟨T89, L89, k89, n89⟩, -, X89, hS89, hG89, ⟨Lc89, hQ89, l89, y89, z89⟩, st89⟩ := X71.specialBackS hx (y := (⟨"com/example/orderly_lock/orderlylock/Grant", "<init>", "(Lcom/example/orderly_lock/orderlylock/LockName;Ljava/lang/String;J)V"⟩ : MethodName)) rfl hown (mvT hZ (w113 hw)) (mvT hZ (w114 hw)) (mvT hZ (w115 hw)) (by decide) (backOfS (W := 1) (rm20 l Z a0 hw [] b61 b49 r_71 (1 : Int64) .null .null (.long (0 : Int64)) T71.heap n0 Z71 f85 f86 f87 f88 g68 ht1) hZ (w115 hw) (w97 hw) (by decide) (by decide)) (g := (mkF m 87 #[.val (.int fl), .val (.long hi), .second, .val (.long tok), .second, .val (.int sess), .val (.int (1 : Int32)), .val (.int (0 : Int32)), .val (.ref b49), .val .null, .val (.long (1 : Int64)), .second] [(.long (1 : Int64)), (.ref r_71), (.ref b49), (.ref b61), (.ref b61)])) rfl (by rw [hml]; rfl) (Steps.refl _) (a := b61) (argsL := [(.ref b49), (.ref r_71), (.long (1 : Int64))]) (rest := [(.ref b61)]) (lenOf pd_15 rfl) rfl (by show 2 * 0 + _ ≤ _; exact Nat.le_of_eq rfl) (hb hby at_87) (fun _ _ => ⟨rfl, rfl, (by decide : 8 + 4 ≤ _), (by decide : 77 + 52 ≤ _)⟩)
      dsimp only [Pt.U, Pt.locs, Pt.cells, Pt.slots] at X89 l89 y89 z89 st89 hQ89 hS89 hG89
      have f90 : T60.heap.size ≤ h61.size := Nat.le_trans hk60 E61.1
      have f91 : T60.heap.size ≤ T71.heap.size := Nat.le_trans f90 K71q.1
      obtain ⟨X89, hS89, hZ, hown⟩ := rebS hS60 (by exact f91) X89 hS89 hG89 hZ hown
      replace X89 := own_num (c' := 12) (n' := 129) X89 l89 (y89.trans rfl) (z89.trans rfl)
      obtain ⟨rfl, N89q, K89q, c89_0⟩ := hQ89
      have N89 := Fr.app N71 N89q
      have Z89 : n0 ≤ T89.heap.size := Nat.le_trans Z71 K89q.1
      have K89 : Keep h0 T89.heap [] := K71.trans K89q (allS (P := fun x => x ∈ [] ∨ h0.size ≤ x) (Or.inr z69) all0)
      have hk89 : T89.heap.size ≤ T89.heap.size := Nat.le_refl _
      refine own_trW st89 ?_
      show OwnGoW p e below s _ _ _ (T89.setTop (mkF m 90 #[.val (.int fl), .val (.long hi), .second, .val (.long tok), .second, .val (.int sess), .val (.int (1 : Int32)), .val (.int (0 : Int32)), .val (.ref b49), .val .null, .val (.long (1 : Int64)), .second] [(.ref b61)]))
      refine own_onW (fun t k => XS.astore X89.here hx rfl (hb hby at_90) rfl rfl (l' := #[.val (.int fl), .val (.long hi), .second, .val (.long tok), .second, .val (.int sess), .val (.int (1 : Int32)), .val (.int (0 : Int32)), .val (.ref b49), .val (.ref b61), .val (.long (1 : Int64)), .second]) rfl k) ?_
      show OwnGoW p e below s _ _ _ (T89.setTop (mkF m 92 #[.val (.int fl), .val (.long hi), .second, .val (.long tok), .second, .val (.int sess), .val (.int (1 : Int32)), .val (.int (0 : Int32)), .val (.ref b49), .val (.ref b61), .val (.long (1 : Int64)), .second] []))
      obtain ⟨T92, h92, X92, e92, E92, A92, D92, u92, st92⟩ := newO X89 hx hZ hown (w72 hw) (w73 hw) (w74 hw) rfl (g := (mkF m 92 #[.val (.int fl), .val (.long hi), .second, .val (.long tok), .second, .val (.int sess), .val (.int (1 : Int32)), .val (.int (0 : Int32)), .val (.ref b49), .val (.ref b61), .val (.long (1 : Int64)), .second] [])) rfl (hb hby at_92) (by decide) (by decide)
      obtain ⟨b92, g92⟩ : ∃ z, z = T89.heap.size := ⟨_, rfl⟩
      rw [← g92] at A92 D92 st92
      have f93 : Exa Z T71.heap b49 "com/example/orderly_lock/orderlylock/LockName" := f72.keep K71q
      have f94 : Exa Z T89.heap b49 "com/example/orderly_lock/orderlylock/LockName" := f93.keep K89q
      have ne95 : b49 ≠ b92 := Nat.ne_of_lt (Nat.lt_of_lt_of_le f94.lt (Nat.le_of_eq g92.symm))
      have f96 : Exa Z T71.heap b52 "java/lang/String" := f73.keep K71q
      have f97 : Exa Z T89.heap b52 "java/lang/String" := f96.keep K89q
      have ne98 : b52 ≠ b92 := Nat.ne_of_lt (Nat.lt_of_lt_of_le f97.lt (Nat.le_of_eq g92.symm))
      have f99 : Arv Z T71.heap c52 d52 .byte (6 : Int32) [(.int (108 : Int32)), (.int (101 : Int32)), (.int (100 : Int32)), (.int (103 : Int32)), (.int (101 : Int32)), (.int (114 : Int32))] (.int (0 : Int32)) := f74.keep K71q nin0
      have f100 : Arv Z T89.heap c52 d52 .byte (6 : Int32) [(.int (108 : Int32)), (.int (101 : Int32)), (.int (100 : Int32)), (.int (103 : Int32)), (.int (101 : Int32)), (.int (114 : Int32))] (.int (0 : Int32)) := f99.keep K89q (ninS ne67 nin0)
      have ne101 : c52 ≠ b92 := Nat.ne_of_lt (Nat.lt_of_lt_of_le f100.lt (Nat.le_of_eq g92.symm))
      have f102 : Exa Z T89.heap b61 "com/example/orderly_lock/orderlylock/Grant" := f85.keep K89q
      have ne103 : b61 ≠ b92 := Nat.ne_of_lt (Nat.lt_of_lt_of_le f102.lt (Nat.le_of_eq g92.symm))
      have f104 : Exa Z T89.heap r_71 "java/lang/String" := c71_0.keep K89q
      have ne105 : r_71 ≠ b92 := Nat.ne_of_lt (Nat.lt_of_lt_of_le f104.lt (Nat.le_of_eq g92.symm))
      have f106 : Arv Z T89.heap rb_71 kr_71 .byte (1 : Int32) [(.int (nar .byte (((sess &&& (255 : Int32)).toUInt32.toUInt16.toUInt32.toInt32).toInt8.toInt32)))] (.int (0 : Int32)) := c71_3.keep K89q (ninS (Ne.symm ne83) nin0)
      have ne107 : rb_71 ≠ b92 := Nat.ne_of_lt (Nat.lt_of_lt_of_le f106.lt (Nat.le_of_eq g92.symm))
      have g108 : n0 ≤ b92 := Nat.le_trans Z89 (Nat.le_of_eq g92.symm)
      have z109 : h0.size ≤ b92 := Nat.le_trans K89.1 (Nat.le_of_eq g92.symm)
      have Z92 : n0 ≤ h92.size := Nat.le_trans Z89 E92.1
      have K92 : Keep h0 h92 [] := K89.ext E92
      have F92_lock : Fld Z h92 b92 "com/example/orderly_lock/orderlylock/LockState" "lock" "Lcom/example/orderly_lock/orderlylock/LockName;" .null := D92 (Or.inr (w82 hw)) (ty := (.object "com/example/orderly_lock/orderlylock/LockName")) (by decide)
      have F92_holder : Fld Z h92 b92 "com/example/orderly_lock/orderlylock/LockState" "holder" "Lcom/example/orderly_lock/orderlylock/Grant;" .null := D92 (Or.inr (w84 hw)) (ty := (.object "com/example/orderly_lock/orderlylock/Grant")) (by decide)
      have F92_highestToken : Fld Z h92 b92 "com/example/orderly_lock/orderlylock/LockState" "highestToken" "J" (.long (0 : Int64)) := D92 (Or.inr (w86 hw)) (ty := .long) (by decide)
      have F92_delayed : Fld Z h92 b92 "com/example/orderly_lock/orderlylock/LockState" "delayed" "Z" (.int (0 : Int32)) := D92 (Or.inr (w88 hw)) (ty := .boolean) (by decide)
      refine own_onW st92 ?_
      show OwnGoW p e below s _ _ _ (T92.setTop (mkF m 95 #[.val (.int fl), .val (.long hi), .second, .val (.long tok), .second, .val (.int sess), .val (.int (1 : Int32)), .val (.int (0 : Int32)), .val (.ref b49), .val (.ref b61), .val (.long (1 : Int64)), .second] [(.ref b92)]))
      refine own_onW (fun t k => XS.dup X92.here hx rfl (hb hby at_95) rfl rfl k) ?_
      show OwnGoW p e below s _ _ _ (T92.setTop (mkF m 96 #[.val (.int fl), .val (.long hi), .second, .val (.long tok), .second, .val (.int sess), .val (.int (1 : Int32)), .val (.int (0 : Int32)), .val (.ref b49), .val (.ref b61), .val (.long (1 : Int64)), .second] [(.ref b92), (.ref b92)]))
      refine own_onW (fun t k => XS.aload X92.here hx rfl (hb hby at_96) rfl rfl k) ?_
      show OwnGoW p e below s _ _ _ (T92.setTop (mkF m 98 #[.val (.int fl), .val (.long hi), .second, .val (.long tok), .second, .val (.int sess), .val (.int (1 : Int32)), .val (.int (0 : Int32)), .val (.ref b49), .val (.ref b61), .val (.long (1 : Int64)), .second] [(.ref b49), (.ref b92), (.ref b92)]))
      refine own_onW (fun t k => XS.aload X92.here hx rfl (hb hby at_98) rfl rfl k) ?_
      show OwnGoW p e below s _ _ _ (T92.setTop (mkF m 100 #[.val (.int fl), .val (.long hi), .second, .val (.long tok), .second, .val (.int sess), .val (.int (1 : Int32)), .val (.int (0 : Int32)), .val (.ref b49), .val (.ref b61), .val (.long (1 : Int64)), .second] [(.ref b61), (.ref b49), (.ref b92), (.ref b92)]))
      refine own_onW (fun t k => XS.lloadN X92.here hx rfl (hb hby at_100) rfl k) ?_
      show OwnGoW p e below s _ _ _ (T92.setTop (mkF m 101 #[.val (.int fl), .val (.long hi), .second, .val (.long tok), .second, .val (.int sess), .val (.int (1 : Int32)), .val (.int (0 : Int32)), .val (.ref b49), .val (.ref b61), .val (.long (1 : Int64)), .second] [(.long hi), (.ref b61), (.ref b49), (.ref b92), (.ref b92)]))
      refine own_onW (fun t k => XS.iload X92.here hx rfl (hb hby at_101) rfl k) ?_
      show OwnGoW p e below s _ _ _ (T92.setTop (mkF m 103 #[.val (.int fl), .val (.long hi), .second, .val (.long tok), .second, .val (.int sess), .val (.int (1 : Int32)), .val (.int (0 : Int32)), .val (.ref b49), .val (.ref b61), .val (.long (1 : Int64)), .second] [(.int (0 : Int32)), (.long hi), (.ref b61), (.ref b49), (.ref b92), (.ref b92)]))
      obtain ⟨_, _, ⟨T110, L110, k110, n110⟩, -, X110, hS110, hG110, ⟨Lc110, hQ110, l110, y110, z110⟩, st110⟩ := X92.specialBackS hx (y := (⟨"com/example/orderly_lock/orderlylock/LockState", "<init>", "(Lcom/example/orderly_lock/orderlylock/LockName;Lcom/example/orderly_lock/orderlylock/Grant;JZ)V"⟩ : MethodName)) rfl hown (mvT hZ (w75 hw)) (mvT hZ (w76 hw)) (mvT hZ (w77 hw)) (by decide) (backOfS (W := 1) (rmlsR l Z a0 hw [] b92 b49 b61 hi .null .null (.long (0 : Int64)) (.int (0 : Int32)) h92 n0 Z92 A92 F92_lock F92_holder F92_highestToken F92_delayed g108) hZ (w77 hw) (w74 hw) (by decide) (by decide)) (g := (mkF m 103 #[.val (.int fl), .val (.long hi), .second, .val (.long tok), .second, .val (.int sess), .val (.int (1 : Int32)), .val (.int (0 : Int32)), .val (.ref b49), .val (.ref b61), .val (.long (1 : Int64)), .second] [(.int (0 : Int32)), (.long hi), (.ref b61), (.ref b49), (.ref b92), (.ref b92)])) rfl (by rw [hml]; rfl) (Steps.refl _) (a := b92) (argsL := [(.ref b49), (.ref b61), (.long hi), (.int (0 : Int32))]) (rest := [(.ref b92)]) (lenOf pd_13 rfl) rfl (by show 2 * 0 + _ ≤ _; exact Nat.le_of_eq rfl) (hb hby at_103) (fun _ _ => ⟨rfl, e92, (by decide : 13 + 2 ≤ _), (by decide : 133 + 20 ≤ _)⟩)
      dsimp only [Pt.U, Pt.locs, Pt.cells, Pt.slots] at X110 l110 y110 z110 st110 hQ110 hS110 hG110
      have f111 : T89.heap.size ≤ h92.size := Nat.le_trans hk89 E92.1
      obtain ⟨X110, hS110, hZ, hown⟩ := rebS hS89 (by rw [e92]; exact f111) X110 hS110 hG110 hZ hown
      replace X110 := own_num (c' := 15) (n' := 153) X110 l110 (y110.trans rfl) (z110.trans rfl)
      obtain ⟨rfl, N110q, K110q, c110_0, c110_1⟩ := hQ110
      have N110 := Fr.app N89 N110q
      have Z110 : n0 ≤ T110.heap.size := Nat.le_trans Z92 K110q.1
      have K110 : Keep h0 T110.heap [] := K92.trans K110q (allS (P := fun x => x ∈ [] ∨ h0.size ≤ x) (Or.inr z109) all0)
      have hk110 : T110.heap.size ≤ T110.heap.size := Nat.le_refl _
      refine own_trW st110 ?_
      show OwnGoW p e below s _ _ _ (T110.setTop (mkF m 106 #[.val (.int fl), .val (.long hi), .second, .val (.long tok), .second, .val (.int sess), .val (.int (1 : Int32)), .val (.int (0 : Int32)), .val (.ref b49), .val (.ref b61), .val (.long (1 : Int64)), .second] [(.ref b92)]))
      refine own_onW (fun t k => XS.astore X110.here hx rfl (hb hby at_106) rfl rfl (l' := #[.val (.int fl), .val (.long hi), .second, .val (.long tok), .second, .val (.int sess), .val (.int (1 : Int32)), .val (.int (0 : Int32)), .val (.ref b49), .val (.ref b61), .val (.ref b92), .unset]) rfl k) ?_
      show OwnGoW p e below s _ _ _ (T110.setTop (mkF m 108 #[.val (.int fl), .val (.long hi), .second, .val (.long tok), .second, .val (.int sess), .val (.int (1 : Int32)), .val (.int (0 : Int32)), .val (.ref b49), .val (.ref b61), .val (.ref b92), .unset] []))
      refine own_onW (fun t k => XS.aload X110.here hx rfl (hb hby at_108) rfl rfl k) ?_
      show OwnGoW p e below s _ _ _ (T110.setTop (mkF m 110 #[.val (.int fl), .val (.long hi), .second, .val (.long tok), .second, .val (.int sess), .val (.int (1 : Int32)), .val (.int (0 : Int32)), .val (.ref b49), .val (.ref b61), .val (.ref b92), .unset] [(.ref b92)]))
      obtain ⟨cq112, kq112, q112a, q112b, q112c⟩ := isOf hZ rfl c110_0
      obtain ⟨_, _, ⟨T112, L112, k112, n112⟩, -, X112, ⟨Lc112, hQ112, l112, y112, z112⟩, st112⟩ := X110.virtualBack hx (y := (⟨"com/example/orderly_lock/orderlylock/LockState", "held", "()Z"⟩ : MethodName)) (z := (⟨"com/example/orderly_lock/orderlylock/LockState", "held", "()Z"⟩ : MethodName)) hown (mvT hZ (w89 hw)) (mvT hZ (w90 hw)) (notFace_of_selects (args := #[]) (mvT hZ (w92 hw))) (mvT hZ (w92 hw)) (mvT hZ (w91 hw)) (by decide) (backOf (W := 0) (rmhR l Z a0 hw [] b92 b61 T110.heap n0 Z110 c110_1) hZ (w93 hw) (w74 hw) (by decide) (by decide)) q112a q112c (g := (mkF m 110 #[.val (.int fl), .val (.long hi), .second, .val (.long tok), .second, .val (.int sess), .val (.int (1 : Int32)), .val (.int (0 : Int32)), .val (.ref b49), .val (.ref b61), .val (.ref b92), .unset] [(.ref b92)])) rfl (by rw [hml]; rfl) (Steps.refl _) (argsL := []) (rest := []) (lenOf pd_3 rfl) rfl (by show 2 * 0 + _ ≤ _; exact Nat.le_of_eq rfl) (hb hby at_110) (fun _ _ => ⟨rfl, rfl, (by decide : 15 + 0 ≤ _), (by decide : 153 + 0 ≤ _)⟩)
      dsimp only [Pt.U, Pt.locs, Pt.cells, Pt.slots] at X112 l112 y112 z112 st112 hQ112
      replace X112 := own_num (c' := 15) (n' := 153) X112 l112 (y112.trans rfl) (z112.trans rfl)
      obtain ⟨rfl, N112q, e112⟩ := hQ112
      have N112 := Fr.app N110 N112q
      refine own_trW st112 ?_
      show OwnGoW p e below s _ _ _ (T112.setTop (mkF m 113 #[.val (.int fl), .val (.long hi), .second, .val (.long tok), .second, .val (.int sess), .val (.int (1 : Int32)), .val (.int (0 : Int32)), .val (.ref b49), .val (.ref b61), .val (.ref b92), .unset] [(.int (1 : Int32))]))
      refine own_onW (fun t k => XS.istore X112.here hx rfl (hb hby at_113) rfl (l' := #[.val (.int fl), .val (.long hi), .second, .val (.long tok), .second, .val (.int sess), .val (.int (1 : Int32)), .val (.int (0 : Int32)), .val (.ref b49), .val (.ref b61), .val (.ref b92), .val (.int (1 : Int32))]) rfl k) ?_
      show OwnGoW p e below s _ _ _ (T112.setTop (mkF m 115 #[.val (.int fl), .val (.long hi), .second, .val (.long tok), .second, .val (.int sess), .val (.int (1 : Int32)), .val (.int (0 : Int32)), .val (.ref b49), .val (.ref b61), .val (.ref b92), .val (.int (1 : Int32))] []))
      refine own_onW (fun t k => XS.iload X112.here hx rfl (hb hby at_115) rfl k) ?_
      show OwnGoW p e below s _ _ _ (T112.setTop (mkF m 117 #[.val (.int fl), .val (.long hi), .second, .val (.long tok), .second, .val (.int sess), .val (.int (1 : Int32)), .val (.int (0 : Int32)), .val (.ref b49), .val (.ref b61), .val (.ref b92), .val (.int (1 : Int32))] [(.int (1 : Int32))]))
      refine own_onW (fun t k => XS.iload X112.here hx rfl (hb hby at_117) rfl k) ?_
      show OwnGoW p e below s _ _ _ (T112.setTop (mkF m 119 #[.val (.int fl), .val (.long hi), .second, .val (.long tok), .second, .val (.int sess), .val (.int (1 : Int32)), .val (.int (0 : Int32)), .val (.ref b49), .val (.ref b61), .val (.ref b92), .val (.int (1 : Int32))] [(.int (1 : Int32)), (.int (1 : Int32))]))
      refine own_onW (fun t k => XS.icmpYes X112.here hx rfl (pc0 := 119) (pc' := 124) rfl (hb hby at_119) rfl (teq (by decide : (1 : Int32) = (1 : Int32))).1 (by decide) (by decide) k) ?_
      show OwnGoW p e below s _ _ _ (T112.setTop (mkF m 124 #[.val (.int fl), .val (.long hi), .second, .val (.long tok), .second, .val (.int sess), .val (.int (1 : Int32)), .val (.int (0 : Int32)), .val (.ref b49), .val (.ref b61), .val (.ref b92), .val (.int (1 : Int32))] []))
      refine own_onW (fun t k => XS.iload X112.here hx rfl (hb hby at_124) rfl k) ?_
      show OwnGoW p e below s _ _ _ (T112.setTop (mkF m 126 #[.val (.int fl), .val (.long hi), .second, .val (.long tok), .second, .val (.int sess), .val (.int (1 : Int32)), .val (.int (0 : Int32)), .val (.ref b49), .val (.ref b61), .val (.ref b92), .val (.int (1 : Int32))] [(.int (0 : Int32))]))
      refine own_onW (fun t k => XS.ifYes X112.here hx rfl (pc0 := 126) (pc' := 136) rfl (hb hby at_126) rfl ((if0 _ _).trans (teq (by decide : (0 : Int32) = (0 : Int32))).1) (by decide) (by decide) k) ?_
      show OwnGoW p e below s _ _ _ (T112.setTop (mkF m 136 #[.val (.int fl), .val (.long hi), .second, .val (.long tok), .second, .val (.int sess), .val (.int (1 : Int32)), .val (.int (0 : Int32)), .val (.ref b49), .val (.ref b61), .val (.ref b92), .val (.int (1 : Int32))] []))
      refine own_onW (fun t k => XS.iconst X112.here hx rfl (hb hby at_136) k) ?_
      show OwnGoW p e below s _ _ _ (T112.setTop (mkF m 137 #[.val (.int fl), .val (.long hi), .second, .val (.long tok), .second, .val (.int sess), .val (.int (1 : Int32)), .val (.int (0 : Int32)), .val (.ref b49), .val (.ref b61), .val (.ref b92), .val (.int (1 : Int32))] [(.int (1 : Int32))]))
      exact own_retNW X112 hx hlk (t := .boolean) Bd.returns (by simp) (hb hby at_137) e112 ⟨rfl, N112, K110⟩ (by decide) (by decide) hS110 (by rw [e112]; exact hk110)
    · refine own_onW (fun t k => XS.ifYes X60.here hx rfl (pc0 := 63) (pc' := 69) rfl (hb hby at_63) rfl ((if0 _ _).trans (feq ht).2) (by decide) (by decide) k) ?_
      show OwnGoW p e below s _ _ _ (T60.setTop (mkF m 69 #[.val (.int fl), .val (.long hi), .second, .val (.long tok), .second, .val (.int sess), .val (.int (1 : Int32)), .val (.int (0 : Int32)), .val (.ref b49), .val .null, .val (.long (tok &&& (9223372036854775807 : Int64))), .second] []))
      obtain ⟨T113, h113, X113, e113, E113, A113, D113, u113, st113⟩ := newO X60 hx hZ hown (w95 hw) (w96 hw) (w97 hw) rfl (g := (mkF m 69 #[.val (.int fl), .val (.long hi), .second, .val (.long tok), .second, .val (.int sess), .val (.int (1 : Int32)), .val (.int (0 : Int32)), .val (.ref b49), .val .null, .val (.long (tok &&& (9223372036854775807 : Int64))), .second] [])) rfl (hb hby at_69) (by decide) (by decide)
      obtain ⟨b113, g113⟩ : ∃ z, z = T60.heap.size := ⟨_, rfl⟩
      rw [← g113] at A113 D113 st113
      have f114 : Exa Z T60.heap b49 "com/example/orderly_lock/orderlylock/LockName" := f54.keep K60q
      have ne115 : b49 ≠ b113 := Nat.ne_of_lt (Nat.lt_of_lt_of_le f114.lt (Nat.le_of_eq g113.symm))
      have f116 : Exa Z T60.heap b52 "java/lang/String" := xE52.keep K60q
      have ne117 : b52 ≠ b113 := Nat.ne_of_lt (Nat.lt_of_lt_of_le f116.lt (Nat.le_of_eq g113.symm))
      have f118 : Arv Z T60.heap c52 d52 .byte (6 : Int32) [(.int (108 : Int32)), (.int (101 : Int32)), (.int (100 : Int32)), (.int (103 : Int32)), (.int (101 : Int32)), (.int (114 : Int32))] (.int (0 : Int32)) := xA52.keep K60q (ninS (Ne.symm ne56) nin0)
      have ne119 : c52 ≠ b113 := Nat.ne_of_lt (Nat.lt_of_lt_of_le f118.lt (Nat.le_of_eq g113.symm))
      have g120 : n0 ≤ b113 := Nat.le_trans Z60 (Nat.le_of_eq g113.symm)
      have z121 : h0.size ≤ b113 := Nat.le_trans K60.1 (Nat.le_of_eq g113.symm)
      have Z113 : n0 ≤ h113.size := Nat.le_trans Z60 E113.1
      have K113 : Keep h0 h113 [] := K60.ext E113
      have F113_lock : Fld Z h113 b113 "com/example/orderly_lock/orderlylock/Grant" "lock" "Lcom/example/orderly_lock/orderlylock/LockName;" .null := D113 (Or.inr (w121 hw)) (ty := (.object "com/example/orderly_lock/orderlylock/LockName")) (by decide)
      have F113_session : Fld Z h113 b113 "com/example/orderly_lock/orderlylock/Grant" "session" "Ljava/lang/String;" .null := D113 (Or.inr (w123 hw)) (ty := (.object "java/lang/String")) (by decide)
      have F113_token : Fld Z h113 b113 "com/example/orderly_lock/orderlylock/Grant" "token" "J" (.long (0 : Int64)) := D113 (Or.inr (w125 hw)) (ty := .long) (by decide)
      refine own_onW st113 ?_
      show OwnGoW p e below s _ _ _ (T113.setTop (mkF m 72 #[.val (.int fl), .val (.long hi), .second, .val (.long tok), .second, .val (.int sess), .val (.int (1 : Int32)), .val (.int (0 : Int32)), .val (.ref b49), .val .null, .val (.long (tok &&& (9223372036854775807 : Int64))), .second] [(.ref b113)]))
      refine own_onW (fun t k => XS.dup X113.here hx rfl (hb hby at_72) rfl rfl k) ?_
      show OwnGoW p e below s _ _ _ (T113.setTop (mkF m 73 #[.val (.int fl), .val (.long hi), .second, .val (.long tok), .second, .val (.int sess), .val (.int (1 : Int32)), .val (.int (0 : Int32)), .val (.ref b49), .val .null, .val (.long (tok &&& (9223372036854775807 : Int64))), .second] [(.ref b113), (.ref b113)]))
      refine own_onW (fun t k => XS.aload X113.here hx rfl (hb hby at_73) rfl rfl k) ?_
      show OwnGoW p e below s _ _ _ (T113.setTop (mkF m 75 #[.val (.int fl), .val (.long hi), .second, .val (.long tok), .second, .val (.int sess), .val (.int (1 : Int32)), .val (.int (0 : Int32)), .val (.ref b49), .val .null, .val (.long (tok &&& (9223372036854775807 : Int64))), .second] [(.ref b49), (.ref b113), (.ref b113)]))
      refine own_onW (fun t k => XS.iload X113.here hx rfl (hb hby at_75) rfl k) ?_
      show OwnGoW p e below s _ _ _ (T113.setTop (mkF m 77 #[.val (.int fl), .val (.long hi), .second, .val (.long tok), .second, .val (.int sess), .val (.int (1 : Int32)), .val (.int (0 : Int32)), .val (.ref b49), .val .null, .val (.long (tok &&& (9223372036854775807 : Int64))), .second] [(.int sess), (.ref b49), (.ref b113), (.ref b113)]))
      refine own_onW (fun t k => XS.sipush X113.here hx rfl (hb hby at_77) k) ?_
      show OwnGoW p e below s _ _ _ (T113.setTop (mkF m 80 #[.val (.int fl), .val (.long hi), .second, .val (.long tok), .second, .val (.int sess), .val (.int (1 : Int32)), .val (.int (0 : Int32)), .val (.ref b49), .val .null, .val (.long (tok &&& (9223372036854775807 : Int64))), .second] [(.int (255 : Int32)), (.int sess), (.ref b49), (.ref b113), (.ref b113)]))
      refine own_onW (fun t k => XS.iand X113.here hx rfl (hb hby at_80) rfl k) ?_
      show OwnGoW p e below s _ _ _ (T113.setTop (mkF m 81 #[.val (.int fl), .val (.long hi), .second, .val (.long tok), .second, .val (.int sess), .val (.int (1 : Int32)), .val (.int (0 : Int32)), .val (.ref b49), .val .null, .val (.long (tok &&& (9223372036854775807 : Int64))), .second] [(.int (sess &&& (255 : Int32))), (.ref b49), (.ref b113), (.ref b113)]))
      refine own_onW (fun t k => XS.i2c X113.here hx rfl (hb hby at_81) rfl k) ?_
      show OwnGoW p e below s _ _ _ (T113.setTop (mkF m 82 #[.val (.int fl), .val (.long hi), .second, .val (.long tok), .second, .val (.int sess), .val (.int (1 : Int32)), .val (.int (0 : Int32)), .val (.ref b49), .val .null, .val (.long (tok &&& (9223372036854775807 : Int64))), .second] [(.int ((sess &&& (255 : Int32)).toUInt32.toUInt16.toUInt32.toInt32)), (.ref b49), (.ref b113), (.ref b113)]))
      have hv : ¬ (255 : Int32) < ((sess &&& (255 : Int32)).toUInt32.toUInt16.toUInt32.toInt32) := own_le255 _
      have ht1 : ¬ ((lcmpW (tok &&& (9223372036854775807 : Int64)) (1 : Int64)) < (0 : Int32)) := own_tok _ ht
      have f122 : Old Z n0 h113 := c60_1.ext E113
      obtain ⟨_, _, ⟨T123, L123, k123, n123⟩, -, X123, ⟨Lc123, hQ123, l123, y123, z123⟩, st123⟩ := Jvm.LawKit.callS X113 hx (y := (⟨"java/lang/String", "valueOf", "(C)Ljava/lang/String;"⟩ : MethodName)) hown (mvT hZ (w98 hw)) (mvT hZ (w99 hw)) (mvT hZ (w4 hw)) (mvT hZ (w100 hw)) (by decide) (backOf (W := 3) (rm16 l Z a0 hw [] ((sess &&& (255 : Int32)).toUInt32.toUInt16.toUInt32.toInt32) cs h113 n0 Z113 f122 P1 P2 hv) hZ (w100 hw) (w4 hw) (by decide) (by decide)) (g := (mkF m 82 #[.val (.int fl), .val (.long hi), .second, .val (.long tok), .second, .val (.int sess), .val (.int (1 : Int32)), .val (.int (0 : Int32)), .val (.ref b49), .val .null, .val (.long (tok &&& (9223372036854775807 : Int64))), .second] [(.int ((sess &&& (255 : Int32)).toUInt32.toUInt16.toUInt32.toInt32)), (.ref b49), (.ref b113), (.ref b113)])) rfl (by rw [hml]; rfl) (argsL := [(.int ((sess &&& (255 : Int32)).toUInt32.toUInt16.toUInt32.toInt32))]) (rest := [(.ref b49), (.ref b113), (.ref b113)]) (lenOf pd_14 rfl) rfl (by show 2 * 0 + _ ≤ _; exact Nat.le_of_eq rfl) (hb hby at_82) (fun _ _ => ⟨rfl, e113, (by decide : 6 + 2 ≤ _), (by decide : 72 + 5 ≤ _)⟩)
      have f124 : Exa Z h113 b49 "com/example/orderly_lock/orderlylock/LockName" := f114.ext E113
      have f125 : Exa Z h113 b52 "java/lang/String" := f116.ext E113
      have f126 : Arv Z h113 c52 d52 .byte (6 : Int32) [(.int (108 : Int32)), (.int (101 : Int32)), (.int (100 : Int32)), (.int (103 : Int32)), (.int (101 : Int32)), (.int (114 : Int32))] (.int (0 : Int32)) := f118.ext E113
      dsimp only [Pt.U, Pt.locs, Pt.cells, Pt.slots] at X123 l123 y123 z123 st123 hQ123
      replace X123 := own_num (c' := 8) (n' := 77) X123 l123 (y123.trans rfl) (z123.trans rfl)
      obtain ⟨r_123, rb_123, kr_123, rfl, N123q, K123q, c123_0, c123_1, c123_2, c123_3, c123_4, c123_5, c123_6, c123_7, c123_8⟩ := hQ123
      have N123 := Fr.app N60 N123q
      have Z123 : n0 ≤ T123.heap.size := Nat.le_trans Z113 K123q.1
      have K123 : Keep h0 T123.heap [] := K113.trans K123q all0
      have ne127 : b49 ≠ r_123 := Nat.ne_of_lt (Nat.lt_of_lt_of_le f124.lt c123_6)
      have ne128 : b52 ≠ r_123 := Nat.ne_of_lt (Nat.lt_of_lt_of_le f125.lt c123_6)
      have ne129 : c52 ≠ r_123 := Nat.ne_of_lt (Nat.lt_of_lt_of_le f126.lt c123_6)
      have ne130 : b113 ≠ r_123 := Nat.ne_of_lt (Nat.lt_of_lt_of_le A113.lt c123_6)
      have z131 : h0.size ≤ r_123 := Nat.le_trans K113.1 c123_6
      have ne132 : b49 ≠ rb_123 := Nat.ne_of_lt (Nat.lt_of_lt_of_le f124.lt c123_7)
      have ne133 : b52 ≠ rb_123 := Nat.ne_of_lt (Nat.lt_of_lt_of_le f125.lt c123_7)
      have ne134 : c52 ≠ rb_123 := Nat.ne_of_lt (Nat.lt_of_lt_of_le f126.lt c123_7)
      have ne135 : b113 ≠ rb_123 := Nat.ne_of_lt (Nat.lt_of_lt_of_le A113.lt c123_7)
      have z136 : h0.size ≤ rb_123 := Nat.le_trans K113.1 c123_7
      refine own_onW st123 ?_
      show OwnGoW p e below s _ _ _ (T123.setTop (mkF m 85 #[.val (.int fl), .val (.long hi), .second, .val (.long tok), .second, .val (.int sess), .val (.int (1 : Int32)), .val (.int (0 : Int32)), .val (.ref b49), .val .null, .val (.long (tok &&& (9223372036854775807 : Int64))), .second] [(.ref r_123), (.ref b49), (.ref b113), (.ref b113)]))
      refine own_onW (fun t k => XS.lload X123.here hx rfl (hb hby at_85) rfl k) ?_
      show OwnGoW p e below s _ _ _ (T123.setTop (mkF m 87 #[.val (.int fl), .val (.long hi), .second, .val (.long tok), .second, .val (.int sess), .val (.int (1 : Int32)), .val (.int (0 : Int32)), .val (.ref b49), .val .null, .val (.long (tok &&& (9223372036854775807 : Int64))), .second] [(.long (tok &&& (9223372036854775807 : Int64))), (.ref r_123), (.ref b49), (.ref b113), (.ref b113)]))
      have f137 : Exa Z T123.heap b113 "com/example/orderly_lock/orderlylock/Grant" := A113.keep K123q
      have f138 : Fld Z T123.heap b113 "com/example/orderly_lock/orderlylock/Grant" "lock" "Lcom/example/orderly_lock/orderlylock/LockName;" .null := F113_lock.keep K123q nin0
      have f139 : Fld Z T123.heap b113 "com/example/orderly_lock/orderlylock/Grant" "session" "Ljava/lang/String;" .null := F113_session.keep K123q nin0
      have f140 : Fld Z T123.heap b113 "com/example/orderly_lock/orderlylock/Grant" "token" "J" (.long (0 : Int64)) := F113_token.keep K123q nin0
      obtain ⟨_, _, ⟨T141, L141, k141, n141⟩, -, X141, hS141, hG141, ⟨Lc141, hQ141, l141, y141, z141⟩, st141⟩ := X123.specialBackS hx (y := (⟨"com/example/orderly_lock/orderlylock/Grant", "<init>", "(Lcom/example/orderly_lock/orderlylock/LockName;Ljava/lang/String;J)V"⟩ : MethodName)) rfl hown (mvT hZ (w113 hw)) (mvT hZ (w114 hw)) (mvT hZ (w115 hw)) (by decide) (backOfS (W := 1) (rm20 l Z a0 hw [] b113 b49 r_123 (tok &&& (9223372036854775807 : Int64)) .null .null (.long (0 : Int64)) T123.heap n0 Z123 f137 f138 f139 f140 g120 ht1) hZ (w115 hw) (w97 hw) (by decide) (by decide)) (g := (mkF m 87 #[.val (.int fl), .val (.long hi), .second, .val (.long tok), .second, .val (.int sess), .val (.int (1 : Int32)), .val (.int (0 : Int32)), .val (.ref b49), .val .null, .val (.long (tok &&& (9223372036854775807 : Int64))), .second] [(.long (tok &&& (9223372036854775807 : Int64))), (.ref r_123), (.ref b49), (.ref b113), (.ref b113)])) rfl (by rw [hml]; rfl) (Steps.refl _) (a := b113) (argsL := [(.ref b49), (.ref r_123), (.long (tok &&& (9223372036854775807 : Int64)))]) (rest := [(.ref b113)]) (lenOf pd_15 rfl) rfl (by show 2 * 0 + _ ≤ _; exact Nat.le_of_eq rfl) (hb hby at_87) (fun _ _ => ⟨rfl, rfl, (by decide : 8 + 4 ≤ _), (by decide : 77 + 52 ≤ _)⟩)
      dsimp only [Pt.U, Pt.locs, Pt.cells, Pt.slots] at X141 l141 y141 z141 st141 hQ141 hS141 hG141
      have f142 : T60.heap.size ≤ h113.size := Nat.le_trans hk60 E113.1
      have f143 : T60.heap.size ≤ T123.heap.size := Nat.le_trans f142 K123q.1
      obtain ⟨X141, hS141, hZ, hown⟩ := rebS hS60 (by exact f143) X141 hS141 hG141 hZ hown
      replace X141 := own_num (c' := 12) (n' := 129) X141 l141 (y141.trans rfl) (z141.trans rfl)
      obtain ⟨rfl, N141q, K141q, c141_0⟩ := hQ141
      have N141 := Fr.app N123 N141q
      have Z141 : n0 ≤ T141.heap.size := Nat.le_trans Z123 K141q.1
      have K141 : Keep h0 T141.heap [] := K123.trans K141q (allS (P := fun x => x ∈ [] ∨ h0.size ≤ x) (Or.inr z121) all0)
      have hk141 : T141.heap.size ≤ T141.heap.size := Nat.le_refl _
      refine own_trW st141 ?_
      show OwnGoW p e below s _ _ _ (T141.setTop (mkF m 90 #[.val (.int fl), .val (.long hi), .second, .val (.long tok), .second, .val (.int sess), .val (.int (1 : Int32)), .val (.int (0 : Int32)), .val (.ref b49), .val .null, .val (.long (tok &&& (9223372036854775807 : Int64))), .second] [(.ref b113)]))
      refine own_onW (fun t k => XS.astore X141.here hx rfl (hb hby at_90) rfl rfl (l' := #[.val (.int fl), .val (.long hi), .second, .val (.long tok), .second, .val (.int sess), .val (.int (1 : Int32)), .val (.int (0 : Int32)), .val (.ref b49), .val (.ref b113), .val (.long (tok &&& (9223372036854775807 : Int64))), .second]) rfl k) ?_
      show OwnGoW p e below s _ _ _ (T141.setTop (mkF m 92 #[.val (.int fl), .val (.long hi), .second, .val (.long tok), .second, .val (.int sess), .val (.int (1 : Int32)), .val (.int (0 : Int32)), .val (.ref b49), .val (.ref b113), .val (.long (tok &&& (9223372036854775807 : Int64))), .second] []))
      obtain ⟨T144, h144, X144, e144, E144, A144, D144, u144, st144⟩ := newO X141 hx hZ hown (w72 hw) (w73 hw) (w74 hw) rfl (g := (mkF m 92 #[.val (.int fl), .val (.long hi), .second, .val (.long tok), .second, .val (.int sess), .val (.int (1 : Int32)), .val (.int (0 : Int32)), .val (.ref b49), .val (.ref b113), .val (.long (tok &&& (9223372036854775807 : Int64))), .second] [])) rfl (hb hby at_92) (by decide) (by decide)
      obtain ⟨b144, g144⟩ : ∃ z, z = T141.heap.size := ⟨_, rfl⟩
      rw [← g144] at A144 D144 st144
      have f145 : Exa Z T123.heap b49 "com/example/orderly_lock/orderlylock/LockName" := f124.keep K123q
      have f146 : Exa Z T141.heap b49 "com/example/orderly_lock/orderlylock/LockName" := f145.keep K141q
      have ne147 : b49 ≠ b144 := Nat.ne_of_lt (Nat.lt_of_lt_of_le f146.lt (Nat.le_of_eq g144.symm))
      have f148 : Exa Z T123.heap b52 "java/lang/String" := f125.keep K123q
      have f149 : Exa Z T141.heap b52 "java/lang/String" := f148.keep K141q
      have ne150 : b52 ≠ b144 := Nat.ne_of_lt (Nat.lt_of_lt_of_le f149.lt (Nat.le_of_eq g144.symm))
      have f151 : Arv Z T123.heap c52 d52 .byte (6 : Int32) [(.int (108 : Int32)), (.int (101 : Int32)), (.int (100 : Int32)), (.int (103 : Int32)), (.int (101 : Int32)), (.int (114 : Int32))] (.int (0 : Int32)) := f126.keep K123q nin0
      have f152 : Arv Z T141.heap c52 d52 .byte (6 : Int32) [(.int (108 : Int32)), (.int (101 : Int32)), (.int (100 : Int32)), (.int (103 : Int32)), (.int (101 : Int32)), (.int (114 : Int32))] (.int (0 : Int32)) := f151.keep K141q (ninS ne119 nin0)
      have ne153 : c52 ≠ b144 := Nat.ne_of_lt (Nat.lt_of_lt_of_le f152.lt (Nat.le_of_eq g144.symm))
      have f154 : Exa Z T141.heap b113 "com/example/orderly_lock/orderlylock/Grant" := f137.keep K141q
      have ne155 : b113 ≠ b144 := Nat.ne_of_lt (Nat.lt_of_lt_of_le f154.lt (Nat.le_of_eq g144.symm))
      have f156 : Exa Z T141.heap r_123 "java/lang/String" := c123_0.keep K141q
      have ne157 : r_123 ≠ b144 := Nat.ne_of_lt (Nat.lt_of_lt_of_le f156.lt (Nat.le_of_eq g144.symm))
      have f158 : Arv Z T141.heap rb_123 kr_123 .byte (1 : Int32) [(.int (nar .byte (((sess &&& (255 : Int32)).toUInt32.toUInt16.toUInt32.toInt32).toInt8.toInt32)))] (.int (0 : Int32)) := c123_3.keep K141q (ninS (Ne.symm ne135) nin0)
      have ne159 : rb_123 ≠ b144 := Nat.ne_of_lt (Nat.lt_of_lt_of_le f158.lt (Nat.le_of_eq g144.symm))
      have g160 : n0 ≤ b144 := Nat.le_trans Z141 (Nat.le_of_eq g144.symm)
      have z161 : h0.size ≤ b144 := Nat.le_trans K141.1 (Nat.le_of_eq g144.symm)
      have Z144 : n0 ≤ h144.size := Nat.le_trans Z141 E144.1
      have K144 : Keep h0 h144 [] := K141.ext E144
      have F144_lock : Fld Z h144 b144 "com/example/orderly_lock/orderlylock/LockState" "lock" "Lcom/example/orderly_lock/orderlylock/LockName;" .null := D144 (Or.inr (w82 hw)) (ty := (.object "com/example/orderly_lock/orderlylock/LockName")) (by decide)
      have F144_holder : Fld Z h144 b144 "com/example/orderly_lock/orderlylock/LockState" "holder" "Lcom/example/orderly_lock/orderlylock/Grant;" .null := D144 (Or.inr (w84 hw)) (ty := (.object "com/example/orderly_lock/orderlylock/Grant")) (by decide)
      have F144_highestToken : Fld Z h144 b144 "com/example/orderly_lock/orderlylock/LockState" "highestToken" "J" (.long (0 : Int64)) := D144 (Or.inr (w86 hw)) (ty := .long) (by decide)
      have F144_delayed : Fld Z h144 b144 "com/example/orderly_lock/orderlylock/LockState" "delayed" "Z" (.int (0 : Int32)) := D144 (Or.inr (w88 hw)) (ty := .boolean) (by decide)
      refine own_onW st144 ?_
      show OwnGoW p e below s _ _ _ (T144.setTop (mkF m 95 #[.val (.int fl), .val (.long hi), .second, .val (.long tok), .second, .val (.int sess), .val (.int (1 : Int32)), .val (.int (0 : Int32)), .val (.ref b49), .val (.ref b113), .val (.long (tok &&& (9223372036854775807 : Int64))), .second] [(.ref b144)]))
      refine own_onW (fun t k => XS.dup X144.here hx rfl (hb hby at_95) rfl rfl k) ?_
      show OwnGoW p e below s _ _ _ (T144.setTop (mkF m 96 #[.val (.int fl), .val (.long hi), .second, .val (.long tok), .second, .val (.int sess), .val (.int (1 : Int32)), .val (.int (0 : Int32)), .val (.ref b49), .val (.ref b113), .val (.long (tok &&& (9223372036854775807 : Int64))), .second] [(.ref b144), (.ref b144)]))
      refine own_onW (fun t k => XS.aload X144.here hx rfl (hb hby at_96) rfl rfl k) ?_
      show OwnGoW p e below s _ _ _ (T144.setTop (mkF m 98 #[.val (.int fl), .val (.long hi), .second, .val (.long tok), .second, .val (.int sess), .val (.int (1 : Int32)), .val (.int (0 : Int32)), .val (.ref b49), .val (.ref b113), .val (.long (tok &&& (9223372036854775807 : Int64))), .second] [(.ref b49), (.ref b144), (.ref b144)]))
      refine own_onW (fun t k => XS.aload X144.here hx rfl (hb hby at_98) rfl rfl k) ?_
      show OwnGoW p e below s _ _ _ (T144.setTop (mkF m 100 #[.val (.int fl), .val (.long hi), .second, .val (.long tok), .second, .val (.int sess), .val (.int (1 : Int32)), .val (.int (0 : Int32)), .val (.ref b49), .val (.ref b113), .val (.long (tok &&& (9223372036854775807 : Int64))), .second] [(.ref b113), (.ref b49), (.ref b144), (.ref b144)]))
      refine own_onW (fun t k => XS.lloadN X144.here hx rfl (hb hby at_100) rfl k) ?_
      show OwnGoW p e below s _ _ _ (T144.setTop (mkF m 101 #[.val (.int fl), .val (.long hi), .second, .val (.long tok), .second, .val (.int sess), .val (.int (1 : Int32)), .val (.int (0 : Int32)), .val (.ref b49), .val (.ref b113), .val (.long (tok &&& (9223372036854775807 : Int64))), .second] [(.long hi), (.ref b113), (.ref b49), (.ref b144), (.ref b144)]))
      refine own_onW (fun t k => XS.iload X144.here hx rfl (hb hby at_101) rfl k) ?_
      show OwnGoW p e below s _ _ _ (T144.setTop (mkF m 103 #[.val (.int fl), .val (.long hi), .second, .val (.long tok), .second, .val (.int sess), .val (.int (1 : Int32)), .val (.int (0 : Int32)), .val (.ref b49), .val (.ref b113), .val (.long (tok &&& (9223372036854775807 : Int64))), .second] [(.int (0 : Int32)), (.long hi), (.ref b113), (.ref b49), (.ref b144), (.ref b144)]))
      obtain ⟨_, _, ⟨T162, L162, k162, n162⟩, -, X162, hS162, hG162, ⟨Lc162, hQ162, l162, y162, z162⟩, st162⟩ := X144.specialBackS hx (y := (⟨"com/example/orderly_lock/orderlylock/LockState", "<init>", "(Lcom/example/orderly_lock/orderlylock/LockName;Lcom/example/orderly_lock/orderlylock/Grant;JZ)V"⟩ : MethodName)) rfl hown (mvT hZ (w75 hw)) (mvT hZ (w76 hw)) (mvT hZ (w77 hw)) (by decide) (backOfS (W := 1) (rmlsR l Z a0 hw [] b144 b49 b113 hi .null .null (.long (0 : Int64)) (.int (0 : Int32)) h144 n0 Z144 A144 F144_lock F144_holder F144_highestToken F144_delayed g160) hZ (w77 hw) (w74 hw) (by decide) (by decide)) (g := (mkF m 103 #[.val (.int fl), .val (.long hi), .second, .val (.long tok), .second, .val (.int sess), .val (.int (1 : Int32)), .val (.int (0 : Int32)), .val (.ref b49), .val (.ref b113), .val (.long (tok &&& (9223372036854775807 : Int64))), .second] [(.int (0 : Int32)), (.long hi), (.ref b113), (.ref b49), (.ref b144), (.ref b144)])) rfl (by rw [hml]; rfl) (Steps.refl _) (a := b144) (argsL := [(.ref b49), (.ref b113), (.long hi), (.int (0 : Int32))]) (rest := [(.ref b144)]) (lenOf pd_13 rfl) rfl (by show 2 * 0 + _ ≤ _; exact Nat.le_of_eq rfl) (hb hby at_103) (fun _ _ => ⟨rfl, e144, (by decide : 13 + 2 ≤ _), (by decide : 133 + 20 ≤ _)⟩)
      dsimp only [Pt.U, Pt.locs, Pt.cells, Pt.slots] at X162 l162 y162 z162 st162 hQ162 hS162 hG162
      have f163 : T141.heap.size ≤ h144.size := Nat.le_trans hk141 E144.1
      obtain ⟨X162, hS162, hZ, hown⟩ := rebS hS141 (by rw [e144]; exact f163) X162 hS162 hG162 hZ hown
      replace X162 := own_num (c' := 15) (n' := 153) X162 l162 (y162.trans rfl) (z162.trans rfl)
      obtain ⟨rfl, N162q, K162q, c162_0, c162_1⟩ := hQ162
      have N162 := Fr.app N141 N162q
      have Z162 : n0 ≤ T162.heap.size := Nat.le_trans Z144 K162q.1
      have K162 : Keep h0 T162.heap [] := K144.trans K162q (allS (P := fun x => x ∈ [] ∨ h0.size ≤ x) (Or.inr z161) all0)
      have hk162 : T162.heap.size ≤ T162.heap.size := Nat.le_refl _
      refine own_trW st162 ?_
      show OwnGoW p e below s _ _ _ (T162.setTop (mkF m 106 #[.val (.int fl), .val (.long hi), .second, .val (.long tok), .second, .val (.int sess), .val (.int (1 : Int32)), .val (.int (0 : Int32)), .val (.ref b49), .val (.ref b113), .val (.long (tok &&& (9223372036854775807 : Int64))), .second] [(.ref b144)]))
      refine own_onW (fun t k => XS.astore X162.here hx rfl (hb hby at_106) rfl rfl (l' := #[.val (.int fl), .val (.long hi), .second, .val (.long tok), .second, .val (.int sess), .val (.int (1 : Int32)), .val (.int (0 : Int32)), .val (.ref b49), .val (.ref b113), .val (.ref b144), .unset]) rfl k) ?_
      show OwnGoW p e below s _ _ _ (T162.setTop (mkF m 108 #[.val (.int fl), .val (.long hi), .second, .val (.long tok), .second, .val (.int sess), .val (.int (1 : Int32)), .val (.int (0 : Int32)), .val (.ref b49), .val (.ref b113), .val (.ref b144), .unset] []))
      refine own_onW (fun t k => XS.aload X162.here hx rfl (hb hby at_108) rfl rfl k) ?_
      show OwnGoW p e below s _ _ _ (T162.setTop (mkF m 110 #[.val (.int fl), .val (.long hi), .second, .val (.long tok), .second, .val (.int sess), .val (.int (1 : Int32)), .val (.int (0 : Int32)), .val (.ref b49), .val (.ref b113), .val (.ref b144), .unset] [(.ref b144)]))
      obtain ⟨cq164, kq164, q164a, q164b, q164c⟩ := isOf hZ rfl c162_0
      obtain ⟨_, _, ⟨T164, L164, k164, n164⟩, -, X164, ⟨Lc164, hQ164, l164, y164, z164⟩, st164⟩ := X162.virtualBack hx (y := (⟨"com/example/orderly_lock/orderlylock/LockState", "held", "()Z"⟩ : MethodName)) (z := (⟨"com/example/orderly_lock/orderlylock/LockState", "held", "()Z"⟩ : MethodName)) hown (mvT hZ (w89 hw)) (mvT hZ (w90 hw)) (notFace_of_selects (args := #[]) (mvT hZ (w92 hw))) (mvT hZ (w92 hw)) (mvT hZ (w91 hw)) (by decide) (backOf (W := 0) (rmhR l Z a0 hw [] b144 b113 T162.heap n0 Z162 c162_1) hZ (w93 hw) (w74 hw) (by decide) (by decide)) q164a q164c (g := (mkF m 110 #[.val (.int fl), .val (.long hi), .second, .val (.long tok), .second, .val (.int sess), .val (.int (1 : Int32)), .val (.int (0 : Int32)), .val (.ref b49), .val (.ref b113), .val (.ref b144), .unset] [(.ref b144)])) rfl (by rw [hml]; rfl) (Steps.refl _) (argsL := []) (rest := []) (lenOf pd_3 rfl) rfl (by show 2 * 0 + _ ≤ _; exact Nat.le_of_eq rfl) (hb hby at_110) (fun _ _ => ⟨rfl, rfl, (by decide : 15 + 0 ≤ _), (by decide : 153 + 0 ≤ _)⟩)
      dsimp only [Pt.U, Pt.locs, Pt.cells, Pt.slots] at X164 l164 y164 z164 st164 hQ164
      replace X164 := own_num (c' := 15) (n' := 153) X164 l164 (y164.trans rfl) (z164.trans rfl)
      obtain ⟨rfl, N164q, e164⟩ := hQ164
      have N164 := Fr.app N162 N164q
      refine own_trW st164 ?_
      show OwnGoW p e below s _ _ _ (T164.setTop (mkF m 113 #[.val (.int fl), .val (.long hi), .second, .val (.long tok), .second, .val (.int sess), .val (.int (1 : Int32)), .val (.int (0 : Int32)), .val (.ref b49), .val (.ref b113), .val (.ref b144), .unset] [(.int (1 : Int32))]))
      refine own_onW (fun t k => XS.istore X164.here hx rfl (hb hby at_113) rfl (l' := #[.val (.int fl), .val (.long hi), .second, .val (.long tok), .second, .val (.int sess), .val (.int (1 : Int32)), .val (.int (0 : Int32)), .val (.ref b49), .val (.ref b113), .val (.ref b144), .val (.int (1 : Int32))]) rfl k) ?_
      show OwnGoW p e below s _ _ _ (T164.setTop (mkF m 115 #[.val (.int fl), .val (.long hi), .second, .val (.long tok), .second, .val (.int sess), .val (.int (1 : Int32)), .val (.int (0 : Int32)), .val (.ref b49), .val (.ref b113), .val (.ref b144), .val (.int (1 : Int32))] []))
      refine own_onW (fun t k => XS.iload X164.here hx rfl (hb hby at_115) rfl k) ?_
      show OwnGoW p e below s _ _ _ (T164.setTop (mkF m 117 #[.val (.int fl), .val (.long hi), .second, .val (.long tok), .second, .val (.int sess), .val (.int (1 : Int32)), .val (.int (0 : Int32)), .val (.ref b49), .val (.ref b113), .val (.ref b144), .val (.int (1 : Int32))] [(.int (1 : Int32))]))
      refine own_onW (fun t k => XS.iload X164.here hx rfl (hb hby at_117) rfl k) ?_
      show OwnGoW p e below s _ _ _ (T164.setTop (mkF m 119 #[.val (.int fl), .val (.long hi), .second, .val (.long tok), .second, .val (.int sess), .val (.int (1 : Int32)), .val (.int (0 : Int32)), .val (.ref b49), .val (.ref b113), .val (.ref b144), .val (.int (1 : Int32))] [(.int (1 : Int32)), (.int (1 : Int32))]))
      refine own_onW (fun t k => XS.icmpYes X164.here hx rfl (pc0 := 119) (pc' := 124) rfl (hb hby at_119) rfl (teq (by decide : (1 : Int32) = (1 : Int32))).1 (by decide) (by decide) k) ?_
      show OwnGoW p e below s _ _ _ (T164.setTop (mkF m 124 #[.val (.int fl), .val (.long hi), .second, .val (.long tok), .second, .val (.int sess), .val (.int (1 : Int32)), .val (.int (0 : Int32)), .val (.ref b49), .val (.ref b113), .val (.ref b144), .val (.int (1 : Int32))] []))
      refine own_onW (fun t k => XS.iload X164.here hx rfl (hb hby at_124) rfl k) ?_
      show OwnGoW p e below s _ _ _ (T164.setTop (mkF m 126 #[.val (.int fl), .val (.long hi), .second, .val (.long tok), .second, .val (.int sess), .val (.int (1 : Int32)), .val (.int (0 : Int32)), .val (.ref b49), .val (.ref b113), .val (.ref b144), .val (.int (1 : Int32))] [(.int (0 : Int32))]))
      refine own_onW (fun t k => XS.ifYes X164.here hx rfl (pc0 := 126) (pc' := 136) rfl (hb hby at_126) rfl ((if0 _ _).trans (teq (by decide : (0 : Int32) = (0 : Int32))).1) (by decide) (by decide) k) ?_
      show OwnGoW p e below s _ _ _ (T164.setTop (mkF m 136 #[.val (.int fl), .val (.long hi), .second, .val (.long tok), .second, .val (.int sess), .val (.int (1 : Int32)), .val (.int (0 : Int32)), .val (.ref b49), .val (.ref b113), .val (.ref b144), .val (.int (1 : Int32))] []))
      refine own_onW (fun t k => XS.iconst X164.here hx rfl (hb hby at_136) k) ?_
      show OwnGoW p e below s _ _ _ (T164.setTop (mkF m 137 #[.val (.int fl), .val (.long hi), .second, .val (.long tok), .second, .val (.int sess), .val (.int (1 : Int32)), .val (.int (0 : Int32)), .val (.ref b49), .val (.ref b113), .val (.ref b144), .val (.int (1 : Int32))] [(.int (1 : Int32))]))
      exact own_retNW X164 hx hlk (t := .boolean) Bd.returns (by simp) (hb hby at_137) e164 ⟨rfl, N164, K162⟩ (by decide) (by decide) hS162 (by rw [e164]; exact hk162)
set_option maxRecDepth 65536 in
set_option maxHeartbeats 40000000 in
theorem comes_1 {Post : Tables → Env → Array Value → State → Outcome → State → Prop} (hpost : ∀ tb e args s v u, (limb_1_1.after args s (.returned v) u = true ∧ limb_1_2.after args s (.returned v) u = true ∧ True) → ReturnedEndW s (.returned v) u (Jvm.fieldLocs frame_1_writes args s ++ Jvm.arrayLocs frame_1_arrays args s ++ Jvm.staticLocs frame_1_statics s) 32 5248 → Post tb e args s (.returned v) u) :
    ArmFor flags0 classFile x code maxLocals ret World_1 tables_1 room_1 Calls_1 rest_1 Pre_1 Post := by
  intro l hfl _ _ p e ha hc hk s m args below hf hA hF happ hP
  obtain ⟨hcalls, hrest, hpre⟩ := hP
  obtain ⟨-, -, -, hnamed, -, -, -, hat⟩ := (Spec.applies_iff hf).mp happ
  obtain ⟨hg, hn⟩ := and_e (Cond.before_iff.mp (show (Jvm.Cond.and given_1 narrow_1).before args s = true from hpre))
  obtain ⟨gc, gr0⟩ := and_e hg
  obtain ⟨gi0, gr1⟩ := and_e gr0
  obtain ⟨gi1, gr2⟩ := and_e gr1
  obtain ⟨gi2, gr3⟩ := and_e gr2
  have gi3 := gr3
  obtain ⟨w_0, w_1, w_2, w_3, rfl⟩ : ∃ w_0 w_1 w_2 w_3 : Value, args = #[w_0, w_1, w_2, w_3] := by
    have hs : args.size = 4 := by simpa [Cond.value, given_1] using gc
    obtain ⟨L⟩ := args
    match L, hs with
    | [w_0, w_1, w_2, w_3], _ => exact ⟨w_0, w_1, w_2, w_3, rfl⟩
  have hw := fun d (hd : d ∈ tables_1) => atoms_spec (ws := Jvm.Cond.code x code maxLocals ret :: tables_1) hat d (List.mem_cons_of_mem _ hd)
  have hfit : Fit s := fun {y c} hc i hi => by
    obtain ⟨ha, rfl⟩ := Array.getElem?_eq_some_iff.mp hc
    have q := List.all_eq_true.mp ((Array.all_eq_true_iff_forall_mem.mp hF) _ (Array.getElem_mem ha)) i (List.mem_range.mpr hi)
    simpa [Array.getElem?_eq_getElem hi] using q
  obtain ⟨hsets, hown0⟩ := atoms_of _ (rest_1_c_eq ▸ (show rest_1_c.before _ s = true from hrest))
  obtain ⟨i0, ei0⟩ := is_v gi0
  obtain rfl : w_0 = (.int i0) := Option.some.inj ei0
  obtain ⟨i1, ei1⟩ := isL_v gi1
  obtain rfl : w_1 = (.long i1) := Option.some.inj ei1
  obtain ⟨i2, ei2⟩ := isL_v gi2
  obtain rfl : w_2 = (.long i2) := Option.some.inj ei2
  obtain ⟨i3, ei3⟩ := is_v gi3
  obtain rfl : w_3 = (.int i3) := Option.some.inj ei3
  obtain ⟨cs, ecs⟩ := is_v (Cond.before_iff.mp (hsets _ (List.mem_of_getElem? (i := 1) rfl)))
  obtain ⟨sf, esf, hsf⟩ := isR_v (Cond.before_iff.mp (hsets _ (List.mem_of_getElem? (i := 8) rfl)))
  obtain ⟨n, o, h1, h2, h3, _, L, rfl, ⟨rfl, N, _⟩, hq⟩ := rm0 l s _ hw tables_1 i0 i1 i2 i3 cs sf s.heap s.heap.size (Nat.le_refl _) (Old.start s) (Sta.start ecs (Or.inl (hsets _ (List.mem_of_getElem? (i := 0) rfl)))) (own_nz ecs (Cond.before_iff.mp (hsets _ (List.mem_of_getElem? (i := 2) rfl)))) (Sta.start esf (Or.inl (hsets _ (List.mem_of_getElem? (i := 7) rfl)))) hsf (hcalls.1 ("com/example/orderly_lock/orderlylock/LockStateHeldPinLaw", 9) (by simp [consts_1])) (hsets _ (List.mem_of_getElem? (i := 2) rfl)) p e ha hc hk s m _ below hf ((Spec.applies_iff_loose hf).mp happ).1 ⟨rfl, State.Warmed39.refl s, rfl, IB.start⟩ trivial
  refine ⟨n, _, h1, h2, h3, hpost _ _ _ _ _ _ ⟨Cond.after_iff.mpr rfl, Cond.after_iff.mpr (eq_i res_at (Term.int_eval (1)) rfl), trivial⟩ ⟨hq.1, hq.2.1, hq.2.2.1, (hq.2.2.2.sift fun y hy => Or.inr (N y hy)).mono (by decide) (by decide)⟩⟩
theorem main_1_1 : Claimed_1_1 := comes_1 fun _ _ _ _ _ _ h hF => ⟨h.1, hF⟩
theorem main_1_2 : Claimed_1_2 := comes_1 fun _ _ _ _ _ _ h hF => ⟨h.2.1, hF⟩
end Jvm.Pilot.@@N@@
namespace Jvm.Pilot.@@N@@
open Jvm Jvm.ClassFile Sem Op Lib Jvm.Free Jvm.Stand Jvm.Pilot.@@N@@.Jvm.D
/-! MADE BY PROGRAM (witnessworld.py) out of the Statement's table words and the real class files: 21 classes; the members and pool entries that the words name. The judged class is class 1, her method 1. -/
namespace start1
open Jvm.ClassFile
def u (s : String) : CpInfo := .utf8 (stringToUtf16 s)
/-- a pool by its gaps: so many unusable entries, then the entry; so many at the end -/
def gap : Nat → List CpInfo → List CpInfo
  | 0, r => r
  | n + 1, r => .unusable :: gap n r
def poolList (es : List (Nat × CpInfo)) (last : Nat) : List CpInfo := es.foldr (fun e r => gap e.1 (e.2 :: r)) (gap last [])
def pool (es : List (Nat × CpInfo)) (last : Nat) : Array CpInfo := ⟨poolList es last⟩
def fileOf (pool : Array CpInfo) (this : Nat) (attrs : Array Attribute := #[]) (ms : Array MethodInfo := #[]) (fl : Nat := 33) (sup : Nat := 0) (ifs : Array Nat := #[]) (fds : Array FieldInfo := #[]) : ClassFile where
  minorVersion := 0
  majorVersion := 65
  constantPool := pool
  accessFlags := fl
  thisClass := this
  superClass := sup
  interfaces := ifs
  fields := fds
  methods := ms
  attributes := attrs
def plain (name : String) (sup : Option ClassId) : Class where
  name := name
  kind := .ordinary
  loader := none
  accessFlags := 33
  super := sup
  interfaces := #[]
  cf := none
  fields := #[]
  methods := #[]
  instanceTypes := #[]
  staticTypes := #[]
  resolved := #[]
  callSites := []
  init := .initialized
  statics := none
  mirror := none

def pool0 : Array CpInfo := pool [(5, u "<init>"), (0, u "()V"), (1, .class_ 10), (1, u "java/lang/Object")] 113

def k0c0 : Code := { maxStack := 0, maxLocals := 1, code := object_method_1_code, exceptionTable := #[], attributes := #[] }
def k0m0 : Method := { name := "<init>", desc := "()V", sig := { parameters := [], returnType := none }, accessFlags := 1, code := some k0c0 }
/-- java/lang/Object -/
def k0 : Class := { plain "java/lang/Object" none with
  accessFlags := 33
  interfaces := #[]
  cf := some (fileOf pool0 8 #[] #[{ accessFlags := 1, nameIndex := 5, descriptorIndex := 6, attributes := #[] }] 33 0 #[] #[])
  fields := #[]
  methods := #[k0m0]
  instanceTypes := #[]
  staticTypes := #[]
  resolved := Array.replicate 124 none
  statics := none }

def pool1 : Array CpInfo := pool [(2, .class_ 4), (1, u "java/lang/Object"), (0, u "<init>"), (0, u "()V"), (0, .class_ 8), (0, u "com/example/orderly_lock/orderlylock/LockName"), (0, .string 10), (0, u "ledger"), (0, .methodref 7 12), (0, .nameAndType 5 13), (0, u "(Ljava/lang/String;)V"), (2, .long 9223372036854775807), (1, .class_ 19), (0, u "com/example/orderly_lock/orderlylock/Grant"), (0, .methodref 21 22), (0, .class_ 23), (0, .nameAndType 24 25), (0, u "java/lang/String"), (0, u "valueOf"), (0, u "(C)Ljava/lang/String;"), (0, .methodref 18 27), (0, .nameAndType 5 28), (0, u "(Lcom/example/orderly_lock/orderlylock/LockName;Ljava/lang/String;J)V"), (0, .class_ 30), (0, u "com/example/orderly_lock/orderlylock/LockState"), (0, .methodref 29 32), (0, .nameAndType 5 33), (0, u "(Lcom/example/orderly_lock/orderlylock/LockName;Lcom/example/orderly_lock/orderlylock/Grant;JZ)V"), (0, .methodref 29 35), (0, .nameAndType 36 37), (0, u "held"), (0, u "()Z"), (0, .class_ 39), (0, u "com/example/orderly_lock/orderlylock/LockStateHeldPinLaw"), (2, u "law"), (0, u "(IJJI)Z")] 3

def k1m0 : Method := { name := "<init>", desc := "()V", sig := { parameters := [], returnType := none }, accessFlags := 1, code := none }
def k1c1 : Code := { maxStack := 7, maxLocals := 12, code := code, exceptionTable := #[], attributes := #[] }
def k1m1 : Method := { name := "law", desc := "(IJJI)Z", sig := { parameters := [.int, .long, .long, .int], returnType := some .boolean }, accessFlags := 9, code := some k1c1 }
/-- com/example/orderly_lock/orderlylock/LockStateHeldPinLaw -/
def k1 : Class := { plain "com/example/orderly_lock/orderlylock/LockStateHeldPinLaw" (some 0) with
  accessFlags := 49
  interfaces := #[]
  cf := some (fileOf pool1 38 #[] #[{ accessFlags := 1, nameIndex := 5, descriptorIndex := 6, attributes := #[] }, { accessFlags := 9, nameIndex := 42, descriptorIndex := 43, attributes := #[] }] 49 2 #[] #[])
  fields := #[]
  methods := #[k1m0, k1m1]
  instanceTypes := #[]
  staticTypes := #[]
  resolved := Array.replicate 47 none
  statics := none }

def pool2 : Array CpInfo := pool [(1, .methodref 2 3), (0, .class_ 4), (0, .nameAndType 5 6), (0, u "java/lang/Object"), (0, u "<init>"), (0, u "()V"), (0, .class_ 8), (0, u "java/lang/Record")] 13

def k2c0 : Code := { maxStack := 1, maxLocals := 1, code := jdk_30_method_1_code, exceptionTable := #[], attributes := #[] }
def k2m0 : Method := { name := "<init>", desc := "()V", sig := { parameters := [], returnType := none }, accessFlags := 4, code := some k2c0 }
/-- java/lang/Record -/
def k2 : Class := { plain "java/lang/Record" (some 0) with
  accessFlags := 1057
  interfaces := #[]
  cf := some (fileOf pool2 7 #[] #[{ accessFlags := 4, nameIndex := 5, descriptorIndex := 6, attributes := #[] }] 1057 2 #[] #[])
  fields := #[]
  methods := #[k2m0]
  instanceTypes := #[]
  staticTypes := #[]
  resolved := Array.replicate 22 none
  statics := none }

def pool3 : Array CpInfo := pool [(1, .methodref 2 3), (0, .class_ 4), (0, .nameAndType 5 6), (0, u "java/lang/Record"), (0, u "<init>"), (0, u "()V"), (0, .string 8), (0, u "lock name"), (0, .methodref 10 11), (0, .class_ 12), (0, .nameAndType 13 14), (0, u "java/util/Objects"), (0, u "requireNonNull"), (0, u "(Ljava/lang/Object;Ljava/lang/String;)Ljava/lang/Object;"), (0, .methodref 16 17), (0, .class_ 18), (0, .nameAndType 19 20), (0, u "java/lang/String"), (0, u "isEmpty"), (0, u "()Z"), (0, .methodref 16 22), (0, .nameAndType 23 24), (0, u "length"), (0, u "()I"), (0, .class_ 26), (0, u "com/example/orderly_lock/orderlylock/LockName"), (8, u "(Ljava/lang/String;)V"), (0, .methodref 16 37), (0, .nameAndType 38 39), (0, u "charAt"), (0, u "(I)C"), (0, .methodref 25 41), (0, .nameAndType 42 43), (0, u "isNameCharacter"), (0, u "(C)Z"), (14, .fieldref 25 59), (0, .nameAndType 60 61), (0, u "value"), (0, u "Ljava/lang/String;"), (8, u "MAX_LENGTH"), (0, u "I")] 36

def k3c0 : Code := { maxStack := 7, maxLocals := 4, code := prog_9_method_1_code, exceptionTable := #[], attributes := #[] }
def k3m0 : Method := { name := "<init>", desc := "(Ljava/lang/String;)V", sig := { parameters := [(.object "java/lang/String")], returnType := none }, accessFlags := 1, code := some k3c0 }
def k3c1 : Code := { maxStack := 2, maxLocals := 1, code := prog_9_method_3_code, exceptionTable := #[], attributes := #[] }
def k3m1 : Method := { name := "isNameCharacter", desc := "(C)Z", sig := { parameters := [.char], returnType := some .boolean }, accessFlags := 10, code := some k3c1 }
/-- com/example/orderly_lock/orderlylock/LockName -/
def k3 : Class := { plain "com/example/orderly_lock/orderlylock/LockName" (some 2) with
  accessFlags := 49
  interfaces := #[]
  cf := some (fileOf pool3 25 #[] #[{ accessFlags := 1, nameIndex := 5, descriptorIndex := 35, attributes := #[] }, { accessFlags := 10, nameIndex := 42, descriptorIndex := 43, attributes := #[] }] 49 2 #[] #[{ accessFlags := 18, nameIndex := 60, descriptorIndex := 61, attributes := #[] }, { accessFlags := 25, nameIndex := 70, descriptorIndex := 71, attributes := #[] }])
  fields := #[{ name := "value", type := (.object "java/lang/String"), accessFlags := 18, slot := 0, constantValue := 0 }, { name := "MAX_LENGTH", type := .int, accessFlags := 25, slot := 0, constantValue := 0 }]
  methods := #[k3m0, k3m1]
  instanceTypes := #[(.object "java/lang/String")]
  staticTypes := #[.int]
  resolved := Array.replicate 108 none
  statics := none }

def pool4 : Array CpInfo := pool [(1, .class_ 2), (0, u "java/io/Serializable"), (0, .class_ 4), (0, u "java/lang/Object")] 2

/-- java/io/Serializable -/
def k4 : Class := { plain "java/io/Serializable" (some 0) with
  accessFlags := 1537
  interfaces := #[]
  cf := some (fileOf pool4 1 #[] #[] 1537 3 #[] #[])
  fields := #[]
  methods := #[]
  instanceTypes := #[]
  staticTypes := #[]
  resolved := Array.replicate 7 none
  statics := none }

def pool5 : Array CpInfo := pool [(1, .class_ 2), (0, u "java/lang/Comparable"), (0, .class_ 4), (0, u "java/lang/Object")] 7

/-- java/lang/Comparable -/
def k5 : Class := { plain "java/lang/Comparable" (some 0) with
  accessFlags := 1537
  interfaces := #[]
  cf := some (fileOf pool5 1 #[] #[] 1537 3 #[] #[])
  fields := #[]
  methods := #[]
  instanceTypes := #[]
  staticTypes := #[]
  resolved := Array.replicate 12 none
  statics := none }

def pool6 : Array CpInfo := pool [(2, .class_ 4), (1, u "java/lang/CharSequence"), (42, .class_ 48), (0, u "java/lang/CharSequence$1CodePointIterator"), (10, .class_ 60), (0, u "java/lang/CharSequence$1CharIterator"), (5, .class_ 67), (0, u "java/lang/Object")] 63

/-- java/lang/CharSequence -/
def k6 : Class := { plain "java/lang/CharSequence" (some 0) with
  accessFlags := 1537
  interfaces := #[]
  cf := some (fileOf pool6 2 #[.nestMembers #[47, 59]] #[] 1537 66 #[] #[])
  fields := #[]
  methods := #[]
  instanceTypes := #[]
  staticTypes := #[]
  resolved := Array.replicate 131 none
  statics := none }

def pool7 : Array CpInfo := pool [(1, .class_ 2), (0, u "java/lang/constant/Constable"), (0, .class_ 4), (0, u "java/lang/Object")] 6

/-- java/lang/constant/Constable -/
def k7 : Class := { plain "java/lang/constant/Constable" (some 0) with
  accessFlags := 1537
  interfaces := #[]
  cf := some (fileOf pool7 1 #[] #[] 1537 3 #[] #[])
  fields := #[]
  methods := #[]
  instanceTypes := #[]
  staticTypes := #[]
  resolved := Array.replicate 11 none
  statics := none }

def pool8 : Array CpInfo := pool [(1, .class_ 2), (0, u "java/lang/constant/ConstantDesc"), (0, .class_ 4), (0, u "java/lang/Object")] 32

/-- java/lang/constant/ConstantDesc -/
def k8 : Class := { plain "java/lang/constant/ConstantDesc" (some 0) with
  accessFlags := 1537
  interfaces := #[]
  cf := some (fileOf pool8 1 #[] #[] 1537 3 #[] #[])
  fields := #[]
  methods := #[]
  instanceTypes := #[]
  staticTypes := #[]
  resolved := Array.replicate 37 none
  statics := none }

def pool9 : Array CpInfo := pool [(1, .methodref 2 3), (0, .class_ 4), (0, .nameAndType 5 6), (0, u "java/lang/Object"), (0, u "<init>"), (0, u "()V"), (2, .fieldref 10 11), (0, .class_ 12), (0, .nameAndType 13 14), (0, u "java/lang/String"), (0, u "value"), (0, u "[B"), (0, .fieldref 10 16), (0, .nameAndType 17 18), (0, u "coder"), (0, u "B"), (2, u "hash"), (0, u "I"), (2, u "hashIsZero"), (0, u "Z"), (11, .fieldref 10 39), (0, .nameAndType 40 26), (0, u "COMPACT_STRINGS"), (12, u "toBytes"), (53, .class_ 109), (1, u "java/lang/StringLatin1"), (32, u "()Z"), (66, .methodref 10 210), (0, .nameAndType 5 211), (0, u "([BB)V"), (122, u "()I"), (0, .methodref 10 336), (0, .nameAndType 17 337), (0, u "()B"), (25, u "([BI)C"), (5, u "(C)Z"), (21, u "(II)V"), (35, u "(I)C"), (64, .methodref 10 493), (0, .nameAndType 494 142), (0, u "isLatin1"), (0, .methodref 107 496), (0, .nameAndType 497 363), (0, u "charAt"), (3, u "checkIndex"), (5, u "length"), (67, .class_ 576), (0, u "java/lang/CharSequence"), (22, u "CASE_INSENSITIVE_ORDER"), (0, u "Ljava/util/Comparator;"), (91, u "isEmpty"), (89, u "valueOf"), (0, u "(C)Ljava/lang/String;"), (231, .methodref 107 1016), (0, .nameAndType 1017 369), (0, u "canEncode"), (0, .methodref 107 1019), (0, .nameAndType 53 1020), (0, u "(C)[B"), (32, .fieldref 1054 1055), (0, .class_ 1056), (0, .nameAndType 1057 1058), (0, u "jdk/internal/util/Preconditions"), (0, u "SIOOBE_FORMATTER"), (0, u "Ljava/util/function/BiFunction;"), (0, .methodref 1054 1060), (0, .nameAndType 501 1061), (0, u "(IILjava/util/function/BiFunction;)I"), (39, u "serialPersistentFields"), (0, u "[Ljava/io/ObjectStreamField;"), (0, .class_ 1104), (0, u "java/lang/String$CaseInsensitiveComparator"), (1, .class_ 1107), (0, u "java/io/Serializable"), (0, .class_ 1109), (0, u "java/lang/Comparable"), (0, .class_ 1111), (0, u "java/lang/constant/Constable"), (0, .class_ 1113), (0, u "java/lang/constant/ConstantDesc"), (2, u "serialVersionUID"), (0, u "J"), (3, u "REPL"), (0, u "C"), (2, u "LATIN1"), (1, u "UTF16")] 323

def k9m0 : Method := { name := "<init>", desc := "()V", sig := { parameters := [], returnType := none }, accessFlags := 1, code := none }
def k9c1 : Code := { maxStack := 2, maxLocals := 1, code := jdk_42_method_54_code, exceptionTable := #[], attributes := #[] }
def k9m1 : Method := { name := "length", desc := "()I", sig := { parameters := [], returnType := some .int }, accessFlags := 1, code := some k9c1 }
def k9c2 : Code := { maxStack := 1, maxLocals := 1, code := jdk_42_method_55_code, exceptionTable := #[], attributes := #[] }
def k9m2 : Method := { name := "isEmpty", desc := "()Z", sig := { parameters := [], returnType := some .boolean }, accessFlags := 1, code := some k9c2 }
def k9c3 : Code := { maxStack := 2, maxLocals := 2, code := jdk_42_method_56_code, exceptionTable := #[], attributes := #[] }
def k9m3 : Method := { name := "charAt", desc := "(I)C", sig := { parameters := [.int], returnType := some .char }, accessFlags := 1, code := some k9c3 }
def k9c4 : Code := { maxStack := 4, maxLocals := 1, code := jdk_42_method_139_code, exceptionTable := #[], attributes := #[] }
def k9m4 : Method := { name := "valueOf", desc := "(C)Ljava/lang/String;", sig := { parameters := [.char], returnType := some (.object "java/lang/String") }, accessFlags := 9, code := some k9c4 }
def k9c5 : Code := { maxStack := 2, maxLocals := 3, code := jdk_42_method_151_code, exceptionTable := #[], attributes := #[] }
def k9m5 : Method := { name := "<init>", desc := "([BB)V", sig := { parameters := [(.array .byte), .byte], returnType := none }, accessFlags := 0, code := some k9c5 }
def k9c6 : Code := { maxStack := 1, maxLocals := 1, code := jdk_42_method_152_code, exceptionTable := #[], attributes := #[] }
def k9m6 : Method := { name := "coder", desc := "()B", sig := { parameters := [], returnType := some .byte }, accessFlags := 0, code := some k9c6 }
def k9c7 : Code := { maxStack := 1, maxLocals := 1, code := jdk_42_method_154_code, exceptionTable := #[], attributes := #[] }
def k9m7 : Method := { name := "isLatin1", desc := "()Z", sig := { parameters := [], returnType := some .boolean }, accessFlags := 0, code := some k9c7 }
def k9c8 : Code := { maxStack := 3, maxLocals := 2, code := jdk_42_method_155_code, exceptionTable := #[], attributes := #[] }
def k9m8 : Method := { name := "checkIndex", desc := "(II)V", sig := { parameters := [.int, .int], returnType := none }, accessFlags := 8, code := some k9c8 }
/-- java/lang/String -/
def k9 : Class := { plain "java/lang/String" (some 0) with
  accessFlags := 49
  interfaces := #[4, 5, 6, 7, 8]
  cf := some (fileOf pool9 10 #[.nestMembers #[1103]] #[{ accessFlags := 1, nameIndex := 5, descriptorIndex := 6, attributes := #[] }, { accessFlags := 1, nameIndex := 507, descriptorIndex := 334, attributes := #[] }, { accessFlags := 1, nameIndex := 692, descriptorIndex := 142, attributes := #[] }, { accessFlags := 1, nameIndex := 497, descriptorIndex := 427, attributes := #[] }, { accessFlags := 9, nameIndex := 782, descriptorIndex := 783, attributes := #[] }, { accessFlags := 0, nameIndex := 5, descriptorIndex := 211, attributes := #[] }, { accessFlags := 0, nameIndex := 17, descriptorIndex := 337, attributes := #[] }, { accessFlags := 0, nameIndex := 494, descriptorIndex := 142, attributes := #[] }, { accessFlags := 8, nameIndex := 501, descriptorIndex := 391, attributes := #[] }] 49 2 #[1106, 1108, 575, 1110, 1112] #[{ accessFlags := 18, nameIndex := 13, descriptorIndex := 14, attributes := #[] }, { accessFlags := 18, nameIndex := 17, descriptorIndex := 18, attributes := #[] }, { accessFlags := 2, nameIndex := 21, descriptorIndex := 22, attributes := #[] }, { accessFlags := 2, nameIndex := 25, descriptorIndex := 26, attributes := #[] }, { accessFlags := 26, nameIndex := 1116, descriptorIndex := 1117, attributes := #[] }, { accessFlags := 24, nameIndex := 40, descriptorIndex := 26, attributes := #[] }, { accessFlags := 26, nameIndex := 1101, descriptorIndex := 1102, attributes := #[] }, { accessFlags := 26, nameIndex := 1121, descriptorIndex := 1122, attributes := #[] }, { accessFlags := 25, nameIndex := 599, descriptorIndex := 600, attributes := #[] }, { accessFlags := 24, nameIndex := 1125, descriptorIndex := 18, attributes := #[] }, { accessFlags := 24, nameIndex := 1127, descriptorIndex := 18, attributes := #[] }])
  fields := #[{ name := "value", type := (.array .byte), accessFlags := 18, slot := 0, constantValue := 0 }, { name := "coder", type := .byte, accessFlags := 18, slot := 1, constantValue := 0 }, { name := "hash", type := .int, accessFlags := 2, slot := 2, constantValue := 0 }, { name := "hashIsZero", type := .boolean, accessFlags := 2, slot := 3, constantValue := 0 }, { name := "serialVersionUID", type := .long, accessFlags := 26, slot := 0, constantValue := 0 }, { name := "COMPACT_STRINGS", type := .boolean, accessFlags := 24, slot := 1, constantValue := 0 }, { name := "serialPersistentFields", type := (.array (.object "java/io/ObjectStreamField")), accessFlags := 26, slot := 2, constantValue := 0 }, { name := "REPL", type := .char, accessFlags := 26, slot := 3, constantValue := 0 }, { name := "CASE_INSENSITIVE_ORDER", type := (.object "java/util/Comparator"), accessFlags := 25, slot := 4, constantValue := 0 }, { name := "LATIN1", type := .byte, accessFlags := 24, slot := 5, constantValue := 0 }, { name := "UTF16", type := .byte, accessFlags := 24, slot := 6, constantValue := 0 }]
  methods := #[k9m0, k9m1, k9m2, k9m3, k9m4, k9m5, k9m6, k9m7, k9m8]
  instanceTypes := #[(.array .byte), .byte, .int, .boolean]
  staticTypes := #[.long, .boolean, (.array (.object "java/io/ObjectStreamField")), .char, (.object "java/util/Comparator"), .byte, .byte]
  resolved := Array.replicate 1451 none
  statics := some 0 }

def pool10 : Array CpInfo := pool [(2, .class_ 4), (1, u "java/lang/Object"), (0, u "<init>"), (0, u "()V"), (35, .class_ 44), (1, u "java/util/Objects"), (0, u "requireNonNull"), (48, u "(Ljava/lang/Object;Ljava/lang/String;)Ljava/lang/Object;")] 89

def k10m0 : Method := { name := "<init>", desc := "()V", sig := { parameters := [], returnType := none }, accessFlags := 2, code := none }
def k10c1 : Code := { maxStack := 3, maxLocals := 2, code := jdk_31_method_11_code, exceptionTable := #[], attributes := #[] }
def k10m1 : Method := { name := "requireNonNull", desc := "(Ljava/lang/Object;Ljava/lang/String;)Ljava/lang/Object;", sig := { parameters := [(.object "java/lang/Object"), (.object "java/lang/String")], returnType := some (.object "java/lang/Object") }, accessFlags := 9, code := some k10c1 }
/-- java/util/Objects -/
def k10 : Class := { plain "java/util/Objects" (some 0) with
  accessFlags := 49
  interfaces := #[]
  cf := some (fileOf pool10 42 #[] #[{ accessFlags := 2, nameIndex := 5, descriptorIndex := 6, attributes := #[] }, { accessFlags := 9, nameIndex := 45, descriptorIndex := 94, attributes := #[] }] 49 2 #[] #[])
  fields := #[]
  methods := #[k10m0, k10m1]
  instanceTypes := #[]
  staticTypes := #[]
  resolved := Array.replicate 184 none
  statics := none }

def pool11 : Array CpInfo := pool [(1, .class_ 2), (0, u "java/lang/String"), (1, .class_ 6), (1, u "java/lang/Object"), (0, u "<init>"), (0, u "()V"), (0, .methodref 1 10), (0, .nameAndType 11 12), (0, u "checkIndex"), (0, u "(II)V"), (1, .class_ 16), (1, u "java/lang/StringLatin1"), (36, u "([BI)C"), (36, u "canEncode"), (14, u "(C)Z"), (15, u "$assertionsDisabled"), (0, u "Z"), (98, .class_ 223), (1, u "java/lang/StringLatin1$LinesSpliterator"), (28, u "charAt"), (127, u "toBytes"), (1, u "(C)[B"), (7, .class_ 391), (0, u "java/lang/StringLatin1$CharsSpliterator")] 3

def k11m0 : Method := { name := "<init>", desc := "()V", sig := { parameters := [], returnType := none }, accessFlags := 0, code := none }
def k11c1 : Code := { maxStack := 2, maxLocals := 2, code := jdk_43_method_2_code, exceptionTable := #[], attributes := #[] }
def k11m1 : Method := { name := "charAt", desc := "([BI)C", sig := { parameters := [(.array .byte), .int], returnType := some .char }, accessFlags := 9, code := some k11c1 }
def k11c2 : Code := { maxStack := 2, maxLocals := 1, code := jdk_43_method_3_code, exceptionTable := #[], attributes := #[] }
def k11m2 : Method := { name := "canEncode", desc := "(C)Z", sig := { parameters := [.char], returnType := some .boolean }, accessFlags := 9, code := some k11c2 }
def k11c3 : Code := { maxStack := 4, maxLocals := 1, code := jdk_43_method_46_code, exceptionTable := #[], attributes := #[] }
def k11m3 : Method := { name := "toBytes", desc := "(C)[B", sig := { parameters := [.char], returnType := some (.array .byte) }, accessFlags := 9, code := some k11c3 }
/-- java/lang/StringLatin1 -/
def k11 : Class := { plain "java/lang/StringLatin1" (some 0) with
  accessFlags := 48
  interfaces := #[]
  cf := some (fileOf pool11 14 #[.nestMembers #[390, 221]] #[{ accessFlags := 0, nameIndex := 7, descriptorIndex := 8, attributes := #[] }, { accessFlags := 9, nameIndex := 252, descriptorIndex := 53, attributes := #[] }, { accessFlags := 9, nameIndex := 90, descriptorIndex := 105, attributes := #[] }, { accessFlags := 9, nameIndex := 380, descriptorIndex := 382, attributes := #[] }] 48 4 #[] #[{ accessFlags := 4120, nameIndex := 121, descriptorIndex := 122, attributes := #[] }])
  fields := #[{ name := "$assertionsDisabled", type := .boolean, accessFlags := 4120, slot := 0, constantValue := 0 }]
  methods := #[k11m0, k11m1, k11m2, k11m3]
  instanceTypes := #[]
  staticTypes := #[.boolean]
  resolved := Array.replicate 395 none
  statics := none }

def pool12 : Array CpInfo := pool [(2, .class_ 4), (1, u "java/lang/Object"), (0, u "<init>"), (0, u "()V"), (17, .class_ 26), (1, u "jdk/internal/util/Preconditions"), (6, u "checkIndex"), (21, .class_ 56), (0, u "jdk/internal/util/Preconditions$4"), (57, .class_ 115), (0, u "jdk/internal/util/Preconditions$1"), (7, u "SIOOBE_FORMATTER"), (0, u "Ljava/util/function/BiFunction;"), (0, .class_ 126), (0, u "jdk/internal/util/Preconditions$2"), (3, u "AIOOBE_FORMATTER"), (0, .class_ 132), (0, u "jdk/internal/util/Preconditions$3"), (3, u "IOOBE_FORMATTER"), (41, u "(IILjava/util/function/BiFunction;)I")] 15

def k12m0 : Method := { name := "<init>", desc := "()V", sig := { parameters := [], returnType := none }, accessFlags := 1, code := none }
def k12c1 : Code := { maxStack := 3, maxLocals := 3, code := jdk_41_method_11_code, exceptionTable := #[], attributes := #[] }
def k12m1 : Method := { name := "checkIndex", desc := "(IILjava/util/function/BiFunction;)I", sig := { parameters := [.int, .int, (.object "java/util/function/BiFunction")], returnType := some .int }, accessFlags := 9, code := some k12c1 }
/-- jdk/internal/util/Preconditions -/
def k12 : Class := { plain "jdk/internal/util/Preconditions" (some 0) with
  accessFlags := 33
  interfaces := #[]
  cf := some (fileOf pool12 24 #[.nestMembers #[55, 131, 125, 114]] #[{ accessFlags := 1, nameIndex := 5, descriptorIndex := 6, attributes := #[] }, { accessFlags := 9, nameIndex := 33, descriptorIndex := 178, attributes := #[] }] 33 2 #[] #[{ accessFlags := 25, nameIndex := 123, descriptorIndex := 124, attributes := #[] }, { accessFlags := 25, nameIndex := 130, descriptorIndex := 124, attributes := #[] }, { accessFlags := 25, nameIndex := 136, descriptorIndex := 124, attributes := #[] }])
  fields := #[{ name := "SIOOBE_FORMATTER", type := (.object "java/util/function/BiFunction"), accessFlags := 25, slot := 0, constantValue := 0 }, { name := "AIOOBE_FORMATTER", type := (.object "java/util/function/BiFunction"), accessFlags := 25, slot := 1, constantValue := 0 }, { name := "IOOBE_FORMATTER", type := (.object "java/util/function/BiFunction"), accessFlags := 25, slot := 2, constantValue := 0 }]
  methods := #[k12m0, k12m1]
  instanceTypes := #[]
  staticTypes := #[(.object "java/util/function/BiFunction"), (.object "java/util/function/BiFunction"), (.object "java/util/function/BiFunction")]
  resolved := Array.replicate 194 none
  statics := some 1 }

def pool13 : Array CpInfo := pool [(1, .methodref 2 3), (0, .class_ 4), (0, .nameAndType 5 6), (0, u "java/lang/Record"), (0, u "<init>"), (0, u "()V"), (0, .string 8), (0, u "lock"), (0, .methodref 10 11), (0, .class_ 12), (0, .nameAndType 13 14), (0, u "java/util/Objects"), (0, u "requireNonNull"), (0, u "(Ljava/lang/Object;Ljava/lang/String;)Ljava/lang/Object;"), (7, .fieldref 23 24), (0, .class_ 25), (0, .nameAndType 8 26), (0, u "com/example/orderly_lock/orderlylock/LockState"), (0, u "Lcom/example/orderly_lock/orderlylock/LockName;"), (0, .fieldref 23 28), (0, .nameAndType 29 30), (0, u "holder"), (0, u "Lcom/example/orderly_lock/orderlylock/Grant;"), (0, .fieldref 23 32), (0, .nameAndType 33 34), (0, u "highestToken"), (0, u "J"), (0, .fieldref 23 36), (0, .nameAndType 37 38), (0, u "delayed"), (0, u "Z"), (23, u "(Lcom/example/orderly_lock/orderlylock/LockName;Lcom/example/orderly_lock/orderlylock/Grant;JZ)V"), (6, u "held"), (0, u "()Z")] 30

def k13c0 : Code := { maxStack := 3, maxLocals := 6, code := prog_10_method_1_code, exceptionTable := #[], attributes := #[] }
def k13m0 : Method := { name := "<init>", desc := "(Lcom/example/orderly_lock/orderlylock/LockName;Lcom/example/orderly_lock/orderlylock/Grant;JZ)V", sig := { parameters := [(.object "com/example/orderly_lock/orderlylock/LockName"), (.object "com/example/orderly_lock/orderlylock/Grant"), .long, .boolean], returnType := none }, accessFlags := 1, code := some k13c0 }
def k13c1 : Code := { maxStack := 1, maxLocals := 1, code := prog_10_method_2_code, exceptionTable := #[], attributes := #[] }
def k13m1 : Method := { name := "held", desc := "()Z", sig := { parameters := [], returnType := some .boolean }, accessFlags := 1, code := some k13c1 }
/-- com/example/orderly_lock/orderlylock/LockState -/
def k13 : Class := { plain "com/example/orderly_lock/orderlylock/LockState" (some 2) with
  accessFlags := 49
  interfaces := #[]
  cf := some (fileOf pool13 23 #[] #[{ accessFlags := 1, nameIndex := 5, descriptorIndex := 62, attributes := #[] }, { accessFlags := 1, nameIndex := 69, descriptorIndex := 70, attributes := #[] }] 49 2 #[] #[{ accessFlags := 18, nameIndex := 8, descriptorIndex := 26, attributes := #[] }, { accessFlags := 18, nameIndex := 29, descriptorIndex := 30, attributes := #[] }, { accessFlags := 18, nameIndex := 33, descriptorIndex := 34, attributes := #[] }, { accessFlags := 18, nameIndex := 37, descriptorIndex := 38, attributes := #[] }])
  fields := #[{ name := "lock", type := (.object "com/example/orderly_lock/orderlylock/LockName"), accessFlags := 18, slot := 0, constantValue := 0 }, { name := "holder", type := (.object "com/example/orderly_lock/orderlylock/Grant"), accessFlags := 18, slot := 1, constantValue := 0 }, { name := "highestToken", type := .long, accessFlags := 18, slot := 2, constantValue := 0 }, { name := "delayed", type := .boolean, accessFlags := 18, slot := 3, constantValue := 0 }]
  methods := #[k13m0, k13m1]
  instanceTypes := #[(.object "com/example/orderly_lock/orderlylock/LockName"), (.object "com/example/orderly_lock/orderlylock/Grant"), .long, .boolean]
  staticTypes := #[]
  resolved := Array.replicate 101 none
  statics := none }

def pool14 : Array CpInfo := pool [(1, .methodref 2 3), (0, .class_ 4), (0, .nameAndType 5 6), (0, u "java/lang/Record"), (0, u "<init>"), (0, u "()V"), (0, .string 8), (0, u "lock"), (0, .methodref 10 11), (0, .class_ 12), (0, .nameAndType 13 14), (0, u "java/util/Objects"), (0, u "requireNonNull"), (0, u "(Ljava/lang/Object;Ljava/lang/String;)Ljava/lang/Object;"), (0, .string 16), (0, u "session"), (9, .fieldref 27 28), (0, .class_ 29), (0, .nameAndType 8 30), (0, u "com/example/orderly_lock/orderlylock/Grant"), (0, u "Lcom/example/orderly_lock/orderlylock/LockName;"), (0, .fieldref 27 32), (0, .nameAndType 16 33), (0, u "Ljava/lang/String;"), (0, .fieldref 27 35), (0, .nameAndType 36 37), (0, u "token"), (0, u "J"), (6, u "(Lcom/example/orderly_lock/orderlylock/LockName;Ljava/lang/String;J)V"), (12, u "MODE")] 47

def k14c0 : Code := { maxStack := 4, maxLocals := 5, code := prog_2_method_1_code, exceptionTable := #[], attributes := #[] }
def k14m0 : Method := { name := "<init>", desc := "(Lcom/example/orderly_lock/orderlylock/LockName;Ljava/lang/String;J)V", sig := { parameters := [(.object "com/example/orderly_lock/orderlylock/LockName"), (.object "java/lang/String"), .long], returnType := none }, accessFlags := 1, code := some k14c0 }
/-- com/example/orderly_lock/orderlylock/Grant -/
def k14 : Class := { plain "com/example/orderly_lock/orderlylock/Grant" (some 2) with
  accessFlags := 49
  interfaces := #[]
  cf := some (fileOf pool14 27 #[] #[{ accessFlags := 1, nameIndex := 5, descriptorIndex := 44, attributes := #[] }] 49 2 #[] #[{ accessFlags := 18, nameIndex := 8, descriptorIndex := 30, attributes := #[] }, { accessFlags := 18, nameIndex := 16, descriptorIndex := 33, attributes := #[] }, { accessFlags := 18, nameIndex := 36, descriptorIndex := 37, attributes := #[] }, { accessFlags := 25, nameIndex := 57, descriptorIndex := 33, attributes := #[] }])
  fields := #[{ name := "lock", type := (.object "com/example/orderly_lock/orderlylock/LockName"), accessFlags := 18, slot := 0, constantValue := 0 }, { name := "session", type := (.object "java/lang/String"), accessFlags := 18, slot := 1, constantValue := 0 }, { name := "token", type := .long, accessFlags := 18, slot := 2, constantValue := 0 }, { name := "MODE", type := (.object "java/lang/String"), accessFlags := 25, slot := 0, constantValue := 0 }]
  methods := #[k14m0]
  instanceTypes := #[(.object "com/example/orderly_lock/orderlylock/LockName"), (.object "java/lang/String"), .long]
  staticTypes := #[(.object "java/lang/String")]
  resolved := Array.replicate 105 none
  statics := none }

def pool15 : Array CpInfo := pool [(9, u "<init>"), (6, .class_ 18), (1, u "java/lang/Object"), (0, u "()V"), (1, .class_ 23), (1, u "jdk/internal/util/ArraysSupport"), (0, u "LOG2_ARRAY_LONG_INDEX_SCALE"), (0, u "I"), (2, u "U"), (0, u "Ljdk/internal/misc/Unsafe;"), (8, u "BIG_ENDIAN"), (0, u "Z"), (8, u "LOG2_BYTE_BIT_SIZE"), (4, u "LOG2_ARRAY_INT_INDEX_SCALE"), (54, u "JLA"), (0, u "Ljdk/internal/access/JavaLangAccess;"), (11, u "LOG2_ARRAY_BOOLEAN_INDEX_SCALE"), (9, u "LOG2_ARRAY_BYTE_INDEX_SCALE"), (5, u "LOG2_ARRAY_CHAR_INDEX_SCALE"), (5, u "LOG2_ARRAY_SHORT_INDEX_SCALE"), (18, u "LOG2_ARRAY_FLOAT_INDEX_SCALE"), (24, u "LOG2_ARRAY_DOUBLE_INDEX_SCALE"), (89, u "T_BOOLEAN"), (2, u "T_CHAR"), (1, u "T_FLOAT"), (1, u "T_DOUBLE"), (1, u "T_BYTE"), (1, u "T_SHORT"), (1, u "T_INT"), (1, u "T_LONG"), (1, u "SOFT_MAX_ARRAY_LENGTH")] 83

def k15m0 : Method := { name := "<init>", desc := "()V", sig := { parameters := [], returnType := none }, accessFlags := 2, code := none }
/-- jdk/internal/util/ArraysSupport -/
def k15 : Class := { plain "jdk/internal/util/ArraysSupport" (some 0) with
  accessFlags := 33
  interfaces := #[]
  cf := some (fileOf pool15 21 #[] #[{ accessFlags := 2, nameIndex := 9, descriptorIndex := 19, attributes := #[] }] 33 16 #[] #[{ accessFlags := 24, nameIndex := 28, descriptorIndex := 29, attributes := #[] }, { accessFlags := 26, nameIndex := 38, descriptorIndex := 39, attributes := #[] }, { accessFlags := 25, nameIndex := 121, descriptorIndex := 25, attributes := #[] }, { accessFlags := 25, nameIndex := 131, descriptorIndex := 25, attributes := #[] }, { accessFlags := 25, nameIndex := 137, descriptorIndex := 25, attributes := #[] }, { accessFlags := 25, nameIndex := 143, descriptorIndex := 25, attributes := #[] }, { accessFlags := 25, nameIndex := 53, descriptorIndex := 25, attributes := #[] }, { accessFlags := 25, nameIndex := 24, descriptorIndex := 25, attributes := #[] }, { accessFlags := 25, nameIndex := 162, descriptorIndex := 25, attributes := #[] }, { accessFlags := 25, nameIndex := 187, descriptorIndex := 25, attributes := #[] }, { accessFlags := 26, nameIndex := 48, descriptorIndex := 25, attributes := #[] }, { accessFlags := 25, nameIndex := 277, descriptorIndex := 25, attributes := #[] }, { accessFlags := 25, nameIndex := 280, descriptorIndex := 25, attributes := #[] }, { accessFlags := 25, nameIndex := 282, descriptorIndex := 25, attributes := #[] }, { accessFlags := 25, nameIndex := 284, descriptorIndex := 25, attributes := #[] }, { accessFlags := 25, nameIndex := 286, descriptorIndex := 25, attributes := #[] }, { accessFlags := 25, nameIndex := 288, descriptorIndex := 25, attributes := #[] }, { accessFlags := 25, nameIndex := 290, descriptorIndex := 25, attributes := #[] }, { accessFlags := 25, nameIndex := 292, descriptorIndex := 25, attributes := #[] }, { accessFlags := 26, nameIndex := 108, descriptorIndex := 109, attributes := #[] }, { accessFlags := 25, nameIndex := 294, descriptorIndex := 25, attributes := #[] }])
  fields := #[{ name := "U", type := (.object "jdk/internal/misc/Unsafe"), accessFlags := 24, slot := 0, constantValue := 0 }, { name := "BIG_ENDIAN", type := .boolean, accessFlags := 26, slot := 1, constantValue := 0 }, { name := "LOG2_ARRAY_BOOLEAN_INDEX_SCALE", type := .int, accessFlags := 25, slot := 2, constantValue := 0 }, { name := "LOG2_ARRAY_BYTE_INDEX_SCALE", type := .int, accessFlags := 25, slot := 3, constantValue := 0 }, { name := "LOG2_ARRAY_CHAR_INDEX_SCALE", type := .int, accessFlags := 25, slot := 4, constantValue := 0 }, { name := "LOG2_ARRAY_SHORT_INDEX_SCALE", type := .int, accessFlags := 25, slot := 5, constantValue := 0 }, { name := "LOG2_ARRAY_INT_INDEX_SCALE", type := .int, accessFlags := 25, slot := 6, constantValue := 0 }, { name := "LOG2_ARRAY_LONG_INDEX_SCALE", type := .int, accessFlags := 25, slot := 7, constantValue := 0 }, { name := "LOG2_ARRAY_FLOAT_INDEX_SCALE", type := .int, accessFlags := 25, slot := 8, constantValue := 0 }, { name := "LOG2_ARRAY_DOUBLE_INDEX_SCALE", type := .int, accessFlags := 25, slot := 9, constantValue := 0 }, { name := "LOG2_BYTE_BIT_SIZE", type := .int, accessFlags := 26, slot := 10, constantValue := 0 }, { name := "T_BOOLEAN", type := .int, accessFlags := 25, slot := 11, constantValue := 0 }, { name := "T_CHAR", type := .int, accessFlags := 25, slot := 12, constantValue := 0 }, { name := "T_FLOAT", type := .int, accessFlags := 25, slot := 13, constantValue := 0 }, { name := "T_DOUBLE", type := .int, accessFlags := 25, slot := 14, constantValue := 0 }, { name := "T_BYTE", type := .int, accessFlags := 25, slot := 15, constantValue := 0 }, { name := "T_SHORT", type := .int, accessFlags := 25, slot := 16, constantValue := 0 }, { name := "T_INT", type := .int, accessFlags := 25, slot := 17, constantValue := 0 }, { name := "T_LONG", type := .int, accessFlags := 25, slot := 18, constantValue := 0 }, { name := "JLA", type := (.object "jdk/internal/access/JavaLangAccess"), accessFlags := 26, slot := 19, constantValue := 0 }, { name := "SOFT_MAX_ARRAY_LENGTH", type := .int, accessFlags := 25, slot := 20, constantValue := 0 }]
  methods := #[k15m0]
  instanceTypes := #[]
  staticTypes := #[(.object "jdk/internal/misc/Unsafe"), .boolean, .int, .int, .int, .int, .int, .int, .int, .int, .int, .int, .int, .int, .int, .int, .int, .int, .int, (.object "jdk/internal/access/JavaLangAccess"), .int]
  resolved := Array.replicate 378 none
  statics := none }

def pool16 : Array CpInfo := pool [(1, u "java/lang/Cloneable"), (0, .class_ 1), (0, u "java/lang/Object"), (0, .class_ 3)] 3

/-- java/lang/Cloneable -/
def k16 : Class := { plain "java/lang/Cloneable" (some 0) with
  accessFlags := 1537
  interfaces := #[]
  cf := some (fileOf pool16 2 #[] #[] 1537 4 #[] #[])
  fields := #[]
  methods := #[]
  instanceTypes := #[]
  staticTypes := #[]
  resolved := Array.replicate 8 none
  statics := none }

/-- the primitive byte -/
def k17 : Class := { plain "byte" none with kind := .primitive 'B', accessFlags := 0x411 }
/-- [B -/
def k18 : Class := { plain "[B" (some 0) with kind := .array 17 .byte, interfaces := #[16, 4], accessFlags := 1041 }

/-- the primitive int -/
def k19 : Class := { plain "int" none with kind := .primitive 'I', accessFlags := 0x411 }
/-- [I -/
def k20 : Class := { plain "[I" (some 0) with kind := .array 19 .int, interfaces := #[16, 4], accessFlags := 1041 }

def heap : Heap := #[{ cls := 9, slots := #[.long 0, .int 1, .null, .int 0, .null, .int 0, .int 0], vm := .statics 9 },
  { cls := 12, slots := #[.null, .null, .null], vm := .statics 12 }]
def classes : Array Class := #[k0, k1, k2, k3, k4, k5, k6, k7, k8, k9, k10, k11, k12, k13, k14, k15, k16, k17, k18, k19, k20]
def interned : List (Array UInt16 × Addr) := []
def slotsUsed : Nat := 10
def theMethod : MethodId := ⟨1, 1⟩
def args0 : Array Value := #[.int 1, .long 5, .long 7, .int 65]
def aboutOver (below : List Frame) : State where
  vm := { classes := classes, interned := interned.toArray }
  heap := heap
  slotsUsed := slotsUsed
  threads := #[{ frames := .invoking theMethod args0 :: below }]
def below0 : List Frame := [.native { method := ⟨0, 0⟩, args := #[] }]
def about1 : State := aboutOver below0
def p0 : Program := .bare "" "" ""
def e0 : Env := launch0.env 0 0 0
theorem w_frames : about1.frames = Frame.invoking theMethod args0 :: below0 := rfl
set_option maxRecDepth 65536 in
theorem w_args : argsFit about1.vm theMethod args0 = true := by decide +kernel
set_option maxRecDepth 65536 in
theorem w_heap : heapFits about1 = true := by decide +kernel
set_option maxRecDepth 65536 in
theorem w_runnable : about1.curStatus? = some .runnable := by decide +kernel
set_option maxRecDepth 65536 in
theorem w_alone : about1.alone = true := by decide +kernel
set_option maxRecDepth 65536 in
theorem w_named : about1.methodNamed? x = some theMethod := by decide +kernel
set_option maxRecDepth 65536 in
theorem w_hears : about1.hears theMethod below0 = true := by decide +kernel
set_option maxRecDepth 65536 in
theorem w_ripe : about1.ripe theMethod args0 below0 = true := by decide +kernel
theorem w_running : about1.status = .running := rfl
set_option maxRecDepth 65536 in
theorem w_room : about1.hasRoom e0.platform room_1 = true :=
  launch0.hasRoom_least _ room_1 (by decide +kernel) (by decide +kernel) (by decide +kernel) (by decide +kernel) (by decide +kernel) (by decide +kernel)
theorem allAtoms_all (ts : List Jvm.Cond) (a : Array Jvm.Value) (st : Jvm.State) : (allAtoms ts).before a st = ts.all (fun c => c.before a st) := by
  induction ts with
  | nil => rfl
  | cons c t ih =>
    show (Jvm.Cond.and c (allAtoms t)).before a st = _
    rw [Jvm.Cond.before_and, ih, List.all_cons]
def words1 : List Jvm.Cond := Jvm.Cond.code x code maxLocals ret :: tables_1
/-- a 'code' word, met by the world's own term for the bytes: nothing is compared byte by byte -/
theorem code_word {y : MethodName} {bytes : ByteArray} {mx : Nat} {rt : Option FieldType} {a : Array Value} {s : State} {m : MethodId} {meth : Method} {c : Code} (h1 : s.methodNamed? y = some m) (h2 : s.vm.method? m = some meth) (h3 : meth.code = some c) (h4 : c.code = bytes)
    (h5 : (c.maxLocals == mx && c.exceptionTable.isEmpty && decide (c.maxStack ≤ mostOperands) && decide (meth.sig.returnType = rt) && !meth.locks && decide (parseMethodDescriptor y.desc = some meth.sig)) = true) : (Jvm.Cond.code y bytes mx rt).before a s = true := by
  simp only [Bool.and_eq_true, beq_iff_eq, Bool.not_eq_true', decide_eq_true_eq] at h5
  obtain ⟨⟨⟨⟨⟨g1, g2⟩, g3⟩, g4⟩, g5⟩, g6⟩ := h5
  simp [Cond.before, Cond.holds, Cond.value, h1, h2, h3, h4, g1, g2, g3, g4, g5, g6]
def isCode : Jvm.Cond → Bool
  | .code _ _ _ _ => true
  | _ => false
theorem all_split {L : List Jvm.Cond} {P : Jvm.Cond → Bool} (h1 : L.all (fun c => isCode c || P c) = true) (h2 : ∀ c ∈ L.filter isCode, P c = true) : L.all P = true := by
  refine List.all_eq_true.mpr fun c hc => ?_
  have h := List.all_eq_true.mp h1 c hc
  rcases Bool.eq_false_or_eq_true (isCode c) with hi | hi
  · exact h2 c (List.mem_filter.mpr ⟨hc, hi⟩)
  · simpa [hi] using h
set_option maxRecDepth 65536 in
theorem w_c0 : (Jvm.Cond.code x code maxLocals ret).before args0 about1 = true := code_word (m := ⟨1, 1⟩) (meth := k1m1) (c := k1c1) (by decide +kernel) rfl rfl rfl (by decide +kernel)
set_option maxRecDepth 65536 in
theorem w_c1 : (Jvm.Cond.code ({ cls := "com/example/orderly_lock/orderlylock/LockName", name := "<init>", desc := "(Ljava/lang/String;)V" } : Jvm.MethodName) prog_9_method_1_code (4 : Nat) (Option.none : Option Jvm.ClassFile.FieldType)).before args0 about1 = true := code_word (m := ⟨3, 0⟩) (meth := k3m0) (c := k3c0) (by decide +kernel) rfl rfl rfl (by decide +kernel)
set_option maxRecDepth 65536 in
theorem w_c2 : (Jvm.Cond.code ({ cls := "java/lang/Record", name := "<init>", desc := "()V" } : Jvm.MethodName) jdk_30_method_1_code (1 : Nat) (Option.none : Option Jvm.ClassFile.FieldType)).before args0 about1 = true := code_word (m := ⟨2, 0⟩) (meth := k2m0) (c := k2c0) (by decide +kernel) rfl rfl rfl (by decide +kernel)
set_option maxRecDepth 65536 in
theorem w_c3 : (Jvm.Cond.code ({ cls := "java/lang/Object", name := "<init>", desc := "()V" } : Jvm.MethodName) object_method_1_code (1 : Nat) (Option.none : Option Jvm.ClassFile.FieldType)).before args0 about1 = true := code_word (m := ⟨0, 0⟩) (meth := k0m0) (c := k0c0) (by decide +kernel) rfl rfl rfl (by decide +kernel)
set_option maxRecDepth 65536 in
theorem w_c4 : (Jvm.Cond.code ({ cls := "java/util/Objects", name := "requireNonNull", desc := "(Ljava/lang/Object;Ljava/lang/String;)Ljava/lang/Object;" } : Jvm.MethodName) jdk_31_method_11_code (2 : Nat) (Option.some (Jvm.ClassFile.FieldType.object "java/lang/Object"))).before args0 about1 = true := code_word (m := ⟨10, 1⟩) (meth := k10m1) (c := k10c1) (by decide +kernel) rfl rfl rfl (by decide +kernel)
set_option maxRecDepth 65536 in
theorem w_c5 : (Jvm.Cond.code ({ cls := "java/lang/String", name := "isEmpty", desc := "()Z" } : Jvm.MethodName) jdk_42_method_55_code (1 : Nat) (Option.some Jvm.ClassFile.FieldType.boolean)).before args0 about1 = true := code_word (m := ⟨9, 2⟩) (meth := k9m2) (c := k9c2) (by decide +kernel) rfl rfl rfl (by decide +kernel)
set_option maxRecDepth 65536 in
theorem w_c6 : (Jvm.Cond.code ({ cls := "java/lang/String", name := "length", desc := "()I" } : Jvm.MethodName) jdk_42_method_54_code (1 : Nat) (Option.some Jvm.ClassFile.FieldType.int)).before args0 about1 = true := code_word (m := ⟨9, 1⟩) (meth := k9m1) (c := k9c1) (by decide +kernel) rfl rfl rfl (by decide +kernel)
set_option maxRecDepth 65536 in
theorem w_c7 : (Jvm.Cond.code ({ cls := "java/lang/String", name := "coder", desc := "()B" } : Jvm.MethodName) jdk_42_method_152_code (1 : Nat) (Option.some Jvm.ClassFile.FieldType.byte)).before args0 about1 = true := code_word (m := ⟨9, 6⟩) (meth := k9m6) (c := k9c6) (by decide +kernel) rfl rfl rfl (by decide +kernel)
set_option maxRecDepth 65536 in
theorem w_c8 : (Jvm.Cond.code ({ cls := "java/lang/String", name := "charAt", desc := "(I)C" } : Jvm.MethodName) jdk_42_method_56_code (2 : Nat) (Option.some Jvm.ClassFile.FieldType.char)).before args0 about1 = true := code_word (m := ⟨9, 3⟩) (meth := k9m3) (c := k9c3) (by decide +kernel) rfl rfl rfl (by decide +kernel)
set_option maxRecDepth 65536 in
theorem w_c9 : (Jvm.Cond.code ({ cls := "java/lang/String", name := "isLatin1", desc := "()Z" } : Jvm.MethodName) jdk_42_method_154_code (1 : Nat) (Option.some Jvm.ClassFile.FieldType.boolean)).before args0 about1 = true := code_word (m := ⟨9, 7⟩) (meth := k9m7) (c := k9c7) (by decide +kernel) rfl rfl rfl (by decide +kernel)
set_option maxRecDepth 65536 in
theorem w_c10 : (Jvm.Cond.code ({ cls := "java/lang/StringLatin1", name := "charAt", desc := "([BI)C" } : Jvm.MethodName) jdk_43_method_2_code (2 : Nat) (Option.some Jvm.ClassFile.FieldType.char)).before args0 about1 = true := code_word (m := ⟨11, 1⟩) (meth := k11m1) (c := k11c1) (by decide +kernel) rfl rfl rfl (by decide +kernel)
set_option maxRecDepth 65536 in
theorem w_c11 : (Jvm.Cond.code ({ cls := "java/lang/String", name := "checkIndex", desc := "(II)V" } : Jvm.MethodName) jdk_42_method_155_code (2 : Nat) (Option.none : Option Jvm.ClassFile.FieldType)).before args0 about1 = true := code_word (m := ⟨9, 8⟩) (meth := k9m8) (c := k9c8) (by decide +kernel) rfl rfl rfl (by decide +kernel)
set_option maxRecDepth 65536 in
theorem w_c12 : (Jvm.Cond.code ({ cls := "jdk/internal/util/Preconditions", name := "checkIndex", desc := "(IILjava/util/function/BiFunction;)I" } : Jvm.MethodName) jdk_41_method_11_code (3 : Nat) (Option.some Jvm.ClassFile.FieldType.int)).before args0 about1 = true := code_word (m := ⟨12, 1⟩) (meth := k12m1) (c := k12c1) (by decide +kernel) rfl rfl rfl (by decide +kernel)
set_option maxRecDepth 65536 in
theorem w_c13 : (Jvm.Cond.code ({ cls := "com/example/orderly_lock/orderlylock/LockName", name := "isNameCharacter", desc := "(C)Z" } : Jvm.MethodName) prog_9_method_3_code (1 : Nat) (Option.some Jvm.ClassFile.FieldType.boolean)).before args0 about1 = true := code_word (m := ⟨3, 1⟩) (meth := k3m1) (c := k3c1) (by decide +kernel) rfl rfl rfl (by decide +kernel)
set_option maxRecDepth 65536 in
theorem w_c14 : (Jvm.Cond.code ({ cls := "com/example/orderly_lock/orderlylock/LockState", name := "<init>", desc := "(Lcom/example/orderly_lock/orderlylock/LockName;Lcom/example/orderly_lock/orderlylock/Grant;JZ)V" } : Jvm.MethodName) prog_10_method_1_code (6 : Nat) (Option.none : Option Jvm.ClassFile.FieldType)).before args0 about1 = true := code_word (m := ⟨13, 0⟩) (meth := k13m0) (c := k13c0) (by decide +kernel) rfl rfl rfl (by decide +kernel)
set_option maxRecDepth 65536 in
theorem w_c15 : (Jvm.Cond.code ({ cls := "com/example/orderly_lock/orderlylock/LockState", name := "held", desc := "()Z" } : Jvm.MethodName) prog_10_method_2_code (1 : Nat) (Option.some Jvm.ClassFile.FieldType.boolean)).before args0 about1 = true := code_word (m := ⟨13, 1⟩) (meth := k13m1) (c := k13c1) (by decide +kernel) rfl rfl rfl (by decide +kernel)
set_option maxRecDepth 65536 in
theorem w_c16 : (Jvm.Cond.code ({ cls := "java/lang/String", name := "valueOf", desc := "(C)Ljava/lang/String;" } : Jvm.MethodName) jdk_42_method_139_code (1 : Nat) (Option.some (Jvm.ClassFile.FieldType.object "java/lang/String"))).before args0 about1 = true := code_word (m := ⟨9, 4⟩) (meth := k9m4) (c := k9c4) (by decide +kernel) rfl rfl rfl (by decide +kernel)
set_option maxRecDepth 65536 in
theorem w_c17 : (Jvm.Cond.code ({ cls := "java/lang/StringLatin1", name := "canEncode", desc := "(C)Z" } : Jvm.MethodName) jdk_43_method_3_code (1 : Nat) (Option.some Jvm.ClassFile.FieldType.boolean)).before args0 about1 = true := code_word (m := ⟨11, 2⟩) (meth := k11m2) (c := k11c2) (by decide +kernel) rfl rfl rfl (by decide +kernel)
set_option maxRecDepth 65536 in
theorem w_c18 : (Jvm.Cond.code ({ cls := "java/lang/StringLatin1", name := "toBytes", desc := "(C)[B" } : Jvm.MethodName) jdk_43_method_46_code (1 : Nat) (Option.some (Jvm.ClassFile.FieldType.array Jvm.ClassFile.FieldType.byte))).before args0 about1 = true := code_word (m := ⟨11, 3⟩) (meth := k11m3) (c := k11c3) (by decide +kernel) rfl rfl rfl (by decide +kernel)
set_option maxRecDepth 65536 in
theorem w_c19 : (Jvm.Cond.code ({ cls := "java/lang/String", name := "<init>", desc := "([BB)V" } : Jvm.MethodName) jdk_42_method_151_code (3 : Nat) (Option.none : Option Jvm.ClassFile.FieldType)).before args0 about1 = true := code_word (m := ⟨9, 5⟩) (meth := k9m5) (c := k9c5) (by decide +kernel) rfl rfl rfl (by decide +kernel)
set_option maxRecDepth 65536 in
theorem w_c20 : (Jvm.Cond.code ({ cls := "com/example/orderly_lock/orderlylock/Grant", name := "<init>", desc := "(Lcom/example/orderly_lock/orderlylock/LockName;Ljava/lang/String;J)V" } : Jvm.MethodName) prog_2_method_1_code (5 : Nat) (Option.none : Option Jvm.ClassFile.FieldType)).before args0 about1 = true := code_word (m := ⟨14, 0⟩) (meth := k14m0) (c := k14c0) (by decide +kernel) rfl rfl rfl (by decide +kernel)
def codes1 : List Jvm.Cond := [Jvm.Cond.code x code maxLocals ret, Jvm.Cond.code ({ cls := "com/example/orderly_lock/orderlylock/LockName", name := "<init>", desc := "(Ljava/lang/String;)V" } : Jvm.MethodName) prog_9_method_1_code (4 : Nat) (Option.none : Option Jvm.ClassFile.FieldType), Jvm.Cond.code ({ cls := "java/lang/Record", name := "<init>", desc := "()V" } : Jvm.MethodName) jdk_30_method_1_code (1 : Nat) (Option.none : Option Jvm.ClassFile.FieldType), Jvm.Cond.code ({ cls := "java/lang/Object", name := "<init>", desc := "()V" } : Jvm.MethodName) object_method_1_code (1 : Nat) (Option.none : Option Jvm.ClassFile.FieldType), Jvm.Cond.code ({ cls := "java/util/Objects", name := "requireNonNull", desc := "(Ljava/lang/Object;Ljava/lang/String;)Ljava/lang/Object;" } : Jvm.MethodName) jdk_31_method_11_code (2 : Nat) (Option.some (Jvm.ClassFile.FieldType.object "java/lang/Object")), Jvm.Cond.code ({ cls := "java/lang/String", name := "isEmpty", desc := "()Z" } : Jvm.MethodName) jdk_42_method_55_code (1 : Nat) (Option.some Jvm.ClassFile.FieldType.boolean), Jvm.Cond.code ({ cls := "java/lang/String", name := "length", desc := "()I" } : Jvm.MethodName) jdk_42_method_54_code (1 : Nat) (Option.some Jvm.ClassFile.FieldType.int), Jvm.Cond.code ({ cls := "java/lang/String", name := "coder", desc := "()B" } : Jvm.MethodName) jdk_42_method_152_code (1 : Nat) (Option.some Jvm.ClassFile.FieldType.byte), Jvm.Cond.code ({ cls := "java/lang/String", name := "charAt", desc := "(I)C" } : Jvm.MethodName) jdk_42_method_56_code (2 : Nat) (Option.some Jvm.ClassFile.FieldType.char), Jvm.Cond.code ({ cls := "java/lang/String", name := "isLatin1", desc := "()Z" } : Jvm.MethodName) jdk_42_method_154_code (1 : Nat) (Option.some Jvm.ClassFile.FieldType.boolean), Jvm.Cond.code ({ cls := "java/lang/StringLatin1", name := "charAt", desc := "([BI)C" } : Jvm.MethodName) jdk_43_method_2_code (2 : Nat) (Option.some Jvm.ClassFile.FieldType.char), Jvm.Cond.code ({ cls := "java/lang/String", name := "checkIndex", desc := "(II)V" } : Jvm.MethodName) jdk_42_method_155_code (2 : Nat) (Option.none : Option Jvm.ClassFile.FieldType), Jvm.Cond.code ({ cls := "jdk/internal/util/Preconditions", name := "checkIndex", desc := "(IILjava/util/function/BiFunction;)I" } : Jvm.MethodName) jdk_41_method_11_code (3 : Nat) (Option.some Jvm.ClassFile.FieldType.int), Jvm.Cond.code ({ cls := "com/example/orderly_lock/orderlylock/LockName", name := "isNameCharacter", desc := "(C)Z" } : Jvm.MethodName) prog_9_method_3_code (1 : Nat) (Option.some Jvm.ClassFile.FieldType.boolean), Jvm.Cond.code ({ cls := "com/example/orderly_lock/orderlylock/LockState", name := "<init>", desc := "(Lcom/example/orderly_lock/orderlylock/LockName;Lcom/example/orderly_lock/orderlylock/Grant;JZ)V" } : Jvm.MethodName) prog_10_method_1_code (6 : Nat) (Option.none : Option Jvm.ClassFile.FieldType), Jvm.Cond.code ({ cls := "com/example/orderly_lock/orderlylock/LockState", name := "held", desc := "()Z" } : Jvm.MethodName) prog_10_method_2_code (1 : Nat) (Option.some Jvm.ClassFile.FieldType.boolean), Jvm.Cond.code ({ cls := "java/lang/String", name := "valueOf", desc := "(C)Ljava/lang/String;" } : Jvm.MethodName) jdk_42_method_139_code (1 : Nat) (Option.some (Jvm.ClassFile.FieldType.object "java/lang/String")), Jvm.Cond.code ({ cls := "java/lang/StringLatin1", name := "canEncode", desc := "(C)Z" } : Jvm.MethodName) jdk_43_method_3_code (1 : Nat) (Option.some Jvm.ClassFile.FieldType.boolean), Jvm.Cond.code ({ cls := "java/lang/StringLatin1", name := "toBytes", desc := "(C)[B" } : Jvm.MethodName) jdk_43_method_46_code (1 : Nat) (Option.some (Jvm.ClassFile.FieldType.array Jvm.ClassFile.FieldType.byte)), Jvm.Cond.code ({ cls := "java/lang/String", name := "<init>", desc := "([BB)V" } : Jvm.MethodName) jdk_42_method_151_code (3 : Nat) (Option.none : Option Jvm.ClassFile.FieldType), Jvm.Cond.code ({ cls := "com/example/orderly_lock/orderlylock/Grant", name := "<init>", desc := "(Lcom/example/orderly_lock/orderlylock/LockName;Ljava/lang/String;J)V" } : Jvm.MethodName) prog_2_method_1_code (5 : Nat) (Option.none : Option Jvm.ClassFile.FieldType)]
set_option maxRecDepth 65536 in
theorem codes_eq : words1.filter isCode = codes1 := rfl
theorem w_codes : ∀ c ∈ words1.filter isCode, c.before args0 about1 = true := by
  rw [codes_eq]
  intro c hc
  simp only [codes1, List.mem_cons, List.not_mem_nil, or_false] at hc
  rcases hc with rfl | rfl | rfl | rfl | rfl | rfl | rfl | rfl | rfl | rfl | rfl | rfl | rfl | rfl | rfl | rfl | rfl | rfl | rfl | rfl | rfl
  · exact w_c0
  · exact w_c1
  · exact w_c2
  · exact w_c3
  · exact w_c4
  · exact w_c5
  · exact w_c6
  · exact w_c7
  · exact w_c8
  · exact w_c9
  · exact w_c10
  · exact w_c11
  · exact w_c12
  · exact w_c13
  · exact w_c14
  · exact w_c15
  · exact w_c16
  · exact w_c17
  · exact w_c18
  · exact w_c19
  · exact w_c20
set_option maxRecDepth 65536 in
theorem w_t1 : (words1.take 24).all (fun c => isCode c || c.before args0 about1) = true := by decide +kernel
set_option maxRecDepth 65536 in
theorem w_t2 : ((words1.drop 24).take 24).all (fun c => isCode c || c.before args0 about1) = true := by decide +kernel
set_option maxRecDepth 65536 in
theorem w_t3 : (((words1.drop 24).drop 24).take 24).all (fun c => isCode c || c.before args0 about1) = true := by decide +kernel
set_option maxRecDepth 65536 in
theorem w_t4 : ((((words1.drop 24).drop 24).drop 24).take 24).all (fun c => isCode c || c.before args0 about1) = true := by decide +kernel
set_option maxRecDepth 65536 in
theorem w_t5 : (((((words1.drop 24).drop 24).drop 24).drop 24).take 24).all (fun c => isCode c || c.before args0 about1) = true := by decide +kernel
set_option maxRecDepth 65536 in
theorem w_t6 : (((((words1.drop 24).drop 24).drop 24).drop 24).drop 24).all (fun c => isCode c || c.before args0 about1) = true := by decide +kernel
theorem w_tables : (allAtoms (Jvm.Cond.code x code maxLocals ret :: tables_1)).before args0 about1 = true := by
  rw [allAtoms_all]
  show words1.all (fun c => c.before args0 about1) = true
  refine all_split ?_ w_codes
  rw [← List.take_append_drop 24 words1, List.all_append, w_t1, ← List.take_append_drop 24 (words1.drop 24), List.all_append, w_t2, ← List.take_append_drop 24 ((words1.drop 24).drop 24), List.all_append, w_t3, ← List.take_append_drop 24 (((words1.drop 24).drop 24).drop 24), List.all_append, w_t4, ← List.take_append_drop 24 ((((words1.drop 24).drop 24).drop 24).drop 24), List.all_append, w_t5, w_t6]
  rfl
set_option maxRecDepth 65536 in
theorem w_rest : rest_1_c.before args0 about1 = true := by decide +kernel
set_option maxRecDepth 65536 in
theorem w_case : (Jvm.Cond.and given_1 narrow_1).before args0 about1 = true := by decide +kernel
set_option maxRecDepth 65536 in
theorem w_consts : constsHeld consts_1 about1 := Jvm.Lit.constsHeldB_iff.mp (by decide +kernel)
theorem w_applies : (headSpec (Jvm.Cond.code x code maxLocals ret :: tables_1) room_1).applies x e0.platform about1 = true :=
  (Spec.applies_iff w_frames).mpr ⟨w_running, w_runnable, w_alone, w_named, w_hears, w_ripe, w_room, w_tables⟩
theorem atStart : AtStart classFile x code maxLocals ret World_1 tables_1 room_1 Calls_1 rest_1 Pre_1 launch0 p0 e0 about1 theMethod args0 below0 :=
  ⟨lists_1, trivial, launch0.admits_env _ _ _, launch0.least_env, fairChoices_fair.cas, fairChoices_fair.clock, w_frames, w_args, w_heap, w_applies, ⟨w_consts, trivial⟩, w_rest, w_case⟩
end start1
theorem witness_1 : WitnessClaimed_1 := ⟨start1.p0, start1.e0, start1.about1, start1.theMethod, start1.args0, start1.below0, start1.atStart⟩
end Jvm.Pilot.@@N@@
