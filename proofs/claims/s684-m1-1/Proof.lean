import JvmDerived
import JvmDerived.Pilot.@@N@@Statement
import JvmDerived.Pilot.@@N@@Code
set_option linter.unusedVariables false
set_option linter.unusedSimpArgs false
namespace Jvm.RoadKit
open Sem ClassFile Op Lib Jvm.Stand Jvm.Free Jvm.LawKit
section New
variable {p : Program} {l : Launch} {e : Env} {R : Room} {s : State} {m : MethodId} {args : Array Value} {below : List Frame} {meth : Method} {c : Code} {T : State} {locs : List Loc} {cells slots : Nat}
theorem retI (X : Stand p l e R s m args below meth c T locs cells slots) (hx : p.tables.exec = Jvm.exec) {pc : Nat} {Ls : Array Slot} {z : Int32} {rest : List Value} (hret : meth.sig.returnType = some .int) (hd : decode c.code pc = .ok (.ireturn, 1)) {fs : List Frame}
    (hl : ∀ (f : JFrame) (acts : List Action), f.method = m → f.locked = none → f.entered = [] → (doReturn e (T.setTop f) acts (some (.int z))).1 = T.setFrames fs) : Steps p.tables e below (T.setTop (mkF m pc Ls (.int z :: rest))) (T.setFrames fs) := by
  have hm' : T.vm.method? m = some meth := X.method'
  have hn : narrow .int (.int z) = .int z := rfl
  show Steps p.tables e below (T.setTop { method := m, pc := pc, locals := Ls, stack := _ :: rest, locked := none }) _
  jvm_step X.here [X.here.top, hx, hd, hm', hret, hn]
  first | (intro acts; rw [hl _ acts rfl rfl rfl]) | rw [hl _ _ rfl rfl rfl]
  exact Steps.refl _
end New
end Jvm.RoadKit
namespace Jvm.Pilot.@@N@@
open Jvm Jvm.ClassFile Sem Op Lib Jvm.Free Jvm.Stand Jvm.LawKit Jvm.RoadKit Bundle Jvm.Pilot.@@N@@.Jvm.D
/-! the rest of a walk, from a state on: it returns, and what it leaves -/
def OwnGo (p : Program) (e : Env) (below : List Frame) (s : State) (Q : Option Value → Heap → List Loc → Prop) (K N : Nat) (U : State) : Prop :=
  ∃ t o, Steps p.tables e below U t ∧ t.status = .running ∧ Ended t below o ∧ ∃ v L, o = .returned v ∧ Q v t.heap L ∧ FrameEnd s o t L K N
section OwnKit
variable {p : Program} {l : Launch} {e : Env} {R : Room} {s : State} {m : MethodId} {args : Array Value} {below : List Frame} {meth : Method} {c : Code} {T : State} {locs : List Loc} {cells slots : Nat} {Q : Option Value → Heap → List Loc → Prop} {K N : Nat} {U U' : State} {h : Heap}
theorem own_on (st : ∀ t, Steps p.tables e below U' t → Steps p.tables e below U t) (k : OwnGo p e below s Q K N U') : OwnGo p e below s Q K N U := by
  obtain ⟨t, o, h1, r⟩ := k; exact ⟨t, o, st t h1, r⟩
theorem own_tr (st : Steps p.tables e below U U') (k : OwnGo p e below s Q K N U') : OwnGo p e below s Q K N U := own_on (fun _ q => st.trans q) k
theorem own_cast {g g' : JFrame} (q : g = g') (k : OwnGo p e below s Q K N (T.setTop g')) : OwnGo p e below s Q K N (T.setTop g) := q ▸ k
theorem own_end (X : Stand p l e R s m args below meth c T locs cells slots) (hlk : meth.locks = false) {v : Option Value} (hv : meth.sig.returnType = none → v = none) (eT : T.heap = h) (q : Q v h locs) (hk : cells ≤ K) (hn : slots ≤ N)
    (st : ∀ fs, (∀ (f : JFrame) (acts : List Action), f.method = m → f.locked = none → f.entered = [] → (doReturn e (T.setTop f) acts v).1 = T.setFrames fs) → Steps p.tables e below U (T.setFrames fs)) : OwnGo p e below s Q K N U := by
  obtain ⟨fs, hr, hrun, hended, hW, hsame⟩ := X.leave (v := v) hv hlk
  refine ⟨_, _, st fs hr, hrun, hended, v, locs, rfl, ?_, ⟨_, rfl⟩, hW, hsame.mono hk hn⟩
  have : (T.setFrames fs).heap = h := eT
  rw [this]; exact q
theorem own_retN (X : Stand p l e R s m args below meth c T locs cells slots) (hx : p.tables.exec = Jvm.exec) (hlk : meth.locks = false) {pc : Nat} {Ls : Array Slot} {z : Int32} {t : FieldType} {rest : List Value} (hret : meth.sig.returnType = some t) (ht : t = .boolean ∨ t = .byte ∨ t = .char ∨ t = .short)
    (hd : decode c.code pc = .ok (.ireturn, 1)) (eT : T.heap = h) (q : Q (some (.int (nar t z))) h locs) (hk : cells ≤ K) (hn : slots ≤ N) : OwnGo p e below s Q K N (T.setTop (mkF m pc Ls (.int z :: rest))) :=
  own_end X hlk (fun h => by rw [hret] at h; cases h) eT q hk hn fun fs hr => retN X hx hret ht hd hr
theorem own_retI (X : Stand p l e R s m args below meth c T locs cells slots) (hx : p.tables.exec = Jvm.exec) (hlk : meth.locks = false) {pc : Nat} {Ls : Array Slot} {z : Int32} {rest : List Value} (hret : meth.sig.returnType = some .int)
    (hd : decode c.code pc = .ok (.ireturn, 1)) (eT : T.heap = h) (q : Q (some (.int z)) h locs) (hk : cells ≤ K) (hn : slots ≤ N) : OwnGo p e below s Q K N (T.setTop (mkF m pc Ls (.int z :: rest))) :=
  own_end X hlk (fun h => by rw [hret] at h; cases h) eT q hk hn fun fs hr => retI X hx hret hd hr
theorem own_retA (X : Stand p l e R s m args below meth c T locs cells slots) (hx : p.tables.exec = Jvm.exec) (hlk : meth.locks = false) {pc : Nat} {Ls : Array Slot} {w : Value} {t : FieldType} {rest : List Value} (hret : meth.sig.returnType = some t) (ht : t.isReference = true) (hw : w.isRef = true)
    (hd : decode c.code pc = .ok (.areturn, 1)) (eT : T.heap = h) (q : Q (some w) h locs) (hk : cells ≤ K) (hn : slots ≤ N) : OwnGo p e below s Q K N (T.setTop (mkF m pc Ls (w :: rest))) :=
  own_end X hlk (fun h => by rw [hret] at h; cases h) eT q hk hn fun fs hr => retOut X hx hret (by rcases ref_cases hw with rfl | ⟨a, rfl⟩ <;> cases t <;> rfl) (Or.inr (Or.inr (Or.inr (Or.inr ⟨rfl, ht, hw⟩)))) hd hr
theorem own_retV (X : Stand p l e R s m args below meth c T locs cells slots) (hx : p.tables.exec = Jvm.exec) (hlk : meth.locks = false) {pc : Nat} {Ls : Array Slot} (hret : meth.sig.returnType = none)
    (hd : decode c.code pc = .ok (.return_, 1)) (eT : T.heap = h) (q : Q none h locs) (hk : cells ≤ K) (hn : slots ≤ N) : OwnGo p e below s Q K N (T.setTop (mkF m pc Ls [])) :=
  own_end X hlk (fun _ => rfl) eT q hk hn fun fs hr => X.returnOut hx hret hd hr
end OwnKit

theorem w0 {a0 : Array Value} {Z : State} (hw : ∀ d ∈ tables_1, d.before a0 Z = true) : ((Jvm.Cond.classLink "com/example/kembar/kembar/MatchEqualsPinLaw" (7 : Nat) "com/example/kembar/kembar/FingerprintIndex$Match") : Jvm.Cond).before a0 Z = true := hw _ (List.mem_of_getElem? (i := 0) rfl)
theorem w1 {a0 : Array Value} {Z : State} (hw : ∀ d ∈ tables_1, d.before a0 Z = true) : ((Jvm.Cond.instantiable "com/example/kembar/kembar/FingerprintIndex$Match" (2 : Nat)) : Jvm.Cond).before a0 Z = true := hw _ (List.mem_of_getElem? (i := 1) rfl)
theorem w2 {a0 : Array Value} {Z : State} (hw : ∀ d ∈ tables_1, d.before a0 Z = true) : ((Jvm.Cond.initialized "com/example/kembar/kembar/FingerprintIndex$Match") : Jvm.Cond).before a0 Z = true := hw _ (List.mem_of_getElem? (i := 2) rfl)
theorem w3 {a0 : Array Value} {Z : State} (hw : ∀ d ∈ tables_1, d.before a0 Z = true) : ((Jvm.Cond.methodLink "com/example/kembar/kembar/MatchEqualsPinLaw" (9 : Nat) ({ cls := "com/example/kembar/kembar/FingerprintIndex$Match", name := "<init>", desc := "(II)V" } : Jvm.MethodName)) : Jvm.Cond).before a0 Z = true := hw _ (List.mem_of_getElem? (i := 3) rfl)
theorem w4 {a0 : Array Value} {Z : State} (hw : ∀ d ∈ tables_1, d.before a0 Z = true) : ((Jvm.Cond.instanceMethod ({ cls := "com/example/kembar/kembar/FingerprintIndex$Match", name := "<init>", desc := "(II)V" } : Jvm.MethodName)) : Jvm.Cond).before a0 Z = true := hw _ (List.mem_of_getElem? (i := 4) rfl)
theorem w5 {a0 : Array Value} {Z : State} (hw : ∀ d ∈ tables_1, d.before a0 Z = true) : ((Jvm.Cond.code ({ cls := "com/example/kembar/kembar/FingerprintIndex$Match", name := "<init>", desc := "(II)V" } : Jvm.MethodName) prog_7_method_1_code (3 : Nat) (Option.none : Option Jvm.ClassFile.FieldType)) : Jvm.Cond).before a0 Z = true := hw _ (List.mem_of_getElem? (i := 5) rfl)
theorem w6 {a0 : Array Value} {Z : State} (hw : ∀ d ∈ tables_1, d.before a0 Z = true) : ((Jvm.Cond.methodLink "com/example/kembar/kembar/FingerprintIndex$Match" (1 : Nat) ({ cls := "java/lang/Object", name := "<init>", desc := "()V" } : Jvm.MethodName)) : Jvm.Cond).before a0 Z = true := hw _ (List.mem_of_getElem? (i := 6) rfl)
theorem w7 {a0 : Array Value} {Z : State} (hw : ∀ d ∈ tables_1, d.before a0 Z = true) : ((Jvm.Cond.instanceMethod ({ cls := "java/lang/Object", name := "<init>", desc := "()V" } : Jvm.MethodName)) : Jvm.Cond).before a0 Z = true := hw _ (List.mem_of_getElem? (i := 7) rfl)
theorem w8 {a0 : Array Value} {Z : State} (hw : ∀ d ∈ tables_1, d.before a0 Z = true) : ((Jvm.Cond.code ({ cls := "java/lang/Object", name := "<init>", desc := "()V" } : Jvm.MethodName) object_method_1_code (1 : Nat) (Option.none : Option Jvm.ClassFile.FieldType)) : Jvm.Cond).before a0 Z = true := hw _ (List.mem_of_getElem? (i := 8) rfl)
theorem w9 {a0 : Array Value} {Z : State} (hw : ∀ d ∈ tables_1, d.before a0 Z = true) : ((Jvm.Cond.fieldLink "com/example/kembar/kembar/FingerprintIndex$Match" (7 : Nat) "com/example/kembar/kembar/FingerprintIndex$Match" "number" "I") : Jvm.Cond).before a0 Z = true := hw _ (List.mem_of_getElem? (i := 9) rfl)
theorem w10 {a0 : Array Value} {Z : State} (hw : ∀ d ∈ tables_1, d.before a0 Z = true) : ((Jvm.Cond.laysFinal "com/example/kembar/kembar/FingerprintIndex$Match" "com/example/kembar/kembar/FingerprintIndex$Match" "number" "I") : Jvm.Cond).before a0 Z = true := hw _ (List.mem_of_getElem? (i := 10) rfl)
theorem w11 {a0 : Array Value} {Z : State} (hw : ∀ d ∈ tables_1, d.before a0 Z = true) : ((Jvm.Cond.fieldLink "com/example/kembar/kembar/FingerprintIndex$Match" (13 : Nat) "com/example/kembar/kembar/FingerprintIndex$Match" "distance" "I") : Jvm.Cond).before a0 Z = true := hw _ (List.mem_of_getElem? (i := 11) rfl)
theorem w12 {a0 : Array Value} {Z : State} (hw : ∀ d ∈ tables_1, d.before a0 Z = true) : ((Jvm.Cond.laysFinal "com/example/kembar/kembar/FingerprintIndex$Match" "com/example/kembar/kembar/FingerprintIndex$Match" "distance" "I") : Jvm.Cond).before a0 Z = true := hw _ (List.mem_of_getElem? (i := 12) rfl)
theorem w13 {a0 : Array Value} {Z : State} (hw : ∀ d ∈ tables_1, d.before a0 Z = true) : ((Jvm.Cond.methodLink "com/example/kembar/kembar/MatchEqualsPinLaw" (18 : Nat) ({ cls := "com/example/kembar/kembar/FingerprintIndex$Match", name := "equals", desc := "(Ljava/lang/Object;)Z" } : Jvm.MethodName)) : Jvm.Cond).before a0 Z = true := hw _ (List.mem_of_getElem? (i := 13) rfl)
theorem w14 {a0 : Array Value} {Z : State} (hw : ∀ d ∈ tables_1, d.before a0 Z = true) : ((Jvm.Cond.declares ({ cls := "com/example/kembar/kembar/FingerprintIndex$Match", name := "equals", desc := "(Ljava/lang/Object;)Z" } : Jvm.MethodName)) : Jvm.Cond).before a0 Z = true := hw _ (List.mem_of_getElem? (i := 14) rfl)
theorem w15 {a0 : Array Value} {Z : State} (hw : ∀ d ∈ tables_1, d.before a0 Z = true) : ((Jvm.Cond.instanceMethod ({ cls := "com/example/kembar/kembar/FingerprintIndex$Match", name := "equals", desc := "(Ljava/lang/Object;)Z" } : Jvm.MethodName)) : Jvm.Cond).before a0 Z = true := hw _ (List.mem_of_getElem? (i := 15) rfl)
theorem w16 {a0 : Array Value} {Z : State} (hw : ∀ d ∈ tables_1, d.before a0 Z = true) : ((Jvm.Cond.selects "com/example/kembar/kembar/FingerprintIndex$Match" ({ cls := "com/example/kembar/kembar/FingerprintIndex$Match", name := "equals", desc := "(Ljava/lang/Object;)Z" } : Jvm.MethodName) ({ cls := "com/example/kembar/kembar/FingerprintIndex$Match", name := "equals", desc := "(Ljava/lang/Object;)Z" } : Jvm.MethodName)) : Jvm.Cond).before a0 Z = true := hw _ (List.mem_of_getElem? (i := 16) rfl)
theorem w17 {a0 : Array Value} {Z : State} (hw : ∀ d ∈ tables_1, d.before a0 Z = true) : ((Jvm.Cond.code ({ cls := "com/example/kembar/kembar/FingerprintIndex$Match", name := "equals", desc := "(Ljava/lang/Object;)Z" } : Jvm.MethodName) prog_7_method_4_code (2 : Nat) (Option.some Jvm.ClassFile.FieldType.boolean)) : Jvm.Cond).before a0 Z = true := hw _ (List.mem_of_getElem? (i := 17) rfl)
theorem w18 {a0 : Array Value} {Z : State} (hw : ∀ d ∈ tables_1, d.before a0 Z = true) : ((Jvm.Cond.classLink "com/example/kembar/kembar/FingerprintIndex$Match" (8 : Nat) "com/example/kembar/kembar/FingerprintIndex$Match") : Jvm.Cond).before a0 Z = true := hw _ (List.mem_of_getElem? (i := 18) rfl)
theorem w20 {a0 : Array Value} {Z : State} (hw : ∀ d ∈ tables_1, d.before a0 Z = true) : ((Jvm.Cond.methodLink "com/example/kembar/kembar/MatchEqualsPinLaw" (12 : Nat) ({ cls := "java/lang/Integer", name := "valueOf", desc := "(I)Ljava/lang/Integer;" } : Jvm.MethodName)) : Jvm.Cond).before a0 Z = true := hw _ (List.mem_of_getElem? (i := 20) rfl)
theorem w21 {a0 : Array Value} {Z : State} (hw : ∀ d ∈ tables_1, d.before a0 Z = true) : ((Jvm.Cond.static ({ cls := "java/lang/Integer", name := "valueOf", desc := "(I)Ljava/lang/Integer;" } : Jvm.MethodName)) : Jvm.Cond).before a0 Z = true := hw _ (List.mem_of_getElem? (i := 21) rfl)
theorem w22 {a0 : Array Value} {Z : State} (hw : ∀ d ∈ tables_1, d.before a0 Z = true) : ((Jvm.Cond.initialized "java/lang/Integer") : Jvm.Cond).before a0 Z = true := hw _ (List.mem_of_getElem? (i := 22) rfl)
theorem w23 {a0 : Array Value} {Z : State} (hw : ∀ d ∈ tables_1, d.before a0 Z = true) : ((Jvm.Cond.code ({ cls := "java/lang/Integer", name := "valueOf", desc := "(I)Ljava/lang/Integer;" } : Jvm.MethodName) jdk_33_method_22_code (1 : Nat) (Option.some (Jvm.ClassFile.FieldType.object "java/lang/Integer"))) : Jvm.Cond).before a0 Z = true := hw _ (List.mem_of_getElem? (i := 23) rfl)
theorem w24 {a0 : Array Value} {Z : State} (hw : ∀ d ∈ tables_1, d.before a0 Z = true) : ((Jvm.Cond.fieldLink "java/lang/Integer" (191 : Nat) "java/lang/Integer$IntegerCache" "high" "I") : Jvm.Cond).before a0 Z = true := hw _ (List.mem_of_getElem? (i := 24) rfl)
theorem w25 {a0 : Array Value} {Z : State} (hw : ∀ d ∈ tables_1, d.before a0 Z = true) : ((Jvm.Cond.initialized "java/lang/Integer$IntegerCache") : Jvm.Cond).before a0 Z = true := hw _ (List.mem_of_getElem? (i := 25) rfl)
theorem w26 {a0 : Array Value} {Z : State} (hw : ∀ d ∈ tables_1, d.before a0 Z = true) : ((Jvm.Cond.classLink "java/lang/Integer" (1 : Nat) "java/lang/Integer") : Jvm.Cond).before a0 Z = true := hw _ (List.mem_of_getElem? (i := 26) rfl)
theorem w27 {a0 : Array Value} {Z : State} (hw : ∀ d ∈ tables_1, d.before a0 Z = true) : ((Jvm.Cond.instantiable "java/lang/Integer" (1 : Nat)) : Jvm.Cond).before a0 Z = true := hw _ (List.mem_of_getElem? (i := 27) rfl)
theorem w28 {a0 : Array Value} {Z : State} (hw : ∀ d ∈ tables_1, d.before a0 Z = true) : ((Jvm.Cond.methodLink "java/lang/Integer" (199 : Nat) ({ cls := "java/lang/Integer", name := "<init>", desc := "(I)V" } : Jvm.MethodName)) : Jvm.Cond).before a0 Z = true := hw _ (List.mem_of_getElem? (i := 28) rfl)
theorem w29 {a0 : Array Value} {Z : State} (hw : ∀ d ∈ tables_1, d.before a0 Z = true) : ((Jvm.Cond.instanceMethod ({ cls := "java/lang/Integer", name := "<init>", desc := "(I)V" } : Jvm.MethodName)) : Jvm.Cond).before a0 Z = true := hw _ (List.mem_of_getElem? (i := 29) rfl)
theorem w31 {a0 : Array Value} {Z : State} (hw : ∀ d ∈ tables_1, d.before a0 Z = true) : ((Jvm.Cond.code ({ cls := "java/lang/Integer", name := "<init>", desc := "(I)V" } : Jvm.MethodName) jdk_33_method_23_code (2 : Nat) (Option.none : Option Jvm.ClassFile.FieldType)) : Jvm.Cond).before a0 Z = true := hw _ (List.mem_of_getElem? (i := 31) rfl)
theorem w32 {a0 : Array Value} {Z : State} (hw : ∀ d ∈ tables_1, d.before a0 Z = true) : ((Jvm.Cond.methodLink "java/lang/Integer" (202 : Nat) ({ cls := "java/lang/Number", name := "<init>", desc := "()V" } : Jvm.MethodName)) : Jvm.Cond).before a0 Z = true := hw _ (List.mem_of_getElem? (i := 32) rfl)
theorem w33 {a0 : Array Value} {Z : State} (hw : ∀ d ∈ tables_1, d.before a0 Z = true) : ((Jvm.Cond.instanceMethod ({ cls := "java/lang/Number", name := "<init>", desc := "()V" } : Jvm.MethodName)) : Jvm.Cond).before a0 Z = true := hw _ (List.mem_of_getElem? (i := 33) rfl)
theorem w36 {a0 : Array Value} {Z : State} (hw : ∀ d ∈ tables_1, d.before a0 Z = true) : ((Jvm.Cond.initialized "java/lang/Number") : Jvm.Cond).before a0 Z = true := hw _ (List.mem_of_getElem? (i := 36) rfl)
theorem w37 {a0 : Array Value} {Z : State} (hw : ∀ d ∈ tables_1, d.before a0 Z = true) : ((Jvm.Cond.code ({ cls := "java/lang/Number", name := "<init>", desc := "()V" } : Jvm.MethodName) jdk_18_method_1_code (1 : Nat) (Option.none : Option Jvm.ClassFile.FieldType)) : Jvm.Cond).before a0 Z = true := hw _ (List.mem_of_getElem? (i := 37) rfl)
theorem w38 {a0 : Array Value} {Z : State} (hw : ∀ d ∈ tables_1, d.before a0 Z = true) : ((Jvm.Cond.methodLink "java/lang/Number" (1 : Nat) ({ cls := "java/lang/Object", name := "<init>", desc := "()V" } : Jvm.MethodName)) : Jvm.Cond).before a0 Z = true := hw _ (List.mem_of_getElem? (i := 38) rfl)
theorem w39 {a0 : Array Value} {Z : State} (hw : ∀ d ∈ tables_1, d.before a0 Z = true) : ((Jvm.Cond.fieldLink "java/lang/Integer" (205 : Nat) "java/lang/Integer" "value" "I") : Jvm.Cond).before a0 Z = true := hw _ (List.mem_of_getElem? (i := 39) rfl)
theorem w40 {a0 : Array Value} {Z : State} (hw : ∀ d ∈ tables_1, d.before a0 Z = true) : ((Jvm.Cond.laysFinal "java/lang/Integer" "java/lang/Integer" "value" "I") : Jvm.Cond).before a0 Z = true := hw _ (List.mem_of_getElem? (i := 40) rfl)
theorem w41 {a0 : Array Value} {Z : State} (hw : ∀ d ∈ tables_1, d.before a0 Z = true) : ((Jvm.Cond.superclass "java/lang/Integer" "java/lang/Number") : Jvm.Cond).before a0 Z = true := hw _ (List.mem_of_getElem? (i := 41) rfl)
theorem w42 {a0 : Array Value} {Z : State} (hw : ∀ d ∈ tables_1, d.before a0 Z = true) : ((Jvm.Cond.superclass "java/lang/Number" "java/lang/Object") : Jvm.Cond).before a0 Z = true := hw _ (List.mem_of_getElem? (i := 42) rfl)
theorem w43 {a0 : Array Value} {Z : State} (hw : ∀ d ∈ tables_1, d.before a0 Z = true) : ((Jvm.Cond.noSuperclass "java/lang/Object") : Jvm.Cond).before a0 Z = true := hw _ (List.mem_of_getElem? (i := 43) rfl)
theorem w44 {a0 : Array Value} {Z : State} (hw : ∀ d ∈ tables_1, d.before a0 Z = true) : ((Jvm.Cond.fieldLink "java/lang/Integer" (195 : Nat) "java/lang/Integer$IntegerCache" "cache" "[Ljava/lang/Integer;") : Jvm.Cond).before a0 Z = true := hw _ (List.mem_of_getElem? (i := 44) rfl)
def own_me (n d n' d' : Int32) : Int32 := if n' = n then (if d' = d then 1 else 0) else 0
def OwnCache (Z : State) (ca : Addr) : Prop := ∃ cl : Cell, Arr Z Z.heap ca cl (.object "java/lang/Integer") ∧ cl.slots.size = 256 ∧ ∀ j, j < 256 → ∃ r, cl.slots[j]? = some (.ref r) ∧ Exa Z Z.heap r "java/lang/Integer"
theorem own_cj (k : Int32) (h1 : ¬ k < -128) (h2 : ¬ 127 < k) : (k + 128).toNatClampNeg < 256 ∧ ¬ ((k + 128) < 0 ∨ 256 ≤ (k + 128).toNatClampNeg) :=
  ⟨(Jvm.Free.IntBox.place_ok k h1 h2).2, (Jvm.Free.IntBox.place_ok k h1 h2).1⟩
theorem own_ns_root {Z : State} {a0 : Array Value} {O K : String} {n : Nat} (w : (Cond.noSuperclass O).before a0 Z = true) (wk : (Cond.instantiable K n).before a0 Z = true) (hn : O ≠ K) : NS Z O K := by
  obtain ⟨c, k, h1, h2, h3, -, -⟩ := Cond.noSuperclass_spec w
  obtain ⟨t, kt, g1, -⟩ := Cond.instantiable_spec wk
  refine ⟨c, t, h1, g1, fun fuel => ?_⟩
  cases fuel with
  | zero => rfl
  | succ f => simp [Vm.isSubclassAux, ids_ne h1 g1 hn, h2, h3]
theorem own_no {Z : State} {a0 : Array Value} {C S K : String} {n : Nat} (w : (Cond.superclass C S).before a0 Z = true) (wk : (Cond.instantiable K n).before a0 Z = true) (q : NS Z C K) (hn : C ≠ K) : ∃ c t, Z.vm.findClass C = some c ∧ Z.vm.findClass K = some t ∧ Z.vm.assignable c t = false := by
  obtain ⟨c, t, h0, g0, n3⟩ := q
  obtain ⟨p, k, kp, h1, h2, h3, h4, h5, -, h7⟩ := Cond.superclass_spec h0 w
  obtain ⟨t', k', g1, g2, g5, g6, -⟩ := Cond.instantiable_spec wk
  cases g0.symm.trans g1
  have g7 : k'.isInterface = false := by simp only [Bool.or_eq_false_iff] at g6; exact g6.1
  refine ⟨c, t, h0, g0, ?_⟩
  show Z.vm.assignableAux (255 + 1) c t = false
  simp [Vm.assignableAux, ids_ne h0 g0 hn, h2, g2, h5, g5, g7, Vm.isSubclass, n3]
theorem own_cache {s : State} {args : Array Value} {ca : Addr} (hf : Fit s) (ev : (Term.static "java/lang/Integer$IntegerCache" "cache" "[Ljava/lang/Integer;").eval args s none [] s = some (.ref ca))
    (h4 : (Cond.arrayOf (Term.static "java/lang/Integer$IntegerCache" "cache" "[Ljava/lang/Integer;") (.object "java/lang/Integer")).before args s = true)
    (h6 : (Cond.eq (.length (Term.static "java/lang/Integer$IntegerCache" "cache" "[Ljava/lang/Integer;")) (.int 256)).before args s = true)
    (h7 : (Cond.all (Term.static "java/lang/Integer$IntegerCache" "cache" "[Ljava/lang/Integer;") (.and (.exactly (.elem (Term.static "java/lang/Integer$IntegerCache" "cache" "[Ljava/lang/Integer;") (.index 0)) "java/lang/Integer") (.eq (.field (.elem (Term.static "java/lang/Integer$IntegerCache" "cache" "[Ljava/lang/Integer;") (.index 0)) "java/lang/Integer" "value" "I") (.sub (.index 0) (.int 128))))).before args s = true) : OwnCache s ca := by
  obtain ⟨cl, A⟩ := Arr.start ev (Cond.before_iff.mp h4)
  have hA := A.fin (Vm.Alike.refl _)
  obtain ⟨q1, q2⟩ := Jvm.Free.IntBox.length_fwd h6 ev A.1 A.2.1 A.2.2
  have hsz : cl.slots.size = 256 := by
    have q3 := len_toInt q1
    rw [q2] at q3; have q4 : (256 : Int32).toInt = 256 := rfl
    omega
  refine ⟨cl, A, hsz, fun j hj => ?_⟩
  have h := Cond.all_elim ev hA (Cond.before_iff.mp h7) j (by omega)
  obtain ⟨h1, -⟩ := and_e h
  obtain ⟨x, c', cell, k, e1, e2, e3, e4, e5, e6, e7⟩ := Cond.exactly_spec (beq_iff_eq.mpr h1 : (Cond.exactly _ _).holds args s none s [j] = true)
  have ev' : (Term.static "java/lang/Integer$IntegerCache" "cache" "[Ljava/lang/Integer;").eval args s none [j] s = some (.ref ca) := ev
  have r := (elem_in e1 ev' (j := j.toInt32) (by simp [Term.eval]) A.1).2
  have e : j.toInt32.toNatClampNeg = j := by simp only [Int32.toNatClampNeg, len_toInt (show j < 2 ^ 31 by omega)]; rfl
  rw [e] at r; subst e6
  exact ⟨x, r, cell, k, e3, e2, e4, e5, e7⟩
theorem own_noM {Z : State} {a0 : Array Value} (hw : ∀ d ∈ tables_1, d.before a0 Z = true) : ∃ c t, Z.vm.findClass "java/lang/Integer" = some c ∧ Z.vm.findClass "com/example/kembar/kembar/FingerprintIndex$Match" = some t ∧ Z.vm.assignable c t = false :=
  own_no (w41 hw) (w1 hw) (NS.step (w41 hw) (NS.step (w42 hw) (own_ns_root (w43 hw) (w1 hw) (by decide)) (by decide)) (by decide)) (by decide)
theorem own_eqi {t : Term} {args : Array Value} {s : State} {n : Int32} (h : (Cond.eq t (.int n)).value args s none s [] = some true) : t.eval args s none [] s = some (.int n) := by
  simp only [Cond.value, Term.eval] at h
  cases ht : t.eval args s none [] s with
  | none => simp [ht] at h
  | some x => cases x <;> simp [ht] at h ⊢; exact h
theorem d1_0 : decode prog_7_method_1_code 0 = .ok (.aload_n 0, 1) := by decide +kernel
theorem d1_1 : decode prog_7_method_1_code 1 = .ok (.invokespecial 1, 3) := by decide +kernel
theorem d1_4 : decode prog_7_method_1_code 4 = .ok (.aload_n 0, 1) := by decide +kernel
theorem d1_5 : decode prog_7_method_1_code 5 = .ok (.iload_n 1, 1) := by decide +kernel
theorem d1_6 : decode prog_7_method_1_code 6 = .ok (.putfield 7, 3) := by decide +kernel
theorem d1_9 : decode prog_7_method_1_code 9 = .ok (.aload_n 0, 1) := by decide +kernel
theorem d1_10 : decode prog_7_method_1_code 10 = .ok (.iload_n 2, 1) := by decide +kernel
theorem d1_11 : decode prog_7_method_1_code 11 = .ok (.putfield 13, 3) := by decide +kernel
theorem d1_14 : decode prog_7_method_1_code 14 = .ok (.return_, 1) := by decide +kernel
theorem pn_0 : plainName "com/example/kembar/kembar/FingerprintIndex$Match" = true := by first | (simp [plainName, overriddenIn]; done) | decide +kernel
theorem d3_0 : decode prog_7_method_4_code 0 = .ok (.aload_n 1, 1) := by decide +kernel
theorem d3_1 : decode prog_7_method_4_code 1 = .ok (.instanceof 8, 3) := by decide +kernel
theorem d3_4 : decode prog_7_method_4_code 4 = .ok (.ifCond .eq 35, 3) := by decide +kernel
theorem d3_7 : decode prog_7_method_4_code 7 = .ok (.aload_n 1, 1) := by decide +kernel
theorem d3_8 : decode prog_7_method_4_code 8 = .ok (.checkcast 8, 3) := by decide +kernel
theorem d3_11 : decode prog_7_method_4_code 11 = .ok (.getfield 7, 3) := by decide +kernel
theorem d3_14 : decode prog_7_method_4_code 14 = .ok (.aload_n 0, 1) := by decide +kernel
theorem d3_15 : decode prog_7_method_4_code 15 = .ok (.getfield 7, 3) := by decide +kernel
theorem d3_18 : decode prog_7_method_4_code 18 = .ok (.if_icmp .ne 21, 3) := by decide +kernel
theorem d3_21 : decode prog_7_method_4_code 21 = .ok (.aload_n 1, 1) := by decide +kernel
theorem d3_22 : decode prog_7_method_4_code 22 = .ok (.checkcast 8, 3) := by decide +kernel
theorem d3_25 : decode prog_7_method_4_code 25 = .ok (.getfield 13, 3) := by decide +kernel
theorem d3_28 : decode prog_7_method_4_code 28 = .ok (.aload_n 0, 1) := by decide +kernel
theorem d3_29 : decode prog_7_method_4_code 29 = .ok (.getfield 13, 3) := by decide +kernel
theorem d3_32 : decode prog_7_method_4_code 32 = .ok (.if_icmp .ne 7, 3) := by decide +kernel
theorem d3_35 : decode prog_7_method_4_code 35 = .ok (.iconst 1, 1) := by decide +kernel
theorem d3_36 : decode prog_7_method_4_code 36 = .ok (.goto 4, 3) := by decide +kernel
theorem d3_40 : decode prog_7_method_4_code 40 = .ok (.ireturn, 1) := by decide +kernel
theorem d3_39 : decode prog_7_method_4_code 39 = .ok (.iconst 0, 1) := by decide +kernel
theorem d6_0 : decode jdk_18_method_1_code 0 = .ok (.aload_n 0, 1) := by decide +kernel
theorem d6_1 : decode jdk_18_method_1_code 1 = .ok (.invokespecial 1, 3) := by decide +kernel
theorem d6_4 : decode jdk_18_method_1_code 4 = .ok (.return_, 1) := by decide +kernel
theorem pn_1 : plainName "java/lang/Number" = true := by first | (simp [plainName, overriddenIn]; done) | decide +kernel
theorem d5_0 : decode jdk_33_method_23_code 0 = .ok (.aload_n 0, 1) := by decide +kernel
theorem d5_1 : decode jdk_33_method_23_code 1 = .ok (.invokespecial 202, 3) := by decide +kernel
theorem pd_0 : parseMethodDescriptor "()V" = some ⟨[], none⟩ := by decide +kernel
theorem d5_4 : decode jdk_33_method_23_code 4 = .ok (.aload_n 0, 1) := by decide +kernel
theorem d5_5 : decode jdk_33_method_23_code 5 = .ok (.iload_n 1, 1) := by decide +kernel
theorem d5_6 : decode jdk_33_method_23_code 6 = .ok (.putfield 205, 3) := by decide +kernel
theorem d5_9 : decode jdk_33_method_23_code 9 = .ok (.return_, 1) := by decide +kernel
theorem pn_2 : plainName "java/lang/Integer" = true := by first | (simp [plainName, overriddenIn]; done) | decide +kernel
theorem d4_0 : decode jdk_33_method_22_code 0 = .ok (.iload_n 0, 1) := by decide +kernel
theorem d4_1 : decode jdk_33_method_22_code 1 = .ok (.bipush (-128), 2) := by decide +kernel
theorem d4_3 : decode jdk_33_method_22_code 3 = .ok (.if_icmp .lt 20, 3) := by decide +kernel
theorem d4_23 : decode jdk_33_method_22_code 23 = .ok (.new 1, 3) := by decide +kernel
theorem d4_26 : decode jdk_33_method_22_code 26 = .ok (.dup, 1) := by decide +kernel
theorem d4_27 : decode jdk_33_method_22_code 27 = .ok (.iload_n 0, 1) := by decide +kernel
theorem d4_28 : decode jdk_33_method_22_code 28 = .ok (.invokespecial 199, 3) := by decide +kernel
theorem pd_1 : parseMethodDescriptor "(I)V" = some ⟨[.int], none⟩ := by decide +kernel
theorem d4_31 : decode jdk_33_method_22_code 31 = .ok (.areturn, 1) := by decide +kernel
theorem d4_6 : decode jdk_33_method_22_code 6 = .ok (.iload_n 0, 1) := by decide +kernel
theorem d4_7 : decode jdk_33_method_22_code 7 = .ok (.getstatic 191, 3) := by decide +kernel
theorem d4_10 : decode jdk_33_method_22_code 10 = .ok (.if_icmp .gt 13, 3) := by decide +kernel
theorem d4_13 : decode jdk_33_method_22_code 13 = .ok (.getstatic 195, 3) := by decide +kernel
theorem d4_16 : decode jdk_33_method_22_code 16 = .ok (.iload_n 0, 1) := by decide +kernel
theorem d4_17 : decode jdk_33_method_22_code 17 = .ok (.sipush 128, 3) := by decide +kernel
theorem d4_20 : decode jdk_33_method_22_code 20 = .ok (.iadd, 1) := by decide +kernel
theorem d4_21 : decode jdk_33_method_22_code 21 = .ok (.aaload, 1) := by decide +kernel
theorem d4_22 : decode jdk_33_method_22_code 22 = .ok (.areturn, 1) := by decide +kernel
theorem pd_2 : parseMethodDescriptor "(II)V" = some ⟨[.int, .int], none⟩ := by decide +kernel
theorem pd_3 : parseMethodDescriptor "(Ljava/lang/Object;)Z" = some ⟨[(.object "java/lang/Object")], some .boolean⟩ := by decide +kernel
theorem pd_4 : parseMethodDescriptor "(I)Ljava/lang/Integer;" = some ⟨[.int], some (.object "java/lang/Integer")⟩ := by decide +kernel
theorem pn_3 : plainName "com/example/kembar/kembar/MatchEqualsPinLaw" = true := by first | (simp [plainName, overriddenIn]; done) | decide +kernel
theorem ef_1 (m : MethodId) (a : Addr) (n : Int32) (d : Int32)  : entryFrame m #[(.ref a), (.int n), (.int d)] 3 = mkF m 0 #[.val (.ref a), .val (.int n), .val (.int d)] [] := by first | (simp [entryFrame, mkF, argsToLocals, Value.category]; done) | rfl
def Q1 (Z : State) (a : Addr) (n : Int32) (d : Int32) (u : Value) (u' : Value) (h0 : Heap) (n0 : Nat) (v_ : Option Value) (h_ : Heap) (L_ : List Loc) : Prop := v_ = none ∧ Fr n0 L_ ∧ Keep h0 h_ [a] ∧ (Exa Z h_ a "com/example/kembar/kembar/FingerprintIndex$Match") ∧ (Fld Z h_ a "com/example/kembar/kembar/FingerprintIndex$Match" "number" "I" (.int n)) ∧ (Fld Z h_ a "com/example/kembar/kembar/FingerprintIndex$Match" "distance" "I" (.int d))
set_option maxRecDepth 65536 in
set_option maxHeartbeats 40000000 in
theorem rm1 (l : Launch) (Z : State) (a0 : Array Value) (hw : ∀ d ∈ tables_1, d.before a0 Z = true) (ws : List Jvm.Cond) (a : Addr) (n : Int32) (d : Int32) (u : Value) (u' : Value) (h0 : Heap) (n0 : Nat) (Z0 : n0 ≤ h0.size) (P0 : Exa Z h0 a "com/example/kembar/kembar/FingerprintIndex$Match") (P1 : Fld Z h0 a "com/example/kembar/kembar/FingerprintIndex$Match" "number" "I" u) (P2 : Fld Z h0 a "com/example/kembar/kembar/FingerprintIndex$Match" "distance" "I" u') (P3 : n0 ≤ a) :
    MetFree l (⟨"com/example/kembar/kembar/FingerprintIndex$Match", "<init>", "(II)V"⟩ : MethodName) (head1 (Jvm.Cond.code (⟨"com/example/kembar/kembar/FingerprintIndex$Match", "<init>", "(II)V"⟩ : MethodName) prog_7_method_1_code 3 none :: ws) ({ frames := 1, cells := 0, slots := 0, locals := 12 } : Room)) (fun A_ U => A_ = #[(.ref a), (.int n), (.int d)] ∧ Z.Warmed39 U.vm ∧ U.heap = h0) (fun _ _ _ _ _ => True) (fun _ U_ o_ U'_ => ∃ v_ L_, o_ = .returned v_ ∧ Q1 Z a n d u u' h0 n0 v_ U'_.heap L_ ∧ FrameEnd U_ o_ U'_ L_ ({ frames := 1, cells := 0, slots := 0, locals := 12 } : Room).cells ({ frames := 1, cells := 0, slots := 0, locals := 12 } : Room).slots) := by
  refine MetFree.of_bodySF (plainFor_of_name pn_0) hisR ?_
  intro p e s m args below meth c s₁ Bd hml0 hP hK
  obtain ⟨rfl, hZ, hh⟩ := hP
  have hx := Bd.exec
  have hby := Bd.bytes
  have hml : c.maxLocals = 3 := hml0
  have hown : s.vm.findClass "com/example/kembar/kembar/FingerprintIndex$Match" = some m.cls := findClass_of_methodNamed Bd.named
  have hnm := (name_of_methodNamed Bd.named Bd.method).1
  have hlk : meth.locks = false := Bd.notSynchronized
  have X0 : Stand p l e ({ frames := 1, cells := 0, slots := 0, locals := 12 } : Room) s m #[(.ref a), (.int n), (.int d)] below meth c s₁ [] 0 0 := Stand.of_body Bd
  have e0 : s₁.heap = h0 := by rw [← hh, Bd.state]; rfl
  have N0 := Fr.nil n0
  have K0 : Keep h0 h0 [a] := Keep.refl _ _
  refine own_cast (ef_1 m a n d) ?_
  show OwnGo p e below s (Q1 Z a n d u u' h0 n0) ({ frames := 1, cells := 0, slots := 0, locals := 12 } : Room).cells ({ frames := 1, cells := 0, slots := 0, locals := 12 } : Room).slots (s₁.setTop (mkF m 0 #[.val (.ref a), .val (.int n), .val (.int d)] []))
  refine own_on (fun t k => XS.aloadN X0.here hx rfl (hb hby d1_0) rfl rfl k) ?_
  show OwnGo p e below s _ _ _ (s₁.setTop (mkF m 1 #[.val (.ref a), .val (.int n), .val (.int d)] [(.ref a)]))
  obtain ⟨T1, X1, e1, st1⟩ := initO X0 hx hZ hown (w6 hw) (w7 hw) (w8 hw) e0 (g := (mkF m 1 #[.val (.ref a), .val (.int n), .val (.int d)] [(.ref a)])) rfl (by rw [hml]; rfl) rfl (hb hby d1_1) (by decide) (W := 0) (by show 2 * 0 + _ ≤ _; exact Nat.le_of_eq rfl) (by decide)
  refine own_on st1 ?_
  show OwnGo p e below s _ _ _ (T1.setTop (mkF m 4 #[.val (.ref a), .val (.int n), .val (.int d)] []))
  refine own_on (fun t k => XS.aloadN X1.here hx rfl (hb hby d1_4) rfl rfl k) ?_
  show OwnGo p e below s _ _ _ (T1.setTop (mkF m 5 #[.val (.ref a), .val (.int n), .val (.int d)] [(.ref a)]))
  refine own_on (fun t k => XS.iloadN X1.here hx rfl (hb hby d1_5) rfl k) ?_
  show OwnGo p e below s _ _ _ (T1.setTop (mkF m 6 #[.val (.ref a), .val (.int n), .val (.int d)] [(.int n), (.ref a)]))
  obtain ⟨T2, h2, X2, e2, W2, st2⟩ := putF X1 hx hZ hown (host := "") (Or.inl (w9 hw)) Via.refl e1 P1 P0 (Or.inr ⟨(w10 hw), rfl, hnm⟩) (w1 hw) (ty := .int) (by decide) rfl rfl (g := (mkF m 6 #[.val (.ref a), .val (.int n), .val (.int d)] [(.int n), (.ref a)])) rfl rfl (hb hby d1_6)
  have F2 := P1.same W2
  have N2 := Fr.snoc X2 N0 P3
  have Z2 : n0 ≤ h2.size := Nat.le_trans Z0 (Keep.of_wr W2).1
  have K2 : Keep h0 h2 [a] := K0.wr W2 (Or.inl (List.mem_of_getElem? (i := 0) rfl))
  refine own_on st2 ?_
  show OwnGo p e below s _ _ _ (T2.setTop (mkF m 9 #[.val (.ref a), .val (.int n), .val (.int d)] []))
  refine own_on (fun t k => XS.aloadN X2.here hx rfl (hb hby d1_9) rfl rfl k) ?_
  show OwnGo p e below s _ _ _ (T2.setTop (mkF m 10 #[.val (.ref a), .val (.int n), .val (.int d)] [(.ref a)]))
  refine own_on (fun t k => XS.iloadN X2.here hx rfl (hb hby d1_10) rfl k) ?_
  show OwnGo p e below s _ _ _ (T2.setTop (mkF m 11 #[.val (.ref a), .val (.int n), .val (.int d)] [(.int d), (.ref a)]))
  have f3 : Fld Z h2 a "com/example/kembar/kembar/FingerprintIndex$Match" "distance" "I" u' := P2.other W2 (Or.inr (slot_ne (Or.inr (w12 hw)) (Or.inr (w10 hw)) (by decide) (t := .int) (t' := .int) (by decide) (by decide)))
  have f4 : Exa Z h2 a "com/example/kembar/kembar/FingerprintIndex$Match" := P0.wr W2
  obtain ⟨T5, h5, X5, e5, W5, st5⟩ := putF X2 hx hZ hown (host := "") (Or.inl (w11 hw)) Via.refl e2 f3 f4 (Or.inr ⟨(w12 hw), rfl, hnm⟩) (w1 hw) (ty := .int) (by decide) rfl rfl (g := (mkF m 11 #[.val (.ref a), .val (.int n), .val (.int d)] [(.int d), (.ref a)])) rfl rfl (hb hby d1_11)
  have F5 := f3.same W5
  have N5 := Fr.snoc X5 N2 P3
  have Z5 : n0 ≤ h5.size := Nat.le_trans Z2 (Keep.of_wr W5).1
  have K5 : Keep h0 h5 [a] := K2.wr W5 (Or.inl (List.mem_of_getElem? (i := 0) rfl))
  refine own_on st5 ?_
  show OwnGo p e below s _ _ _ (T5.setTop (mkF m 14 #[.val (.ref a), .val (.int n), .val (.int d)] []))
  have f6 : Exa Z h5 a "com/example/kembar/kembar/FingerprintIndex$Match" := f4.wr W5
  have f7 : Fld Z h5 a "com/example/kembar/kembar/FingerprintIndex$Match" "number" "I" (.int n) := F2.other W5 (Or.inr (slot_ne (Or.inr (w10 hw)) (Or.inr (w12 hw)) (by decide) (t := .int) (t' := .int) (by decide) (by decide)))
  exact own_retV X5 hx hlk Bd.returns (hb hby d1_14) e5 ⟨rfl, N5, K5, f6, f7, F5⟩ (by decide) (by decide)
theorem ef_eqM (m : MethodId) (a : Addr) (b : Addr)  : entryFrame m #[(.ref a), (.ref b)] 2 = mkF m 0 #[.val (.ref a), .val (.ref b)] [] := by first | (simp [entryFrame, mkF, argsToLocals, Value.category]; done) | rfl
def QeqM (Z : State) (a : Addr) (b : Addr) (n : Int32) (d : Int32) (n' : Int32) (d' : Int32) (h0 : Heap) (n0 : Nat) (v_ : Option Value) (h_ : Heap) (L_ : List Loc) : Prop := v_ = some (.int (own_me n d n' d')) ∧ Fr n0 L_ ∧ h_ = h0
set_option maxRecDepth 65536 in
set_option maxHeartbeats 40000000 in
theorem rmeqM (l : Launch) (Z : State) (a0 : Array Value) (hw : ∀ d ∈ tables_1, d.before a0 Z = true) (ws : List Jvm.Cond) (a : Addr) (b : Addr) (n : Int32) (d : Int32) (n' : Int32) (d' : Int32) (h0 : Heap) (n0 : Nat) (Z0 : n0 ≤ h0.size) (P0 : Exa Z h0 a "com/example/kembar/kembar/FingerprintIndex$Match") (P1 : Exa Z h0 b "com/example/kembar/kembar/FingerprintIndex$Match") (P2 : Fld Z h0 a "com/example/kembar/kembar/FingerprintIndex$Match" "number" "I" (.int n)) (P3 : Fld Z h0 a "com/example/kembar/kembar/FingerprintIndex$Match" "distance" "I" (.int d)) (P4 : Fld Z h0 b "com/example/kembar/kembar/FingerprintIndex$Match" "number" "I" (.int n')) (P5 : Fld Z h0 b "com/example/kembar/kembar/FingerprintIndex$Match" "distance" "I" (.int d')) :
    MetFree l (⟨"com/example/kembar/kembar/FingerprintIndex$Match", "equals", "(Ljava/lang/Object;)Z"⟩ : MethodName) (head1 (Jvm.Cond.code (⟨"com/example/kembar/kembar/FingerprintIndex$Match", "equals", "(Ljava/lang/Object;)Z"⟩ : MethodName) prog_7_method_4_code 2 (some .boolean) :: ws) ({ frames := 0, cells := 0, slots := 0, locals := 0 } : Room)) (fun A_ U => A_ = #[(.ref a), (.ref b)] ∧ Z.Warmed39 U.vm ∧ U.heap = h0) (fun _ _ _ _ _ => True) (fun _ U_ o_ U'_ => ∃ v_ L_, o_ = .returned v_ ∧ QeqM Z a b n d n' d' h0 n0 v_ U'_.heap L_ ∧ FrameEnd U_ o_ U'_ L_ ({ frames := 0, cells := 0, slots := 0, locals := 0 } : Room).cells ({ frames := 0, cells := 0, slots := 0, locals := 0 } : Room).slots) := by
  refine MetFree.of_bodySF (plainFor_of_name pn_0) hisR ?_
  intro p e s m args below meth c s₁ Bd hml0 hP hK
  obtain ⟨rfl, hZ, hh⟩ := hP
  have hx := Bd.exec
  have hby := Bd.bytes
  have hml : c.maxLocals = 2 := hml0
  have hown : s.vm.findClass "com/example/kembar/kembar/FingerprintIndex$Match" = some m.cls := findClass_of_methodNamed Bd.named
  have hnm := (name_of_methodNamed Bd.named Bd.method).1
  have hlk : meth.locks = false := Bd.notSynchronized
  have X0 : Stand p l e ({ frames := 0, cells := 0, slots := 0, locals := 0 } : Room) s m #[(.ref a), (.ref b)] below meth c s₁ [] 0 0 := Stand.of_body Bd
  have e0 : s₁.heap = h0 := by rw [← hh, Bd.state]; rfl
  have N0 := Fr.nil n0
  have K0 : Keep h0 h0 [] := Keep.refl _ _
  refine own_cast (ef_eqM m a b) ?_
  show OwnGo p e below s (QeqM Z a b n d n' d' h0 n0) ({ frames := 0, cells := 0, slots := 0, locals := 0 } : Room).cells ({ frames := 0, cells := 0, slots := 0, locals := 0 } : Room).slots (s₁.setTop (mkF m 0 #[.val (.ref a), .val (.ref b)] []))
  refine own_on (fun t k => XS.aloadN X0.here hx rfl (hb hby d3_0) rfl rfl k) ?_
  show OwnGo p e below s _ _ _ (s₁.setTop (mkF m 1 #[.val (.ref a), .val (.ref b)] [(.ref b)]))
  obtain ⟨T1, X1, e1, st1⟩ := instY X0 hx hZ hown (w18 hw) e0 (Ins.self P1) (g := (mkF m 1 #[.val (.ref a), .val (.ref b)] [(.ref b)])) rfl rfl (hb hby d3_1)
  refine own_on st1 ?_
  show OwnGo p e below s _ _ _ (T1.setTop (mkF m 4 #[.val (.ref a), .val (.ref b)] [(.int (1 : Int32))]))
  refine own_on (fun t k => XS.ifNo X1.here hx rfl (hb hby d3_4) rfl ((if0 _ _).trans (feq (by decide : ¬ ((1 : Int32) = (0 : Int32)))).1) k) ?_
  show OwnGo p e below s _ _ _ (T1.setTop (mkF m 7 #[.val (.ref a), .val (.ref b)] []))
  refine own_on (fun t k => XS.aloadN X1.here hx rfl (hb hby d3_7) rfl rfl k) ?_
  show OwnGo p e below s _ _ _ (T1.setTop (mkF m 8 #[.val (.ref a), .val (.ref b)] [(.ref b)]))
  obtain ⟨T2, X2, e2, st2⟩ := castY X1 hx hZ hown (w18 hw) e1 (Ins.self P1) (g := (mkF m 8 #[.val (.ref a), .val (.ref b)] [(.ref b)])) rfl rfl (hb hby d3_8)
  refine own_on st2 ?_
  show OwnGo p e below s _ _ _ (T2.setTop (mkF m 11 #[.val (.ref a), .val (.ref b)] [(.ref b)]))
  obtain ⟨T3, X3, e3, st3⟩ := getF X2 hx hZ hown (host := "") (Or.inl (w9 hw)) Via.refl e2 P4 (g := (mkF m 11 #[.val (.ref a), .val (.ref b)] [(.ref b)])) rfl rfl (hb hby d3_11)
  refine own_on st3 ?_
  show OwnGo p e below s _ _ _ (T3.setTop (mkF m 14 #[.val (.ref a), .val (.ref b)] [(.int n')]))
  refine own_on (fun t k => XS.aloadN X3.here hx rfl (hb hby d3_14) rfl rfl k) ?_
  show OwnGo p e below s _ _ _ (T3.setTop (mkF m 15 #[.val (.ref a), .val (.ref b)] [(.ref a), (.int n')]))
  obtain ⟨T4, X4, e4, st4⟩ := getF X3 hx hZ hown (host := "") (Or.inl (w9 hw)) Via.refl e3 P2 (g := (mkF m 15 #[.val (.ref a), .val (.ref b)] [(.ref a), (.int n')])) rfl rfl (hb hby d3_15)
  refine own_on st4 ?_
  show OwnGo p e below s _ _ _ (T4.setTop (mkF m 18 #[.val (.ref a), .val (.ref b)] [(.int n), (.int n')]))
  by_cases q0 : n' = n
  · refine own_on (fun t k => XS.icmpNo X4.here hx rfl (hb hby d3_18) rfl (teq q0).2 k) ?_
    show OwnGo p e below s _ _ _ (T4.setTop (mkF m 21 #[.val (.ref a), .val (.ref b)] []))
    refine own_on (fun t k => XS.aloadN X4.here hx rfl (hb hby d3_21) rfl rfl k) ?_
    show OwnGo p e below s _ _ _ (T4.setTop (mkF m 22 #[.val (.ref a), .val (.ref b)] [(.ref b)]))
    obtain ⟨T5, X5, e5, st5⟩ := castY X4 hx hZ hown (w18 hw) e4 (Ins.self P1) (g := (mkF m 22 #[.val (.ref a), .val (.ref b)] [(.ref b)])) rfl rfl (hb hby d3_22)
    refine own_on st5 ?_
    show OwnGo p e below s _ _ _ (T5.setTop (mkF m 25 #[.val (.ref a), .val (.ref b)] [(.ref b)]))
    obtain ⟨T6, X6, e6, st6⟩ := getF X5 hx hZ hown (host := "") (Or.inl (w11 hw)) Via.refl e5 P5 (g := (mkF m 25 #[.val (.ref a), .val (.ref b)] [(.ref b)])) rfl rfl (hb hby d3_25)
    refine own_on st6 ?_
    show OwnGo p e below s _ _ _ (T6.setTop (mkF m 28 #[.val (.ref a), .val (.ref b)] [(.int d')]))
    refine own_on (fun t k => XS.aloadN X6.here hx rfl (hb hby d3_28) rfl rfl k) ?_
    show OwnGo p e below s _ _ _ (T6.setTop (mkF m 29 #[.val (.ref a), .val (.ref b)] [(.ref a), (.int d')]))
    obtain ⟨T7, X7, e7, st7⟩ := getF X6 hx hZ hown (host := "") (Or.inl (w11 hw)) Via.refl e6 P3 (g := (mkF m 29 #[.val (.ref a), .val (.ref b)] [(.ref a), (.int d')])) rfl rfl (hb hby d3_29)
    refine own_on st7 ?_
    show OwnGo p e below s _ _ _ (T7.setTop (mkF m 32 #[.val (.ref a), .val (.ref b)] [(.int d), (.int d')]))
    by_cases q1 : d' = d
    · refine own_on (fun t k => XS.icmpNo X7.here hx rfl (hb hby d3_32) rfl (teq q1).2 k) ?_
      show OwnGo p e below s _ _ _ (T7.setTop (mkF m 35 #[.val (.ref a), .val (.ref b)] []))
      refine own_on (fun t k => XS.iconst X7.here hx rfl (hb hby d3_35) k) ?_
      show OwnGo p e below s _ _ _ (T7.setTop (mkF m 36 #[.val (.ref a), .val (.ref b)] [(.int (1 : Int32))]))
      refine own_on (fun t k => XS.goto X7.here hx rfl (pc0 := 36) (pc' := 40) rfl (hb hby d3_36) (by decide) (by decide) k) ?_
      show OwnGo p e below s _ _ _ (T7.setTop (mkF m 40 #[.val (.ref a), .val (.ref b)] [(.int (1 : Int32))]))
      exact own_retN X7 hx hlk (t := .boolean) Bd.returns (by simp) (hb hby d3_40) e7 ⟨(congrArg (fun z => some (Value.int z)) (by simp [own_me, nar, *])), N0, rfl⟩ (by decide) (by decide)
    · refine own_on (fun t k => XS.icmpYes X7.here hx rfl (pc0 := 32) (pc' := 39) rfl (hb hby d3_32) rfl (feq q1).2 (by decide) (by decide) k) ?_
      show OwnGo p e below s _ _ _ (T7.setTop (mkF m 39 #[.val (.ref a), .val (.ref b)] []))
      refine own_on (fun t k => XS.iconst X7.here hx rfl (hb hby d3_39) k) ?_
      show OwnGo p e below s _ _ _ (T7.setTop (mkF m 40 #[.val (.ref a), .val (.ref b)] [(.int (0 : Int32))]))
      exact own_retN X7 hx hlk (t := .boolean) Bd.returns (by simp) (hb hby d3_40) e7 ⟨(congrArg (fun z => some (Value.int z)) (by simp [own_me, nar, *])), N0, rfl⟩ (by decide) (by decide)
  · refine own_on (fun t k => XS.icmpYes X4.here hx rfl (pc0 := 18) (pc' := 39) rfl (hb hby d3_18) rfl (feq q0).2 (by decide) (by decide) k) ?_
    show OwnGo p e below s _ _ _ (T4.setTop (mkF m 39 #[.val (.ref a), .val (.ref b)] []))
    refine own_on (fun t k => XS.iconst X4.here hx rfl (hb hby d3_39) k) ?_
    show OwnGo p e below s _ _ _ (T4.setTop (mkF m 40 #[.val (.ref a), .val (.ref b)] [(.int (0 : Int32))]))
    exact own_retN X4 hx hlk (t := .boolean) Bd.returns (by simp) (hb hby d3_40) e4 ⟨(congrArg (fun z => some (Value.int z)) (by simp [own_me, nar, *])), N0, rfl⟩ (by decide) (by decide)
theorem ef_eqN (m : MethodId) (a : Addr)  : entryFrame m #[(.ref a), .null] 2 = mkF m 0 #[.val (.ref a), .val .null] [] := by first | (simp [entryFrame, mkF, argsToLocals, Value.category]; done) | rfl
def QeqN (Z : State) (a : Addr) (h0 : Heap) (n0 : Nat) (v_ : Option Value) (h_ : Heap) (L_ : List Loc) : Prop := v_ = some (.int (0 : Int32)) ∧ Fr n0 L_ ∧ h_ = h0
set_option maxRecDepth 65536 in
set_option maxHeartbeats 40000000 in
theorem rmeqN (l : Launch) (Z : State) (a0 : Array Value) (hw : ∀ d ∈ tables_1, d.before a0 Z = true) (ws : List Jvm.Cond) (a : Addr) (h0 : Heap) (n0 : Nat) (Z0 : n0 ≤ h0.size) (P0 : Exa Z h0 a "com/example/kembar/kembar/FingerprintIndex$Match") :
    MetFree l (⟨"com/example/kembar/kembar/FingerprintIndex$Match", "equals", "(Ljava/lang/Object;)Z"⟩ : MethodName) (head1 (Jvm.Cond.code (⟨"com/example/kembar/kembar/FingerprintIndex$Match", "equals", "(Ljava/lang/Object;)Z"⟩ : MethodName) prog_7_method_4_code 2 (some .boolean) :: ws) ({ frames := 0, cells := 0, slots := 0, locals := 0 } : Room)) (fun A_ U => A_ = #[(.ref a), .null] ∧ Z.Warmed39 U.vm ∧ U.heap = h0) (fun _ _ _ _ _ => True) (fun _ U_ o_ U'_ => ∃ v_ L_, o_ = .returned v_ ∧ QeqN Z a h0 n0 v_ U'_.heap L_ ∧ FrameEnd U_ o_ U'_ L_ ({ frames := 0, cells := 0, slots := 0, locals := 0 } : Room).cells ({ frames := 0, cells := 0, slots := 0, locals := 0 } : Room).slots) := by
  refine MetFree.of_bodySF (plainFor_of_name pn_0) hisR ?_
  intro p e s m args below meth c s₁ Bd hml0 hP hK
  obtain ⟨rfl, hZ, hh⟩ := hP
  have hx := Bd.exec
  have hby := Bd.bytes
  have hml : c.maxLocals = 2 := hml0
  have hown : s.vm.findClass "com/example/kembar/kembar/FingerprintIndex$Match" = some m.cls := findClass_of_methodNamed Bd.named
  have hnm := (name_of_methodNamed Bd.named Bd.method).1
  have hlk : meth.locks = false := Bd.notSynchronized
  have X0 : Stand p l e ({ frames := 0, cells := 0, slots := 0, locals := 0 } : Room) s m #[(.ref a), .null] below meth c s₁ [] 0 0 := Stand.of_body Bd
  have e0 : s₁.heap = h0 := by rw [← hh, Bd.state]; rfl
  have N0 := Fr.nil n0
  have K0 : Keep h0 h0 [] := Keep.refl _ _
  refine own_cast (ef_eqN m a) ?_
  show OwnGo p e below s (QeqN Z a h0 n0) ({ frames := 0, cells := 0, slots := 0, locals := 0 } : Room).cells ({ frames := 0, cells := 0, slots := 0, locals := 0 } : Room).slots (s₁.setTop (mkF m 0 #[.val (.ref a), .val .null] []))
  refine own_on (fun t k => XS.aloadN X0.here hx rfl (hb hby d3_0) rfl rfl k) ?_
  show OwnGo p e below s _ _ _ (s₁.setTop (mkF m 1 #[.val (.ref a), .val .null] [.null]))
  refine own_on (X0.instanceofNull hx (g := (mkF m 1 #[.val (.ref a), .val .null] [.null])) rfl rfl (hb hby d3_1)) ?_
  show OwnGo p e below s _ _ _ (s₁.setTop (mkF m 4 #[.val (.ref a), .val .null] [(.int (0 : Int32))]))
  refine own_on (fun t k => XS.ifYes X0.here hx rfl (pc0 := 4) (pc' := 39) rfl (hb hby d3_4) rfl ((if0 _ _).trans (teq (by decide : (0 : Int32) = (0 : Int32))).1) (by decide) (by decide) k) ?_
  show OwnGo p e below s _ _ _ (s₁.setTop (mkF m 39 #[.val (.ref a), .val .null] []))
  refine own_on (fun t k => XS.iconst X0.here hx rfl (hb hby d3_39) k) ?_
  show OwnGo p e below s _ _ _ (s₁.setTop (mkF m 40 #[.val (.ref a), .val .null] [(.int (0 : Int32))]))
  exact own_retN X0 hx hlk (t := .boolean) Bd.returns (by simp) (hb hby d3_40) e0 ⟨rfl, N0, rfl⟩ (by decide) (by decide)
theorem ef_eqI (m : MethodId) (a : Addr) (b : Addr)  : entryFrame m #[(.ref a), (.ref b)] 2 = mkF m 0 #[.val (.ref a), .val (.ref b)] [] := by first | (simp [entryFrame, mkF, argsToLocals, Value.category]; done) | rfl
def QeqI (Z : State) (a : Addr) (b : Addr) (h0 : Heap) (n0 : Nat) (v_ : Option Value) (h_ : Heap) (L_ : List Loc) : Prop := v_ = some (.int (0 : Int32)) ∧ Fr n0 L_ ∧ h_ = h0
set_option maxRecDepth 65536 in
set_option maxHeartbeats 40000000 in
theorem rmeqI (l : Launch) (Z : State) (a0 : Array Value) (hw : ∀ d ∈ tables_1, d.before a0 Z = true) (ws : List Jvm.Cond) (a : Addr) (b : Addr) (h0 : Heap) (n0 : Nat) (Z0 : n0 ≤ h0.size) (P0 : Exa Z h0 a "com/example/kembar/kembar/FingerprintIndex$Match") (P1 : Exa Z h0 b "java/lang/Integer") :
    MetFree l (⟨"com/example/kembar/kembar/FingerprintIndex$Match", "equals", "(Ljava/lang/Object;)Z"⟩ : MethodName) (head1 (Jvm.Cond.code (⟨"com/example/kembar/kembar/FingerprintIndex$Match", "equals", "(Ljava/lang/Object;)Z"⟩ : MethodName) prog_7_method_4_code 2 (some .boolean) :: ws) ({ frames := 0, cells := 0, slots := 0, locals := 0 } : Room)) (fun A_ U => A_ = #[(.ref a), (.ref b)] ∧ Z.Warmed39 U.vm ∧ U.heap = h0) (fun _ _ _ _ _ => True) (fun _ U_ o_ U'_ => ∃ v_ L_, o_ = .returned v_ ∧ QeqI Z a b h0 n0 v_ U'_.heap L_ ∧ FrameEnd U_ o_ U'_ L_ ({ frames := 0, cells := 0, slots := 0, locals := 0 } : Room).cells ({ frames := 0, cells := 0, slots := 0, locals := 0 } : Room).slots) := by
  refine MetFree.of_bodySF (plainFor_of_name pn_0) hisR ?_
  intro p e s m args below meth c s₁ Bd hml0 hP hK
  obtain ⟨rfl, hZ, hh⟩ := hP
  have hx := Bd.exec
  have hby := Bd.bytes
  have hml : c.maxLocals = 2 := hml0
  have hown : s.vm.findClass "com/example/kembar/kembar/FingerprintIndex$Match" = some m.cls := findClass_of_methodNamed Bd.named
  have hnm := (name_of_methodNamed Bd.named Bd.method).1
  have hlk : meth.locks = false := Bd.notSynchronized
  have X0 : Stand p l e ({ frames := 0, cells := 0, slots := 0, locals := 0 } : Room) s m #[(.ref a), (.ref b)] below meth c s₁ [] 0 0 := Stand.of_body Bd
  have e0 : s₁.heap = h0 := by rw [← hh, Bd.state]; rfl
  have N0 := Fr.nil n0
  have K0 : Keep h0 h0 [] := Keep.refl _ _
  refine own_cast (ef_eqI m a b) ?_
  show OwnGo p e below s (QeqI Z a b h0 n0) ({ frames := 0, cells := 0, slots := 0, locals := 0 } : Room).cells ({ frames := 0, cells := 0, slots := 0, locals := 0 } : Room).slots (s₁.setTop (mkF m 0 #[.val (.ref a), .val (.ref b)] []))
  refine own_on (fun t k => XS.aloadN X0.here hx rfl (hb hby d3_0) rfl rfl k) ?_
  show OwnGo p e below s _ _ _ (s₁.setTop (mkF m 1 #[.val (.ref a), .val (.ref b)] [(.ref b)]))
  obtain ⟨T1, X1, e1, st1⟩ := instNo X0 hx hZ hown (w18 hw) e0 P1 (own_noM hw) (g := (mkF m 1 #[.val (.ref a), .val (.ref b)] [(.ref b)])) rfl rfl (hb hby d3_1)
  refine own_on st1 ?_
  show OwnGo p e below s _ _ _ (T1.setTop (mkF m 4 #[.val (.ref a), .val (.ref b)] [(.int (0 : Int32))]))
  refine own_on (fun t k => XS.ifYes X1.here hx rfl (pc0 := 4) (pc' := 39) rfl (hb hby d3_4) rfl ((if0 _ _).trans (teq (by decide : (0 : Int32) = (0 : Int32))).1) (by decide) (by decide) k) ?_
  show OwnGo p e below s _ _ _ (T1.setTop (mkF m 39 #[.val (.ref a), .val (.ref b)] []))
  refine own_on (fun t k => XS.iconst X1.here hx rfl (hb hby d3_39) k) ?_
  show OwnGo p e below s _ _ _ (T1.setTop (mkF m 40 #[.val (.ref a), .val (.ref b)] [(.int (0 : Int32))]))
  exact own_retN X1 hx hlk (t := .boolean) Bd.returns (by simp) (hb hby d3_40) e1 ⟨rfl, N0, rfl⟩ (by decide) (by decide)
theorem ef_6 (m : MethodId) (a : Addr)  : entryFrame m #[(.ref a)] 1 = mkF m 0 #[.val (.ref a)] [] := by first | (simp [entryFrame, mkF, argsToLocals, Value.category]; done) | rfl
def Q6 (Z : State) (a : Addr) (h0 : Heap) (n0 : Nat) (v_ : Option Value) (h_ : Heap) (L_ : List Loc) : Prop := v_ = none ∧ Fr n0 L_ ∧ h_ = h0
set_option maxRecDepth 65536 in
set_option maxHeartbeats 40000000 in
theorem rm6 (l : Launch) (Z : State) (a0 : Array Value) (hw : ∀ d ∈ tables_1, d.before a0 Z = true) (ws : List Jvm.Cond) (a : Addr) (h0 : Heap) (n0 : Nat) (Z0 : n0 ≤ h0.size)  :
    MetFree l (⟨"java/lang/Number", "<init>", "()V"⟩ : MethodName) (head1 (Jvm.Cond.code (⟨"java/lang/Number", "<init>", "()V"⟩ : MethodName) jdk_18_method_1_code 1 none :: ws) ({ frames := 1, cells := 0, slots := 0, locals := 12 } : Room)) (fun A_ U => A_ = #[(.ref a)] ∧ Z.Warmed39 U.vm ∧ U.heap = h0) (fun _ _ _ _ _ => True) (fun _ U_ o_ U'_ => ∃ v_ L_, o_ = .returned v_ ∧ Q6 Z a h0 n0 v_ U'_.heap L_ ∧ FrameEnd U_ o_ U'_ L_ ({ frames := 1, cells := 0, slots := 0, locals := 12 } : Room).cells ({ frames := 1, cells := 0, slots := 0, locals := 12 } : Room).slots) := by
  refine MetFree.of_bodySF (plainFor_of_name pn_1) hisR ?_
  intro p e s m args below meth c s₁ Bd hml0 hP hK
  obtain ⟨rfl, hZ, hh⟩ := hP
  have hx := Bd.exec
  have hby := Bd.bytes
  have hml : c.maxLocals = 1 := hml0
  have hown : s.vm.findClass "java/lang/Number" = some m.cls := findClass_of_methodNamed Bd.named
  have hnm := (name_of_methodNamed Bd.named Bd.method).1
  have hlk : meth.locks = false := Bd.notSynchronized
  have X0 : Stand p l e ({ frames := 1, cells := 0, slots := 0, locals := 12 } : Room) s m #[(.ref a)] below meth c s₁ [] 0 0 := Stand.of_body Bd
  have e0 : s₁.heap = h0 := by rw [← hh, Bd.state]; rfl
  have N0 := Fr.nil n0
  have K0 : Keep h0 h0 [] := Keep.refl _ _
  refine own_cast (ef_6 m a) ?_
  show OwnGo p e below s (Q6 Z a h0 n0) ({ frames := 1, cells := 0, slots := 0, locals := 12 } : Room).cells ({ frames := 1, cells := 0, slots := 0, locals := 12 } : Room).slots (s₁.setTop (mkF m 0 #[.val (.ref a)] []))
  refine own_on (fun t k => XS.aloadN X0.here hx rfl (hb hby d6_0) rfl rfl k) ?_
  show OwnGo p e below s _ _ _ (s₁.setTop (mkF m 1 #[.val (.ref a)] [(.ref a)]))
  obtain ⟨T1, X1, e1, st1⟩ := initO X0 hx hZ hown (w38 hw) (w7 hw) (w8 hw) e0 (g := (mkF m 1 #[.val (.ref a)] [(.ref a)])) rfl (by rw [hml]; rfl) rfl (hb hby d6_1) (by decide) (W := 0) (by show 2 * 0 + _ ≤ _; exact Nat.le_of_eq rfl) (by decide)
  refine own_on st1 ?_
  show OwnGo p e below s _ _ _ (T1.setTop (mkF m 4 #[.val (.ref a)] []))
  exact own_retV X1 hx hlk Bd.returns (hb hby d6_4) e1 ⟨rfl, N0, rfl⟩ (by decide) (by decide)
theorem ef_5 (m : MethodId) (a : Addr) (k : Int32)  : entryFrame m #[(.ref a), (.int k)] 2 = mkF m 0 #[.val (.ref a), .val (.int k)] [] := by first | (simp [entryFrame, mkF, argsToLocals, Value.category]; done) | rfl
def Q5 (Z : State) (a : Addr) (k : Int32) (u : Value) (h0 : Heap) (n0 : Nat) (v_ : Option Value) (h_ : Heap) (L_ : List Loc) : Prop := v_ = none ∧ Fr n0 L_ ∧ Keep h0 h_ [a] ∧ (Exa Z h_ a "java/lang/Integer") ∧ (Fld Z h_ a "java/lang/Integer" "value" "I" (.int k))
set_option maxRecDepth 65536 in
set_option maxHeartbeats 40000000 in
theorem rm5 (l : Launch) (Z : State) (a0 : Array Value) (hw : ∀ d ∈ tables_1, d.before a0 Z = true) (ws : List Jvm.Cond) (a : Addr) (k : Int32) (u : Value) (h0 : Heap) (n0 : Nat) (Z0 : n0 ≤ h0.size) (P0 : Exa Z h0 a "java/lang/Integer") (P1 : Fld Z h0 a "java/lang/Integer" "value" "I" u) (P2 : n0 ≤ a) :
    MetFree l (⟨"java/lang/Integer", "<init>", "(I)V"⟩ : MethodName) (head1 (Jvm.Cond.code (⟨"java/lang/Integer", "<init>", "(I)V"⟩ : MethodName) jdk_33_method_23_code 2 none :: ws) ({ frames := 2, cells := 0, slots := 0, locals := 24 } : Room)) (fun A_ U => A_ = #[(.ref a), (.int k)] ∧ Z.Warmed39 U.vm ∧ U.heap = h0) (fun _ _ _ _ _ => True) (fun _ U_ o_ U'_ => ∃ v_ L_, o_ = .returned v_ ∧ Q5 Z a k u h0 n0 v_ U'_.heap L_ ∧ FrameEnd U_ o_ U'_ L_ ({ frames := 2, cells := 0, slots := 0, locals := 24 } : Room).cells ({ frames := 2, cells := 0, slots := 0, locals := 24 } : Room).slots) := by
  refine MetFree.of_bodySF (plainFor_of_name pn_2) hisR ?_
  intro p e s m args below meth c s₁ Bd hml0 hP hK
  obtain ⟨rfl, hZ, hh⟩ := hP
  have hx := Bd.exec
  have hby := Bd.bytes
  have hml : c.maxLocals = 2 := hml0
  have hown : s.vm.findClass "java/lang/Integer" = some m.cls := findClass_of_methodNamed Bd.named
  have hnm := (name_of_methodNamed Bd.named Bd.method).1
  have hlk : meth.locks = false := Bd.notSynchronized
  have X0 : Stand p l e ({ frames := 2, cells := 0, slots := 0, locals := 24 } : Room) s m #[(.ref a), (.int k)] below meth c s₁ [] 0 0 := Stand.of_body Bd
  have e0 : s₁.heap = h0 := by rw [← hh, Bd.state]; rfl
  have N0 := Fr.nil n0
  have K0 : Keep h0 h0 [a] := Keep.refl _ _
  refine own_cast (ef_5 m a k) ?_
  show OwnGo p e below s (Q5 Z a k u h0 n0) ({ frames := 2, cells := 0, slots := 0, locals := 24 } : Room).cells ({ frames := 2, cells := 0, slots := 0, locals := 24 } : Room).slots (s₁.setTop (mkF m 0 #[.val (.ref a), .val (.int k)] []))
  refine own_on (fun t k => XS.aloadN X0.here hx rfl (hb hby d5_0) rfl rfl k) ?_
  show OwnGo p e below s _ _ _ (s₁.setTop (mkF m 1 #[.val (.ref a), .val (.int k)] [(.ref a)]))
  obtain ⟨_, _, ⟨T1, L1, k1, n1⟩, -, X1, ⟨Lc1, hQ1, l1, y1, z1⟩, st1⟩ := X0.specialBack hx (y := (⟨"java/lang/Number", "<init>", "()V"⟩ : MethodName)) rfl hown (mvT hZ (w32 hw)) (mvT hZ (w33 hw)) (mvT hZ (w37 hw)) (by decide) (backOf (W := 0) (rm6 l Z a0 hw [] a h0 n0 Z0 ) hZ (w37 hw) (w36 hw) (by decide) (by decide)) (g := (mkF m 1 #[.val (.ref a), .val (.int k)] [(.ref a)])) rfl (by rw [hml]; rfl) (Steps.refl _) (a := a) (argsL := []) (rest := []) (lenOf pd_0 rfl) rfl (by show 2 * 0 + _ ≤ _; exact Nat.le_of_eq rfl) (hb hby d5_1) (fun _ _ => ⟨rfl, e0, (by decide : 0 + 0 ≤ _), (by decide : 0 + 0 ≤ _)⟩)
  dsimp only [Pt.U, Pt.locs, Pt.cells, Pt.slots] at X1 l1 y1 z1 st1 hQ1
  subst l1 y1 z1
  obtain ⟨rfl, N1q, e1⟩ := hQ1
  have N1 := Fr.app N0 N1q
  refine own_tr st1 ?_
  show OwnGo p e below s _ _ _ (T1.setTop (mkF m 4 #[.val (.ref a), .val (.int k)] []))
  refine own_on (fun t k => XS.aloadN X1.here hx rfl (hb hby d5_4) rfl rfl k) ?_
  show OwnGo p e below s _ _ _ (T1.setTop (mkF m 5 #[.val (.ref a), .val (.int k)] [(.ref a)]))
  refine own_on (fun t k => XS.iloadN X1.here hx rfl (hb hby d5_5) rfl k) ?_
  show OwnGo p e below s _ _ _ (T1.setTop (mkF m 6 #[.val (.ref a), .val (.int k)] [(.int k), (.ref a)]))
  obtain ⟨T2, h2, X2, e2, W2, st2⟩ := putF X1 hx hZ hown (host := "") (Or.inl (w39 hw)) Via.refl e1 P1 P0 (Or.inr ⟨(w40 hw), rfl, hnm⟩) (w27 hw) (ty := .int) (by decide) rfl rfl (g := (mkF m 6 #[.val (.ref a), .val (.int k)] [(.int k), (.ref a)])) rfl rfl (hb hby d5_6)
  have F2 := P1.same W2
  have N2 := Fr.snoc X2 N1 P2
  have Z2 : n0 ≤ h2.size := Nat.le_trans Z0 (Keep.of_wr W2).1
  have K2 : Keep h0 h2 [a] := K0.wr W2 (Or.inl (List.mem_of_getElem? (i := 0) rfl))
  refine own_on st2 ?_
  show OwnGo p e below s _ _ _ (T2.setTop (mkF m 9 #[.val (.ref a), .val (.int k)] []))
  have f3 : Exa Z h2 a "java/lang/Integer" := P0.wr W2
  exact own_retV X2 hx hlk Bd.returns (hb hby d5_9) e2 ⟨rfl, N2, K2, f3, F2⟩ (by decide) (by decide)
theorem ef_4 (m : MethodId) (k : Int32)  : entryFrame m #[(.int k)] 1 = mkF m 0 #[.val (.int k)] [] := by first | (simp [entryFrame, mkF, argsToLocals, Value.category]; done) | rfl
def Q4 (Z : State) (k : Int32) (ca : Addr) (h0 : Heap) (n0 : Nat) (v_ : Option Value) (h_ : Heap) (L_ : List Loc) : Prop := ∃ r : Addr, v_ = some (.ref r) ∧ Fr n0 L_ ∧ Keep h0 h_ [] ∧ (Exa Z h_ r "java/lang/Integer") ∧ (Old Z n0 h_)
set_option maxRecDepth 65536 in
set_option maxHeartbeats 40000000 in
theorem rm4 (l : Launch) (Z : State) (a0 : Array Value) (hw : ∀ d ∈ tables_1, d.before a0 Z = true) (ws : List Jvm.Cond) (k : Int32) (ca : Addr) (h0 : Heap) (n0 : Nat) (Z0 : n0 ≤ h0.size) (P0 : Old Z n0 h0) (P1 : Sta Z Z.heap "java/lang/Integer$IntegerCache" "high" "I" (.int (127 : Int32))) (P2 : Sta Z Z.heap "java/lang/Integer$IntegerCache" "cache" "[Ljava/lang/Integer;" (.ref ca)) (P3 : OwnCache Z ca) :
    MetFree l (⟨"java/lang/Integer", "valueOf", "(I)Ljava/lang/Integer;"⟩ : MethodName) (head1 (Jvm.Cond.code (⟨"java/lang/Integer", "valueOf", "(I)Ljava/lang/Integer;"⟩ : MethodName) jdk_33_method_22_code 1 (some (.object "java/lang/Integer")) :: ws) ({ frames := 3, cells := 1, slots := 1, locals := 38 } : Room)) (fun A_ U => A_ = #[(.int k)] ∧ Z.Warmed39 U.vm ∧ U.heap = h0) (fun _ _ _ _ _ => True) (fun _ U_ o_ U'_ => ∃ v_ L_, o_ = .returned v_ ∧ Q4 Z k ca h0 n0 v_ U'_.heap L_ ∧ FrameEnd U_ o_ U'_ L_ ({ frames := 3, cells := 1, slots := 1, locals := 38 } : Room).cells ({ frames := 3, cells := 1, slots := 1, locals := 38 } : Room).slots) := by
  refine MetFree.of_bodySF (plainFor_of_name pn_2) hisR ?_
  intro p e s m args below meth c s₁ Bd hml0 hP hK
  obtain ⟨rfl, hZ, hh⟩ := hP
  have hx := Bd.exec
  have hby := Bd.bytes
  have hml : c.maxLocals = 1 := hml0
  have hown : s.vm.findClass "java/lang/Integer" = some m.cls := findClass_of_methodNamed Bd.named
  have hnm := (name_of_methodNamed Bd.named Bd.method).1
  have hlk : meth.locks = false := Bd.notSynchronized
  have X0 : Stand p l e ({ frames := 3, cells := 1, slots := 1, locals := 38 } : Room) s m #[(.int k)] below meth c s₁ [] 0 0 := Stand.of_body Bd
  have e0 : s₁.heap = h0 := by rw [← hh, Bd.state]; rfl
  have N0 := Fr.nil n0
  have K0 : Keep h0 h0 [] := Keep.refl _ _
  refine own_cast (ef_4 m k) ?_
  show OwnGo p e below s (Q4 Z k ca h0 n0) ({ frames := 3, cells := 1, slots := 1, locals := 38 } : Room).cells ({ frames := 3, cells := 1, slots := 1, locals := 38 } : Room).slots (s₁.setTop (mkF m 0 #[.val (.int k)] []))
  refine own_on (fun t k => XS.iloadN X0.here hx rfl (hb hby d4_0) rfl k) ?_
  show OwnGo p e below s _ _ _ (s₁.setTop (mkF m 1 #[.val (.int k)] [(.int k)]))
  refine own_on (fun t k => XS.bipush X0.here hx rfl (hb hby d4_1) k) ?_
  show OwnGo p e below s _ _ _ (s₁.setTop (mkF m 3 #[.val (.int k)] [(.int (-128 : Int32)), (.int k)]))
  by_cases q0 : k < (-128 : Int32)
  · refine own_on (fun t k => XS.icmpYes X0.here hx rfl (pc0 := 3) (pc' := 23) rfl (hb hby d4_3) rfl (tlt q0).1 (by decide) (by decide) k) ?_
    show OwnGo p e below s _ _ _ (s₁.setTop (mkF m 23 #[.val (.int k)] []))
    obtain ⟨T1, h1, X1, e1, E1, A1, D1, u1, st1⟩ := newO X0 hx hZ hown (w26 hw) (w27 hw) (w22 hw) e0 (g := (mkF m 23 #[.val (.int k)] [])) rfl (hb hby d4_23) (by decide) (by decide)
    obtain ⟨b1, g1⟩ : ∃ z, z = h0.size := ⟨_, rfl⟩
    rw [← g1] at A1 D1 st1
    have g2 : n0 ≤ b1 := Nat.le_trans Z0 (Nat.le_of_eq g1.symm)
    have z3 : h0.size ≤ b1 := Nat.le_trans K0.1 (Nat.le_of_eq g1.symm)
    have Z1 : n0 ≤ h1.size := Nat.le_trans Z0 E1.1
    have K1 : Keep h0 h1 [] := K0.ext E1
    have F1_value : Fld Z h1 b1 "java/lang/Integer" "value" "I" (.int (0 : Int32)) := D1 (Or.inr (w40 hw)) (ty := .int) (by decide)
    refine own_on st1 ?_
    show OwnGo p e below s _ _ _ (T1.setTop (mkF m 26 #[.val (.int k)] [(.ref b1)]))
    refine own_on (fun t k => XS.dup X1.here hx rfl (hb hby d4_26) rfl rfl k) ?_
    show OwnGo p e below s _ _ _ (T1.setTop (mkF m 27 #[.val (.int k)] [(.ref b1), (.ref b1)]))
    refine own_on (fun t k => XS.iloadN X1.here hx rfl (hb hby d4_27) rfl k) ?_
    show OwnGo p e below s _ _ _ (T1.setTop (mkF m 28 #[.val (.int k)] [(.int k), (.ref b1), (.ref b1)]))
    obtain ⟨_, _, ⟨T4, L4, k4, n4⟩, -, X4, ⟨Lc4, hQ4, l4, y4, z4⟩, st4⟩ := X1.specialBack hx (y := (⟨"java/lang/Integer", "<init>", "(I)V"⟩ : MethodName)) rfl hown (mvT hZ (w28 hw)) (mvT hZ (w29 hw)) (mvT hZ (w31 hw)) (by decide) (backOf (W := 1) (rm5 l Z a0 hw [] b1 k (.int (0 : Int32)) h1 n0 Z1 A1 F1_value g2) hZ (w31 hw) (w22 hw) (by decide) (by decide)) (g := (mkF m 28 #[.val (.int k)] [(.int k), (.ref b1), (.ref b1)])) rfl (by rw [hml]; rfl) (Steps.refl _) (a := b1) (argsL := [(.int k)]) (rest := [(.ref b1)]) (lenOf pd_1 rfl) rfl (by show 2 * 0 + _ ≤ _; exact Nat.le_of_eq rfl) (hb hby d4_28) (fun _ _ => ⟨rfl, e1, (by decide : 1 + 0 ≤ _), (by decide : 1 + 0 ≤ _)⟩)
    dsimp only [Pt.U, Pt.locs, Pt.cells, Pt.slots] at X4 l4 y4 z4 st4 hQ4
    subst l4 y4 z4
    obtain ⟨rfl, N4q, K4q, c4_0, c4_1⟩ := hQ4
    have N4 := Fr.app N0 N4q
    have Z4 : n0 ≤ T4.heap.size := Nat.le_trans Z1 K4q.1
    have K4 : Keep h0 T4.heap [] := K1.trans K4q (allS (P := fun x => x ∈ [] ∨ h0.size ≤ x) (Or.inr z3) all0)
    refine own_tr st4 ?_
    show OwnGo p e below s _ _ _ (T4.setTop (mkF m 31 #[.val (.int k)] [(.ref b1)]))
    have f5 : Old Z n0 h1 := P0.ext E1
    have f6 : Old Z n0 T4.heap := f5.keep K4q (allS g2 all0)
    exact own_retA X4 hx hlk Bd.returns rfl rfl (hb hby d4_31) rfl ⟨b1, rfl, N4, K4, c4_0, f6⟩ (by decide) (by decide)
  · refine own_on (fun t k => XS.icmpNo X0.here hx rfl (hb hby d4_3) rfl (flt q0).1 k) ?_
    show OwnGo p e below s _ _ _ (s₁.setTop (mkF m 6 #[.val (.int k)] []))
    refine own_on (fun t k => XS.iloadN X0.here hx rfl (hb hby d4_6) rfl k) ?_
    show OwnGo p e below s _ _ _ (s₁.setTop (mkF m 7 #[.val (.int k)] [(.int k)]))
    obtain ⟨T7, X7, e7, st7⟩ := getS2 X0 hx hZ hown (host := "") (Or.inl (w24 hw)) Via.refl e0 (P1.ext P0.2) (g := (mkF m 7 #[.val (.int k)] [(.int k)])) rfl (hb hby d4_7)
    refine own_on st7 ?_
    show OwnGo p e below s _ _ _ (T7.setTop (mkF m 10 #[.val (.int k)] [(.int (127 : Int32)), (.int k)]))
    by_cases q1 : (127 : Int32) < k
    · refine own_on (fun t k => XS.icmpYes X7.here hx rfl (pc0 := 10) (pc' := 23) rfl (hb hby d4_10) rfl (tlt q1).2.2.1 (by decide) (by decide) k) ?_
      show OwnGo p e below s _ _ _ (T7.setTop (mkF m 23 #[.val (.int k)] []))
      obtain ⟨T8, h8, X8, e8, E8, A8, D8, u8, st8⟩ := newO X7 hx hZ hown (w26 hw) (w27 hw) (w22 hw) e7 (g := (mkF m 23 #[.val (.int k)] [])) rfl (hb hby d4_23) (by decide) (by decide)
      obtain ⟨b8, g8⟩ : ∃ z, z = h0.size := ⟨_, rfl⟩
      rw [← g8] at A8 D8 st8
      have g9 : n0 ≤ b8 := Nat.le_trans Z0 (Nat.le_of_eq g8.symm)
      have z10 : h0.size ≤ b8 := Nat.le_trans K0.1 (Nat.le_of_eq g8.symm)
      have Z8 : n0 ≤ h8.size := Nat.le_trans Z0 E8.1
      have K8 : Keep h0 h8 [] := K0.ext E8
      have F8_value : Fld Z h8 b8 "java/lang/Integer" "value" "I" (.int (0 : Int32)) := D8 (Or.inr (w40 hw)) (ty := .int) (by decide)
      refine own_on st8 ?_
      show OwnGo p e below s _ _ _ (T8.setTop (mkF m 26 #[.val (.int k)] [(.ref b8)]))
      refine own_on (fun t k => XS.dup X8.here hx rfl (hb hby d4_26) rfl rfl k) ?_
      show OwnGo p e below s _ _ _ (T8.setTop (mkF m 27 #[.val (.int k)] [(.ref b8), (.ref b8)]))
      refine own_on (fun t k => XS.iloadN X8.here hx rfl (hb hby d4_27) rfl k) ?_
      show OwnGo p e below s _ _ _ (T8.setTop (mkF m 28 #[.val (.int k)] [(.int k), (.ref b8), (.ref b8)]))
      obtain ⟨_, _, ⟨T11, L11, k11, n11⟩, -, X11, ⟨Lc11, hQ11, l11, y11, z11⟩, st11⟩ := X8.specialBack hx (y := (⟨"java/lang/Integer", "<init>", "(I)V"⟩ : MethodName)) rfl hown (mvT hZ (w28 hw)) (mvT hZ (w29 hw)) (mvT hZ (w31 hw)) (by decide) (backOf (W := 1) (rm5 l Z a0 hw [] b8 k (.int (0 : Int32)) h8 n0 Z8 A8 F8_value g9) hZ (w31 hw) (w22 hw) (by decide) (by decide)) (g := (mkF m 28 #[.val (.int k)] [(.int k), (.ref b8), (.ref b8)])) rfl (by rw [hml]; rfl) (Steps.refl _) (a := b8) (argsL := [(.int k)]) (rest := [(.ref b8)]) (lenOf pd_1 rfl) rfl (by show 2 * 0 + _ ≤ _; exact Nat.le_of_eq rfl) (hb hby d4_28) (fun _ _ => ⟨rfl, e8, (by decide : 1 + 0 ≤ _), (by decide : 1 + 0 ≤ _)⟩)
      dsimp only [Pt.U, Pt.locs, Pt.cells, Pt.slots] at X11 l11 y11 z11 st11 hQ11
      subst l11 y11 z11
      obtain ⟨rfl, N11q, K11q, c11_0, c11_1⟩ := hQ11
      have N11 := Fr.app N0 N11q
      have Z11 : n0 ≤ T11.heap.size := Nat.le_trans Z8 K11q.1
      have K11 : Keep h0 T11.heap [] := K8.trans K11q (allS (P := fun x => x ∈ [] ∨ h0.size ≤ x) (Or.inr z10) all0)
      refine own_tr st11 ?_
      show OwnGo p e below s _ _ _ (T11.setTop (mkF m 31 #[.val (.int k)] [(.ref b8)]))
      have f12 : Old Z n0 h8 := P0.ext E8
      have f13 : Old Z n0 T11.heap := f12.keep K11q (allS g9 all0)
      exact own_retA X11 hx hlk Bd.returns rfl rfl (hb hby d4_31) rfl ⟨b8, rfl, N11, K11, c11_0, f13⟩ (by decide) (by decide)
    · refine own_on (fun t k => XS.icmpNo X7.here hx rfl (hb hby d4_10) rfl (flt q1).2.2.1 k) ?_
      show OwnGo p e below s _ _ _ (T7.setTop (mkF m 13 #[.val (.int k)] []))
      obtain ⟨T14, X14, e14, st14⟩ := getS2 X7 hx hZ hown (host := "") (Or.inl (w44 hw)) Via.refl e7 (P2.ext P0.2) (g := (mkF m 13 #[.val (.int k)] [])) rfl (hb hby d4_13)
      refine own_on st14 ?_
      show OwnGo p e below s _ _ _ (T14.setTop (mkF m 16 #[.val (.int k)] [(.ref ca)]))
      refine own_on (fun t k => XS.iloadN X14.here hx rfl (hb hby d4_16) rfl k) ?_
      show OwnGo p e below s _ _ _ (T14.setTop (mkF m 17 #[.val (.int k)] [(.int k), (.ref ca)]))
      refine own_on (fun t k => XS.sipush X14.here hx rfl (hb hby d4_17) k) ?_
      show OwnGo p e below s _ _ _ (T14.setTop (mkF m 20 #[.val (.int k)] [(.int (128 : Int32)), (.int k), (.ref ca)]))
      refine own_on (fun t k => XS.iadd X14.here hx rfl (hb hby d4_20) rfl k) ?_
      show OwnGo p e below s _ _ _ (T14.setTop (mkF m 21 #[.val (.int k)] [(.int (k + (128 : Int32))), (.ref ca)]))
      obtain ⟨clc, Arc, szc, hcc⟩ := P3
      have hj := own_cj k q0 q1
      obtain ⟨r, hr, Er⟩ := hcc _ hj.1
      have Er' : Exa Z h0 r "java/lang/Integer" := Er.ext P0.2
      refine own_on (X14.aaload hx (j := (k + (128 : Int32))) (v := .ref r) (by rw [e14]; exact (Arc.ext P0.2).1) (State.isArrayOf_alike hZ.alike Arc.2.1) rfl Arc.2.2 (by rw [szc]; exact hj.2) hr (g := (mkF m 21 #[.val (.int k)] [(.int (k + (128 : Int32))), (.ref ca)])) rfl rfl (hb hby d4_21)) ?_
      show OwnGo p e below s _ _ _ (T14.setTop (mkF m 22 #[.val (.int k)] [(.ref r)]))
      exact own_retA X14 hx hlk Bd.returns rfl rfl (hb hby d4_22) e14 ⟨r, rfl, N0, K0, Er', P0⟩ (by decide) (by decide)
theorem ef_0 (m : MethodId) (n : Int32) (d : Int32) (n2 : Int32) (d2 : Int32) (fl : Int32)  : entryFrame m #[(.int n), (.int d), (.int n2), (.int d2), (.int fl)] maxLocals = mkF m 0 #[.val (.int n), .val (.int d), .val (.int n2), .val (.int d2), .val (.int fl), .unset, .unset, .unset, .unset, .unset, .unset, .unset, .unset, .unset, .unset, .unset] [] := by first | (simp [entryFrame, mkF, argsToLocals, Value.category, maxLocals]; done) | rfl
def Q0 (Z : State) (n : Int32) (d : Int32) (n2 : Int32) (d2 : Int32) (fl : Int32) (ca : Addr) (h0 : Heap) (n0 : Nat) (v_ : Option Value) (h_ : Heap) (L_ : List Loc) : Prop := v_ = some (.int (1 : Int32)) ∧ Fr n0 L_ ∧ Keep h0 h_ []
set_option maxRecDepth 65536 in
set_option maxHeartbeats 40000000 in
theorem rm0 (l : Launch) (Z : State) (a0 : Array Value) (hw : ∀ d ∈ tables_1, d.before a0 Z = true) (ws : List Jvm.Cond) (n : Int32) (d : Int32) (n2 : Int32) (d2 : Int32) (fl : Int32) (ca : Addr) (h0 : Heap) (n0 : Nat) (Z0 : n0 ≤ h0.size) (P0 : Old Z n0 h0) (P1 : Sta Z Z.heap "java/lang/Integer$IntegerCache" "high" "I" (.int (127 : Int32))) (P2 : Sta Z Z.heap "java/lang/Integer$IntegerCache" "cache" "[Ljava/lang/Integer;" (.ref ca)) (P3 : OwnCache Z ca) :
    MetFree l x (head1 (Jvm.Cond.code x code maxLocals ret :: ws) room_1) (fun A_ U => A_ = #[(.int n), (.int d), (.int n2), (.int d2), (.int fl)] ∧ Z.Warmed39 U.vm ∧ U.heap = h0) (fun _ _ _ _ _ => True) (fun _ U_ o_ U'_ => ∃ v_ L_, o_ = .returned v_ ∧ Q0 Z n d n2 d2 fl ca h0 n0 v_ U'_.heap L_ ∧ FrameEnd U_ o_ U'_ L_ room_1.cells room_1.slots) := by
  refine MetFree.of_bodySF (plainFor_of_name pn_3) hisR ?_
  intro p e s m args below meth c s₁ Bd hml0 hP hK
  obtain ⟨rfl, hZ, hh⟩ := hP
  have hx := Bd.exec
  have hby := Bd.bytes
  have hml : c.maxLocals = 16 := hml0
  have hown : s.vm.findClass "com/example/kembar/kembar/MatchEqualsPinLaw" = some m.cls := findClass_of_methodNamed Bd.named
  have hnm := (name_of_methodNamed Bd.named Bd.method).1
  have hlk : meth.locks = false := Bd.notSynchronized
  have X0 : Stand p l e room_1 s m #[(.int n), (.int d), (.int n2), (.int d2), (.int fl)] below meth c s₁ [] 0 0 := Stand.of_body Bd
  have e0 : s₁.heap = h0 := by rw [← hh, Bd.state]; rfl
  have N0 := Fr.nil n0
  have K0 : Keep h0 h0 [] := Keep.refl _ _
  refine own_cast (ef_0 m n d n2 d2 fl) ?_
  show OwnGo p e below s (Q0 Z n d n2 d2 fl ca h0 n0) room_1.cells room_1.slots (s₁.setTop (mkF m 0 #[.val (.int n), .val (.int d), .val (.int n2), .val (.int d2), .val (.int fl), .unset, .unset, .unset, .unset, .unset, .unset, .unset, .unset, .unset, .unset, .unset] []))
  have J : ∀ z5 z6 nb db : Int32, OwnGo p e below s (Q0 Z n d n2 d2 fl ca h0 n0) room_1.cells room_1.slots (s₁.setTop (mkF m 60 #[.val (.int n), .val (.int d), .val (.int n2), .val (.int d2), .val (.int fl), .val (.int z5), .val (.int z6), .val (.int (((fl.toUInt32 >>> ((2 : Int32) &&& 31).toUInt32).toInt32) &&& (3 : Int32))), .val (.int nb), .val (.int db), .unset, .unset, .unset, .unset, .unset, .unset] [])) := by
    intro z5 z6 nb db
    obtain ⟨T1, h1, X1, e1, E1, A1, D1, u1, st1⟩ := newO X0 hx hZ hown (w0 hw) (w1 hw) (w2 hw) e0 (g := (mkF m 60 #[.val (.int n), .val (.int d), .val (.int n2), .val (.int d2), .val (.int fl), .val (.int z5), .val (.int z6), .val (.int (((fl.toUInt32 >>> ((2 : Int32) &&& 31).toUInt32).toInt32) &&& (3 : Int32))), .val (.int nb), .val (.int db), .unset, .unset, .unset, .unset, .unset, .unset] [])) rfl (hb hby at_60) (by decide) (by decide)
    obtain ⟨b1, g1⟩ : ∃ z, z = h0.size := ⟨_, rfl⟩
    rw [← g1] at A1 D1 st1
    have g2 : n0 ≤ b1 := Nat.le_trans Z0 (Nat.le_of_eq g1.symm)
    have z3 : h0.size ≤ b1 := Nat.le_trans K0.1 (Nat.le_of_eq g1.symm)
    have Z1 : n0 ≤ h1.size := Nat.le_trans Z0 E1.1
    have K1 : Keep h0 h1 [] := K0.ext E1
    have F1_number : Fld Z h1 b1 "com/example/kembar/kembar/FingerprintIndex$Match" "number" "I" (.int (0 : Int32)) := D1 (Or.inr (w10 hw)) (ty := .int) (by decide)
    have F1_distance : Fld Z h1 b1 "com/example/kembar/kembar/FingerprintIndex$Match" "distance" "I" (.int (0 : Int32)) := D1 (Or.inr (w12 hw)) (ty := .int) (by decide)
    refine own_on st1 ?_
    show OwnGo p e below s _ _ _ (T1.setTop (mkF m 63 #[.val (.int n), .val (.int d), .val (.int n2), .val (.int d2), .val (.int fl), .val (.int z5), .val (.int z6), .val (.int (((fl.toUInt32 >>> ((2 : Int32) &&& 31).toUInt32).toInt32) &&& (3 : Int32))), .val (.int nb), .val (.int db), .unset, .unset, .unset, .unset, .unset, .unset] [(.ref b1)]))
    refine own_on (fun t k => XS.dup X1.here hx rfl (hb hby at_63) rfl rfl k) ?_
    show OwnGo p e below s _ _ _ (T1.setTop (mkF m 64 #[.val (.int n), .val (.int d), .val (.int n2), .val (.int d2), .val (.int fl), .val (.int z5), .val (.int z6), .val (.int (((fl.toUInt32 >>> ((2 : Int32) &&& 31).toUInt32).toInt32) &&& (3 : Int32))), .val (.int nb), .val (.int db), .unset, .unset, .unset, .unset, .unset, .unset] [(.ref b1), (.ref b1)]))
    refine own_on (fun t k => XS.iloadN X1.here hx rfl (hb hby at_64) rfl k) ?_
    show OwnGo p e below s _ _ _ (T1.setTop (mkF m 65 #[.val (.int n), .val (.int d), .val (.int n2), .val (.int d2), .val (.int fl), .val (.int z5), .val (.int z6), .val (.int (((fl.toUInt32 >>> ((2 : Int32) &&& 31).toUInt32).toInt32) &&& (3 : Int32))), .val (.int nb), .val (.int db), .unset, .unset, .unset, .unset, .unset, .unset] [(.int n), (.ref b1), (.ref b1)]))
    refine own_on (fun t k => XS.iloadN X1.here hx rfl (hb hby at_65) rfl k) ?_
    show OwnGo p e below s _ _ _ (T1.setTop (mkF m 66 #[.val (.int n), .val (.int d), .val (.int n2), .val (.int d2), .val (.int fl), .val (.int z5), .val (.int z6), .val (.int (((fl.toUInt32 >>> ((2 : Int32) &&& 31).toUInt32).toInt32) &&& (3 : Int32))), .val (.int nb), .val (.int db), .unset, .unset, .unset, .unset, .unset, .unset] [(.int d), (.int n), (.ref b1), (.ref b1)]))
    obtain ⟨_, _, ⟨T4, L4, k4, n4⟩, -, X4, ⟨Lc4, hQ4, l4, y4, z4⟩, st4⟩ := X1.specialBack hx (y := (⟨"com/example/kembar/kembar/FingerprintIndex$Match", "<init>", "(II)V"⟩ : MethodName)) rfl hown (mvT hZ (w3 hw)) (mvT hZ (w4 hw)) (mvT hZ (w5 hw)) (by decide) (backOf (W := 1) (rm1 l Z a0 hw [] b1 n d (.int (0 : Int32)) (.int (0 : Int32)) h1 n0 Z1 A1 F1_number F1_distance g2) hZ (w5 hw) (w2 hw) (by decide) (by decide)) (g := (mkF m 66 #[.val (.int n), .val (.int d), .val (.int n2), .val (.int d2), .val (.int fl), .val (.int z5), .val (.int z6), .val (.int (((fl.toUInt32 >>> ((2 : Int32) &&& 31).toUInt32).toInt32) &&& (3 : Int32))), .val (.int nb), .val (.int db), .unset, .unset, .unset, .unset, .unset, .unset] [(.int d), (.int n), (.ref b1), (.ref b1)])) rfl (by rw [hml]; rfl) (Steps.refl _) (a := b1) (argsL := [(.int n), (.int d)]) (rest := [(.ref b1)]) (lenOf pd_2 rfl) rfl (by show 2 * 0 + _ ≤ _; exact Nat.le_of_eq rfl) (hb hby at_66) (fun _ _ => ⟨rfl, e1, (by decide : 1 + 0 ≤ _), (by decide : 2 + 0 ≤ _)⟩)
    dsimp only [Pt.U, Pt.locs, Pt.cells, Pt.slots] at X4 l4 y4 z4 st4 hQ4
    subst l4 y4 z4
    obtain ⟨rfl, N4q, K4q, c4_0, c4_1, c4_2⟩ := hQ4
    have N4 := Fr.app N0 N4q
    have Z4 : n0 ≤ T4.heap.size := Nat.le_trans Z1 K4q.1
    have K4 : Keep h0 T4.heap [] := K1.trans K4q (allS (P := fun x => x ∈ [] ∨ h0.size ≤ x) (Or.inr z3) all0)
    refine own_tr st4 ?_
    show OwnGo p e below s _ _ _ (T4.setTop (mkF m 69 #[.val (.int n), .val (.int d), .val (.int n2), .val (.int d2), .val (.int fl), .val (.int z5), .val (.int z6), .val (.int (((fl.toUInt32 >>> ((2 : Int32) &&& 31).toUInt32).toInt32) &&& (3 : Int32))), .val (.int nb), .val (.int db), .unset, .unset, .unset, .unset, .unset, .unset] [(.ref b1)]))
    refine own_on (fun t k => XS.astore X4.here hx rfl (hb hby at_69) rfl rfl (l' := #[.val (.int n), .val (.int d), .val (.int n2), .val (.int d2), .val (.int fl), .val (.int z5), .val (.int z6), .val (.int (((fl.toUInt32 >>> ((2 : Int32) &&& 31).toUInt32).toInt32) &&& (3 : Int32))), .val (.int nb), .val (.int db), .val (.ref b1), .unset, .unset, .unset, .unset, .unset]) rfl k) ?_
    show OwnGo p e below s _ _ _ (T4.setTop (mkF m 71 #[.val (.int n), .val (.int d), .val (.int n2), .val (.int d2), .val (.int fl), .val (.int z5), .val (.int z6), .val (.int (((fl.toUInt32 >>> ((2 : Int32) &&& 31).toUInt32).toInt32) &&& (3 : Int32))), .val (.int nb), .val (.int db), .val (.ref b1), .unset, .unset, .unset, .unset, .unset] []))
    obtain ⟨T5, h5, X5, e5, E5, A5, D5, u5, st5⟩ := newO X4 hx hZ hown (w0 hw) (w1 hw) (w2 hw) rfl (g := (mkF m 71 #[.val (.int n), .val (.int d), .val (.int n2), .val (.int d2), .val (.int fl), .val (.int z5), .val (.int z6), .val (.int (((fl.toUInt32 >>> ((2 : Int32) &&& 31).toUInt32).toInt32) &&& (3 : Int32))), .val (.int nb), .val (.int db), .val (.ref b1), .unset, .unset, .unset, .unset, .unset] [])) rfl (hb hby at_71) (by decide) (by decide)
    obtain ⟨b5, g5⟩ : ∃ z, z = T4.heap.size := ⟨_, rfl⟩
    rw [← g5] at A5 D5 st5
    have f6 : Exa Z T4.heap b1 "com/example/kembar/kembar/FingerprintIndex$Match" := A1.keep K4q
    have ne7 : b1 ≠ b5 := Nat.ne_of_lt (Nat.lt_of_lt_of_le f6.lt (Nat.le_of_eq g5.symm))
    have g8 : n0 ≤ b5 := Nat.le_trans Z4 (Nat.le_of_eq g5.symm)
    have z9 : h0.size ≤ b5 := Nat.le_trans K4.1 (Nat.le_of_eq g5.symm)
    have Z5 : n0 ≤ h5.size := Nat.le_trans Z4 E5.1
    have K5 : Keep h0 h5 [] := K4.ext E5
    have F5_number : Fld Z h5 b5 "com/example/kembar/kembar/FingerprintIndex$Match" "number" "I" (.int (0 : Int32)) := D5 (Or.inr (w10 hw)) (ty := .int) (by decide)
    have F5_distance : Fld Z h5 b5 "com/example/kembar/kembar/FingerprintIndex$Match" "distance" "I" (.int (0 : Int32)) := D5 (Or.inr (w12 hw)) (ty := .int) (by decide)
    refine own_on st5 ?_
    show OwnGo p e below s _ _ _ (T5.setTop (mkF m 74 #[.val (.int n), .val (.int d), .val (.int n2), .val (.int d2), .val (.int fl), .val (.int z5), .val (.int z6), .val (.int (((fl.toUInt32 >>> ((2 : Int32) &&& 31).toUInt32).toInt32) &&& (3 : Int32))), .val (.int nb), .val (.int db), .val (.ref b1), .unset, .unset, .unset, .unset, .unset] [(.ref b5)]))
    refine own_on (fun t k => XS.dup X5.here hx rfl (hb hby at_74) rfl rfl k) ?_
    show OwnGo p e below s _ _ _ (T5.setTop (mkF m 75 #[.val (.int n), .val (.int d), .val (.int n2), .val (.int d2), .val (.int fl), .val (.int z5), .val (.int z6), .val (.int (((fl.toUInt32 >>> ((2 : Int32) &&& 31).toUInt32).toInt32) &&& (3 : Int32))), .val (.int nb), .val (.int db), .val (.ref b1), .unset, .unset, .unset, .unset, .unset] [(.ref b5), (.ref b5)]))
    refine own_on (fun t k => XS.iload X5.here hx rfl (hb hby at_75) rfl k) ?_
    show OwnGo p e below s _ _ _ (T5.setTop (mkF m 77 #[.val (.int n), .val (.int d), .val (.int n2), .val (.int d2), .val (.int fl), .val (.int z5), .val (.int z6), .val (.int (((fl.toUInt32 >>> ((2 : Int32) &&& 31).toUInt32).toInt32) &&& (3 : Int32))), .val (.int nb), .val (.int db), .val (.ref b1), .unset, .unset, .unset, .unset, .unset] [(.int nb), (.ref b5), (.ref b5)]))
    refine own_on (fun t k => XS.iload X5.here hx rfl (hb hby at_77) rfl k) ?_
    show OwnGo p e below s _ _ _ (T5.setTop (mkF m 79 #[.val (.int n), .val (.int d), .val (.int n2), .val (.int d2), .val (.int fl), .val (.int z5), .val (.int z6), .val (.int (((fl.toUInt32 >>> ((2 : Int32) &&& 31).toUInt32).toInt32) &&& (3 : Int32))), .val (.int nb), .val (.int db), .val (.ref b1), .unset, .unset, .unset, .unset, .unset] [(.int db), (.int nb), (.ref b5), (.ref b5)]))
    obtain ⟨_, _, ⟨T10, L10, k10, n10⟩, -, X10, ⟨Lc10, hQ10, l10, y10, z10⟩, st10⟩ := X5.specialBack hx (y := (⟨"com/example/kembar/kembar/FingerprintIndex$Match", "<init>", "(II)V"⟩ : MethodName)) rfl hown (mvT hZ (w3 hw)) (mvT hZ (w4 hw)) (mvT hZ (w5 hw)) (by decide) (backOf (W := 1) (rm1 l Z a0 hw [] b5 nb db (.int (0 : Int32)) (.int (0 : Int32)) h5 n0 Z5 A5 F5_number F5_distance g8) hZ (w5 hw) (w2 hw) (by decide) (by decide)) (g := (mkF m 79 #[.val (.int n), .val (.int d), .val (.int n2), .val (.int d2), .val (.int fl), .val (.int z5), .val (.int z6), .val (.int (((fl.toUInt32 >>> ((2 : Int32) &&& 31).toUInt32).toInt32) &&& (3 : Int32))), .val (.int nb), .val (.int db), .val (.ref b1), .unset, .unset, .unset, .unset, .unset] [(.int db), (.int nb), (.ref b5), (.ref b5)])) rfl (by rw [hml]; rfl) (Steps.refl _) (a := b5) (argsL := [(.int nb), (.int db)]) (rest := [(.ref b5)]) (lenOf pd_2 rfl) rfl (by show 2 * 0 + _ ≤ _; exact Nat.le_of_eq rfl) (hb hby at_79) (fun _ _ => ⟨rfl, e5, (by decide : 2 + 0 ≤ _), (by decide : 4 + 0 ≤ _)⟩)
    dsimp only [Pt.U, Pt.locs, Pt.cells, Pt.slots] at X10 l10 y10 z10 st10 hQ10
    subst l10 y10 z10
    obtain ⟨rfl, N10q, K10q, c10_0, c10_1, c10_2⟩ := hQ10
    have N10 := Fr.app N4 N10q
    have Z10 : n0 ≤ T10.heap.size := Nat.le_trans Z5 K10q.1
    have K10 : Keep h0 T10.heap [] := K5.trans K10q (allS (P := fun x => x ∈ [] ∨ h0.size ≤ x) (Or.inr z9) all0)
    refine own_tr st10 ?_
    show OwnGo p e below s _ _ _ (T10.setTop (mkF m 82 #[.val (.int n), .val (.int d), .val (.int n2), .val (.int d2), .val (.int fl), .val (.int z5), .val (.int z6), .val (.int (((fl.toUInt32 >>> ((2 : Int32) &&& 31).toUInt32).toInt32) &&& (3 : Int32))), .val (.int nb), .val (.int db), .val (.ref b1), .unset, .unset, .unset, .unset, .unset] [(.ref b5)]))
    refine own_on (fun t k => XS.astore X10.here hx rfl (hb hby at_82) rfl rfl (l' := #[.val (.int n), .val (.int d), .val (.int n2), .val (.int d2), .val (.int fl), .val (.int z5), .val (.int z6), .val (.int (((fl.toUInt32 >>> ((2 : Int32) &&& 31).toUInt32).toInt32) &&& (3 : Int32))), .val (.int nb), .val (.int db), .val (.ref b1), .val (.ref b5), .unset, .unset, .unset, .unset]) rfl k) ?_
    show OwnGo p e below s _ _ _ (T10.setTop (mkF m 84 #[.val (.int n), .val (.int d), .val (.int n2), .val (.int d2), .val (.int fl), .val (.int z5), .val (.int z6), .val (.int (((fl.toUInt32 >>> ((2 : Int32) &&& 31).toUInt32).toInt32) &&& (3 : Int32))), .val (.int nb), .val (.int db), .val (.ref b1), .val (.ref b5), .unset, .unset, .unset, .unset] []))
    refine own_on (fun t k => XS.iload X10.here hx rfl (hb hby at_84) rfl k) ?_
    show OwnGo p e below s _ _ _ (T10.setTop (mkF m 86 #[.val (.int n), .val (.int d), .val (.int n2), .val (.int d2), .val (.int fl), .val (.int z5), .val (.int z6), .val (.int (((fl.toUInt32 >>> ((2 : Int32) &&& 31).toUInt32).toInt32) &&& (3 : Int32))), .val (.int nb), .val (.int db), .val (.ref b1), .val (.ref b5), .unset, .unset, .unset, .unset] [(.int (((fl.toUInt32 >>> ((2 : Int32) &&& 31).toUInt32).toInt32) &&& (3 : Int32)))]))
    by_cases k0 : (((fl.toUInt32 >>> ((2 : Int32) &&& 31).toUInt32).toInt32) &&& (3 : Int32)) = (0 : Int32)
    · refine own_on (fun t k => XS.ifNo X10.here hx rfl (hb hby at_86) rfl ((if0 _ _).trans (teq k0).2) k) ?_
      show OwnGo p e below s _ _ _ (T10.setTop (mkF m 89 #[.val (.int n), .val (.int d), .val (.int n2), .val (.int d2), .val (.int fl), .val (.int z5), .val (.int z6), .val (.int (((fl.toUInt32 >>> ((2 : Int32) &&& 31).toUInt32).toInt32) &&& (3 : Int32))), .val (.int nb), .val (.int db), .val (.ref b1), .val (.ref b5), .unset, .unset, .unset, .unset] []))
      refine own_on (fun t k => XS.aload X10.here hx rfl (hb hby at_89) rfl rfl k) ?_
      show OwnGo p e below s _ _ _ (T10.setTop (mkF m 91 #[.val (.int n), .val (.int d), .val (.int n2), .val (.int d2), .val (.int fl), .val (.int z5), .val (.int z6), .val (.int (((fl.toUInt32 >>> ((2 : Int32) &&& 31).toUInt32).toInt32) &&& (3 : Int32))), .val (.int nb), .val (.int db), .val (.ref b1), .val (.ref b5), .unset, .unset, .unset, .unset] [(.ref b5)]))
      refine own_on (fun t k => XS.astore X10.here hx rfl (hb hby at_91) rfl rfl (l' := #[.val (.int n), .val (.int d), .val (.int n2), .val (.int d2), .val (.int fl), .val (.int z5), .val (.int z6), .val (.int (((fl.toUInt32 >>> ((2 : Int32) &&& 31).toUInt32).toInt32) &&& (3 : Int32))), .val (.int nb), .val (.int db), .val (.ref b1), .val (.ref b5), .val (.ref b5), .unset, .unset, .unset]) rfl k) ?_
      show OwnGo p e below s _ _ _ (T10.setTop (mkF m 93 #[.val (.int n), .val (.int d), .val (.int n2), .val (.int d2), .val (.int fl), .val (.int z5), .val (.int z6), .val (.int (((fl.toUInt32 >>> ((2 : Int32) &&& 31).toUInt32).toInt32) &&& (3 : Int32))), .val (.int nb), .val (.int db), .val (.ref b1), .val (.ref b5), .val (.ref b5), .unset, .unset, .unset] []))
      refine own_on (fun t k => XS.iload X10.here hx rfl (hb hby at_93) rfl k) ?_
      show OwnGo p e below s _ _ _ (T10.setTop (mkF m 95 #[.val (.int n), .val (.int d), .val (.int n2), .val (.int d2), .val (.int fl), .val (.int z5), .val (.int z6), .val (.int (((fl.toUInt32 >>> ((2 : Int32) &&& 31).toUInt32).toInt32) &&& (3 : Int32))), .val (.int nb), .val (.int db), .val (.ref b1), .val (.ref b5), .val (.ref b5), .unset, .unset, .unset] [(.int nb)]))
      refine own_on (fun t k => XS.iloadN X10.here hx rfl (hb hby at_95) rfl k) ?_
      show OwnGo p e below s _ _ _ (T10.setTop (mkF m 96 #[.val (.int n), .val (.int d), .val (.int n2), .val (.int d2), .val (.int fl), .val (.int z5), .val (.int z6), .val (.int (((fl.toUInt32 >>> ((2 : Int32) &&& 31).toUInt32).toInt32) &&& (3 : Int32))), .val (.int nb), .val (.int db), .val (.ref b1), .val (.ref b5), .val (.ref b5), .unset, .unset, .unset] [(.int n), (.int nb)]))
      by_cases e0 : nb = n
      · refine own_on (fun t k => XS.icmpNo X10.here hx rfl (hb hby at_96) rfl (teq e0).2 k) ?_
        show OwnGo p e below s _ _ _ (T10.setTop (mkF m 99 #[.val (.int n), .val (.int d), .val (.int n2), .val (.int d2), .val (.int fl), .val (.int z5), .val (.int z6), .val (.int (((fl.toUInt32 >>> ((2 : Int32) &&& 31).toUInt32).toInt32) &&& (3 : Int32))), .val (.int nb), .val (.int db), .val (.ref b1), .val (.ref b5), .val (.ref b5), .unset, .unset, .unset] []))
        refine own_on (fun t k => XS.iload X10.here hx rfl (hb hby at_99) rfl k) ?_
        show OwnGo p e below s _ _ _ (T10.setTop (mkF m 101 #[.val (.int n), .val (.int d), .val (.int n2), .val (.int d2), .val (.int fl), .val (.int z5), .val (.int z6), .val (.int (((fl.toUInt32 >>> ((2 : Int32) &&& 31).toUInt32).toInt32) &&& (3 : Int32))), .val (.int nb), .val (.int db), .val (.ref b1), .val (.ref b5), .val (.ref b5), .unset, .unset, .unset] [(.int db)]))
        refine own_on (fun t k => XS.iloadN X10.here hx rfl (hb hby at_101) rfl k) ?_
        show OwnGo p e below s _ _ _ (T10.setTop (mkF m 102 #[.val (.int n), .val (.int d), .val (.int n2), .val (.int d2), .val (.int fl), .val (.int z5), .val (.int z6), .val (.int (((fl.toUInt32 >>> ((2 : Int32) &&& 31).toUInt32).toInt32) &&& (3 : Int32))), .val (.int nb), .val (.int db), .val (.ref b1), .val (.ref b5), .val (.ref b5), .unset, .unset, .unset] [(.int d), (.int db)]))
        by_cases e1 : db = d
        · refine own_on (fun t k => XS.icmpNo X10.here hx rfl (hb hby at_102) rfl (teq e1).2 k) ?_
          show OwnGo p e below s _ _ _ (T10.setTop (mkF m 105 #[.val (.int n), .val (.int d), .val (.int n2), .val (.int d2), .val (.int fl), .val (.int z5), .val (.int z6), .val (.int (((fl.toUInt32 >>> ((2 : Int32) &&& 31).toUInt32).toInt32) &&& (3 : Int32))), .val (.int nb), .val (.int db), .val (.ref b1), .val (.ref b5), .val (.ref b5), .unset, .unset, .unset] []))
          refine own_on (fun t k => XS.iconst X10.here hx rfl (hb hby at_105) k) ?_
          show OwnGo p e below s _ _ _ (T10.setTop (mkF m 106 #[.val (.int n), .val (.int d), .val (.int n2), .val (.int d2), .val (.int fl), .val (.int z5), .val (.int z6), .val (.int (((fl.toUInt32 >>> ((2 : Int32) &&& 31).toUInt32).toInt32) &&& (3 : Int32))), .val (.int nb), .val (.int db), .val (.ref b1), .val (.ref b5), .val (.ref b5), .unset, .unset, .unset] [(.int (1 : Int32))]))
          refine own_on (fun t k => XS.goto X10.here hx rfl (pc0 := 106) (pc' := 110) rfl (hb hby at_106) (by decide) (by decide) k) ?_
          show OwnGo p e below s _ _ _ (T10.setTop (mkF m 110 #[.val (.int n), .val (.int d), .val (.int n2), .val (.int d2), .val (.int fl), .val (.int z5), .val (.int z6), .val (.int (((fl.toUInt32 >>> ((2 : Int32) &&& 31).toUInt32).toInt32) &&& (3 : Int32))), .val (.int nb), .val (.int db), .val (.ref b1), .val (.ref b5), .val (.ref b5), .unset, .unset, .unset] [(.int (1 : Int32))]))
          refine own_on (fun t k => XS.istore X10.here hx rfl (hb hby at_110) rfl (l' := #[.val (.int n), .val (.int d), .val (.int n2), .val (.int d2), .val (.int fl), .val (.int z5), .val (.int z6), .val (.int (((fl.toUInt32 >>> ((2 : Int32) &&& 31).toUInt32).toInt32) &&& (3 : Int32))), .val (.int nb), .val (.int db), .val (.ref b1), .val (.ref b5), .val (.ref b5), .val (.int (1 : Int32)), .unset, .unset]) rfl k) ?_
          show OwnGo p e below s _ _ _ (T10.setTop (mkF m 112 #[.val (.int n), .val (.int d), .val (.int n2), .val (.int d2), .val (.int fl), .val (.int z5), .val (.int z6), .val (.int (((fl.toUInt32 >>> ((2 : Int32) &&& 31).toUInt32).toInt32) &&& (3 : Int32))), .val (.int nb), .val (.int db), .val (.ref b1), .val (.ref b5), .val (.ref b5), .val (.int (1 : Int32)), .unset, .unset] []))
          refine own_on (fun t k => XS.goto X10.here hx rfl (pc0 := 112) (pc' := 155) rfl (hb hby at_112) (by decide) (by decide) k) ?_
          show OwnGo p e below s _ _ _ (T10.setTop (mkF m 155 #[.val (.int n), .val (.int d), .val (.int n2), .val (.int d2), .val (.int fl), .val (.int z5), .val (.int z6), .val (.int (((fl.toUInt32 >>> ((2 : Int32) &&& 31).toUInt32).toInt32) &&& (3 : Int32))), .val (.int nb), .val (.int db), .val (.ref b1), .val (.ref b5), .val (.ref b5), .val (.int (1 : Int32)), .unset, .unset] []))
          refine own_on (fun t k => XS.aload X10.here hx rfl (hb hby at_155) rfl rfl k) ?_
          show OwnGo p e below s _ _ _ (T10.setTop (mkF m 157 #[.val (.int n), .val (.int d), .val (.int n2), .val (.int d2), .val (.int fl), .val (.int z5), .val (.int z6), .val (.int (((fl.toUInt32 >>> ((2 : Int32) &&& 31).toUInt32).toInt32) &&& (3 : Int32))), .val (.int nb), .val (.int db), .val (.ref b1), .val (.ref b5), .val (.ref b5), .val (.int (1 : Int32)), .unset, .unset] [(.ref b1)]))
          refine own_on (fun t k => XS.aload X10.here hx rfl (hb hby at_157) rfl rfl k) ?_
          show OwnGo p e below s _ _ _ (T10.setTop (mkF m 159 #[.val (.int n), .val (.int d), .val (.int n2), .val (.int d2), .val (.int fl), .val (.int z5), .val (.int z6), .val (.int (((fl.toUInt32 >>> ((2 : Int32) &&& 31).toUInt32).toInt32) &&& (3 : Int32))), .val (.int nb), .val (.int db), .val (.ref b1), .val (.ref b5), .val (.ref b5), .val (.int (1 : Int32)), .unset, .unset] [(.ref b5), (.ref b1)]))
          have f11 : Exa Z h5 b1 "com/example/kembar/kembar/FingerprintIndex$Match" := c4_0.ext E5
          have f12 : Exa Z T10.heap b1 "com/example/kembar/kembar/FingerprintIndex$Match" := f11.keep K10q
          have f13 : Fld Z h5 b1 "com/example/kembar/kembar/FingerprintIndex$Match" "number" "I" (.int n) := c4_1.ext E5
          have f14 : Fld Z T10.heap b1 "com/example/kembar/kembar/FingerprintIndex$Match" "number" "I" (.int n) := f13.keep K10q (ninS ne7 nin0)
          have f15 : Fld Z h5 b1 "com/example/kembar/kembar/FingerprintIndex$Match" "distance" "I" (.int d) := c4_2.ext E5
          have f16 : Fld Z T10.heap b1 "com/example/kembar/kembar/FingerprintIndex$Match" "distance" "I" (.int d) := f15.keep K10q (ninS ne7 nin0)
          obtain ⟨cq17, kq17, q17a, q17b, q17c⟩ := isOf hZ rfl f12
          obtain ⟨_, _, ⟨T17, L17, k17, n17⟩, -, X17, ⟨Lc17, hQ17, l17, y17, z17⟩, st17⟩ := X10.virtualBack hx (y := (⟨"com/example/kembar/kembar/FingerprintIndex$Match", "equals", "(Ljava/lang/Object;)Z"⟩ : MethodName)) (z := (⟨"com/example/kembar/kembar/FingerprintIndex$Match", "equals", "(Ljava/lang/Object;)Z"⟩ : MethodName)) hown (mvT hZ (w13 hw)) (mvT hZ (w14 hw)) (notFace_of_selects (args := #[]) (mvT hZ (w16 hw))) (mvT hZ (w16 hw)) (mvT hZ (w15 hw)) (by decide) (backOf (W := 0) (rmeqM l Z a0 hw [] b1 b5 n d nb db T10.heap n0 Z10 f12 c10_0 f14 f16 c10_1 c10_2) hZ (w17 hw) (w2 hw) (by decide) (by decide)) q17a q17c (g := (mkF m 159 #[.val (.int n), .val (.int d), .val (.int n2), .val (.int d2), .val (.int fl), .val (.int z5), .val (.int z6), .val (.int (((fl.toUInt32 >>> ((2 : Int32) &&& 31).toUInt32).toInt32) &&& (3 : Int32))), .val (.int nb), .val (.int db), .val (.ref b1), .val (.ref b5), .val (.ref b5), .val (.int (1 : Int32)), .unset, .unset] [(.ref b5), (.ref b1)])) rfl (by rw [hml]; rfl) (Steps.refl _) (argsL := [(.ref b5)]) (rest := []) (lenOf pd_3 rfl) rfl (by show 2 * 0 + _ ≤ _; exact Nat.le_of_eq rfl) (hb hby at_159) (fun _ _ => ⟨rfl, rfl, (by decide : 2 + 0 ≤ _), (by decide : 4 + 0 ≤ _)⟩)
          dsimp only [Pt.U, Pt.locs, Pt.cells, Pt.slots] at X17 l17 y17 z17 st17 hQ17
          subst l17 y17 z17
          obtain ⟨rfl, N17q, e17⟩ := hQ17
          have N17 := Fr.app N10 N17q
          refine own_tr st17 ?_
          show OwnGo p e below s _ _ _ (T17.setTop (mkF m 162 #[.val (.int n), .val (.int d), .val (.int n2), .val (.int d2), .val (.int fl), .val (.int z5), .val (.int z6), .val (.int (((fl.toUInt32 >>> ((2 : Int32) &&& 31).toUInt32).toInt32) &&& (3 : Int32))), .val (.int nb), .val (.int db), .val (.ref b1), .val (.ref b5), .val (.ref b5), .val (.int (1 : Int32)), .unset, .unset] [(.int (own_me n d nb db))]))
          rw [show (own_me n d nb db) = (1 : Int32) from (by simp [own_me, *])]
          show OwnGo p e below s _ _ _ (T17.setTop (mkF m 162 #[.val (.int n), .val (.int d), .val (.int n2), .val (.int d2), .val (.int fl), .val (.int z5), .val (.int z6), .val (.int (((fl.toUInt32 >>> ((2 : Int32) &&& 31).toUInt32).toInt32) &&& (3 : Int32))), .val (.int nb), .val (.int db), .val (.ref b1), .val (.ref b5), .val (.ref b5), .val (.int (1 : Int32)), .unset, .unset] [(.int (1 : Int32))]))
          refine own_on (fun t k => XS.istore X17.here hx rfl (hb hby at_162) rfl (l' := #[.val (.int n), .val (.int d), .val (.int n2), .val (.int d2), .val (.int fl), .val (.int z5), .val (.int z6), .val (.int (((fl.toUInt32 >>> ((2 : Int32) &&& 31).toUInt32).toInt32) &&& (3 : Int32))), .val (.int nb), .val (.int db), .val (.ref b1), .val (.ref b5), .val (.ref b5), .val (.int (1 : Int32)), .val (.int (1 : Int32)), .unset]) rfl k) ?_
          show OwnGo p e below s _ _ _ (T17.setTop (mkF m 164 #[.val (.int n), .val (.int d), .val (.int n2), .val (.int d2), .val (.int fl), .val (.int z5), .val (.int z6), .val (.int (((fl.toUInt32 >>> ((2 : Int32) &&& 31).toUInt32).toInt32) &&& (3 : Int32))), .val (.int nb), .val (.int db), .val (.ref b1), .val (.ref b5), .val (.ref b5), .val (.int (1 : Int32)), .val (.int (1 : Int32)), .unset] []))
          refine own_on (fun t k => XS.iload X17.here hx rfl (hb hby at_164) rfl k) ?_
          show OwnGo p e below s _ _ _ (T17.setTop (mkF m 166 #[.val (.int n), .val (.int d), .val (.int n2), .val (.int d2), .val (.int fl), .val (.int z5), .val (.int z6), .val (.int (((fl.toUInt32 >>> ((2 : Int32) &&& 31).toUInt32).toInt32) &&& (3 : Int32))), .val (.int nb), .val (.int db), .val (.ref b1), .val (.ref b5), .val (.ref b5), .val (.int (1 : Int32)), .val (.int (1 : Int32)), .unset] [(.int (((fl.toUInt32 >>> ((2 : Int32) &&& 31).toUInt32).toInt32) &&& (3 : Int32)))]))
          refine own_on (fun t k => XS.ifNo X17.here hx rfl (hb hby at_166) rfl ((if0 _ _).trans (teq k0).2) k) ?_
          show OwnGo p e below s _ _ _ (T17.setTop (mkF m 169 #[.val (.int n), .val (.int d), .val (.int n2), .val (.int d2), .val (.int fl), .val (.int z5), .val (.int z6), .val (.int (((fl.toUInt32 >>> ((2 : Int32) &&& 31).toUInt32).toInt32) &&& (3 : Int32))), .val (.int nb), .val (.int db), .val (.ref b1), .val (.ref b5), .val (.ref b5), .val (.int (1 : Int32)), .val (.int (1 : Int32)), .unset] []))
          refine own_on (fun t k => XS.aload X17.here hx rfl (hb hby at_169) rfl rfl k) ?_
          show OwnGo p e below s _ _ _ (T17.setTop (mkF m 171 #[.val (.int n), .val (.int d), .val (.int n2), .val (.int d2), .val (.int fl), .val (.int z5), .val (.int z6), .val (.int (((fl.toUInt32 >>> ((2 : Int32) &&& 31).toUInt32).toInt32) &&& (3 : Int32))), .val (.int nb), .val (.int db), .val (.ref b1), .val (.ref b5), .val (.ref b5), .val (.int (1 : Int32)), .val (.int (1 : Int32)), .unset] [(.ref b5)]))
          refine own_on (fun t k => XS.aload X17.here hx rfl (hb hby at_171) rfl rfl k) ?_
          show OwnGo p e below s _ _ _ (T17.setTop (mkF m 173 #[.val (.int n), .val (.int d), .val (.int n2), .val (.int d2), .val (.int fl), .val (.int z5), .val (.int z6), .val (.int (((fl.toUInt32 >>> ((2 : Int32) &&& 31).toUInt32).toInt32) &&& (3 : Int32))), .val (.int nb), .val (.int db), .val (.ref b1), .val (.ref b5), .val (.ref b5), .val (.int (1 : Int32)), .val (.int (1 : Int32)), .unset] [(.ref b1), (.ref b5)]))
          obtain ⟨cq18, kq18, q18a, q18b, q18c⟩ := isOf hZ e17 c10_0
          obtain ⟨_, _, ⟨T18, L18, k18, n18⟩, -, X18, ⟨Lc18, hQ18, l18, y18, z18⟩, st18⟩ := X17.virtualBack hx (y := (⟨"com/example/kembar/kembar/FingerprintIndex$Match", "equals", "(Ljava/lang/Object;)Z"⟩ : MethodName)) (z := (⟨"com/example/kembar/kembar/FingerprintIndex$Match", "equals", "(Ljava/lang/Object;)Z"⟩ : MethodName)) hown (mvT hZ (w13 hw)) (mvT hZ (w14 hw)) (notFace_of_selects (args := #[]) (mvT hZ (w16 hw))) (mvT hZ (w16 hw)) (mvT hZ (w15 hw)) (by decide) (backOf (W := 0) (rmeqM l Z a0 hw [] b5 b1 nb db n d T10.heap n0 Z10 c10_0 f12 c10_1 c10_2 f14 f16) hZ (w17 hw) (w2 hw) (by decide) (by decide)) q18a q18c (g := (mkF m 173 #[.val (.int n), .val (.int d), .val (.int n2), .val (.int d2), .val (.int fl), .val (.int z5), .val (.int z6), .val (.int (((fl.toUInt32 >>> ((2 : Int32) &&& 31).toUInt32).toInt32) &&& (3 : Int32))), .val (.int nb), .val (.int db), .val (.ref b1), .val (.ref b5), .val (.ref b5), .val (.int (1 : Int32)), .val (.int (1 : Int32)), .unset] [(.ref b1), (.ref b5)])) rfl (by rw [hml]; rfl) (Steps.refl _) (argsL := [(.ref b1)]) (rest := []) (lenOf pd_3 rfl) rfl (by show 2 * 0 + _ ≤ _; exact Nat.le_of_eq rfl) (hb hby at_173) (fun _ _ => ⟨rfl, e17, (by decide : 2 + 0 ≤ _), (by decide : 4 + 0 ≤ _)⟩)
          dsimp only [Pt.U, Pt.locs, Pt.cells, Pt.slots] at X18 l18 y18 z18 st18 hQ18
          subst l18 y18 z18
          obtain ⟨rfl, N18q, e18⟩ := hQ18
          have N18 := Fr.app N17 N18q
          refine own_tr st18 ?_
          show OwnGo p e below s _ _ _ (T18.setTop (mkF m 176 #[.val (.int n), .val (.int d), .val (.int n2), .val (.int d2), .val (.int fl), .val (.int z5), .val (.int z6), .val (.int (((fl.toUInt32 >>> ((2 : Int32) &&& 31).toUInt32).toInt32) &&& (3 : Int32))), .val (.int nb), .val (.int db), .val (.ref b1), .val (.ref b5), .val (.ref b5), .val (.int (1 : Int32)), .val (.int (1 : Int32)), .unset] [(.int (own_me nb db n d))]))
          rw [show (own_me nb db n d) = (1 : Int32) from (by simp [own_me, *])]
          show OwnGo p e below s _ _ _ (T18.setTop (mkF m 176 #[.val (.int n), .val (.int d), .val (.int n2), .val (.int d2), .val (.int fl), .val (.int z5), .val (.int z6), .val (.int (((fl.toUInt32 >>> ((2 : Int32) &&& 31).toUInt32).toInt32) &&& (3 : Int32))), .val (.int nb), .val (.int db), .val (.ref b1), .val (.ref b5), .val (.ref b5), .val (.int (1 : Int32)), .val (.int (1 : Int32)), .unset] [(.int (1 : Int32))]))
          refine own_on (fun t k => XS.iload X18.here hx rfl (hb hby at_176) rfl k) ?_
          show OwnGo p e below s _ _ _ (T18.setTop (mkF m 178 #[.val (.int n), .val (.int d), .val (.int n2), .val (.int d2), .val (.int fl), .val (.int z5), .val (.int z6), .val (.int (((fl.toUInt32 >>> ((2 : Int32) &&& 31).toUInt32).toInt32) &&& (3 : Int32))), .val (.int nb), .val (.int db), .val (.ref b1), .val (.ref b5), .val (.ref b5), .val (.int (1 : Int32)), .val (.int (1 : Int32)), .unset] [(.int (1 : Int32)), (.int (1 : Int32))]))
          refine own_on (fun t k => XS.icmpNo X18.here hx rfl (hb hby at_178) rfl (teq (by decide : (1 : Int32) = (1 : Int32))).2 k) ?_
          show OwnGo p e below s _ _ _ (T18.setTop (mkF m 181 #[.val (.int n), .val (.int d), .val (.int n2), .val (.int d2), .val (.int fl), .val (.int z5), .val (.int z6), .val (.int (((fl.toUInt32 >>> ((2 : Int32) &&& 31).toUInt32).toInt32) &&& (3 : Int32))), .val (.int nb), .val (.int db), .val (.ref b1), .val (.ref b5), .val (.ref b5), .val (.int (1 : Int32)), .val (.int (1 : Int32)), .unset] []))
          refine own_on (fun t k => XS.iconst X18.here hx rfl (hb hby at_181) k) ?_
          show OwnGo p e below s _ _ _ (T18.setTop (mkF m 182 #[.val (.int n), .val (.int d), .val (.int n2), .val (.int d2), .val (.int fl), .val (.int z5), .val (.int z6), .val (.int (((fl.toUInt32 >>> ((2 : Int32) &&& 31).toUInt32).toInt32) &&& (3 : Int32))), .val (.int nb), .val (.int db), .val (.ref b1), .val (.ref b5), .val (.ref b5), .val (.int (1 : Int32)), .val (.int (1 : Int32)), .unset] [(.int (1 : Int32))]))
          refine own_on (fun t k => XS.goto X18.here hx rfl (pc0 := 182) (pc' := 186) rfl (hb hby at_182) (by decide) (by decide) k) ?_
          show OwnGo p e below s _ _ _ (T18.setTop (mkF m 186 #[.val (.int n), .val (.int d), .val (.int n2), .val (.int d2), .val (.int fl), .val (.int z5), .val (.int z6), .val (.int (((fl.toUInt32 >>> ((2 : Int32) &&& 31).toUInt32).toInt32) &&& (3 : Int32))), .val (.int nb), .val (.int db), .val (.ref b1), .val (.ref b5), .val (.ref b5), .val (.int (1 : Int32)), .val (.int (1 : Int32)), .unset] [(.int (1 : Int32))]))
          refine own_on (fun t k => XS.istore X18.here hx rfl (hb hby at_186) rfl (l' := #[.val (.int n), .val (.int d), .val (.int n2), .val (.int d2), .val (.int fl), .val (.int z5), .val (.int z6), .val (.int (((fl.toUInt32 >>> ((2 : Int32) &&& 31).toUInt32).toInt32) &&& (3 : Int32))), .val (.int nb), .val (.int db), .val (.ref b1), .val (.ref b5), .val (.ref b5), .val (.int (1 : Int32)), .val (.int (1 : Int32)), .val (.int (1 : Int32))]) rfl k) ?_
          show OwnGo p e below s _ _ _ (T18.setTop (mkF m 188 #[.val (.int n), .val (.int d), .val (.int n2), .val (.int d2), .val (.int fl), .val (.int z5), .val (.int z6), .val (.int (((fl.toUInt32 >>> ((2 : Int32) &&& 31).toUInt32).toInt32) &&& (3 : Int32))), .val (.int nb), .val (.int db), .val (.ref b1), .val (.ref b5), .val (.ref b5), .val (.int (1 : Int32)), .val (.int (1 : Int32)), .val (.int (1 : Int32))] []))
          refine own_on (fun t k => XS.iload X18.here hx rfl (hb hby at_188) rfl k) ?_
          show OwnGo p e below s _ _ _ (T18.setTop (mkF m 190 #[.val (.int n), .val (.int d), .val (.int n2), .val (.int d2), .val (.int fl), .val (.int z5), .val (.int z6), .val (.int (((fl.toUInt32 >>> ((2 : Int32) &&& 31).toUInt32).toInt32) &&& (3 : Int32))), .val (.int nb), .val (.int db), .val (.ref b1), .val (.ref b5), .val (.ref b5), .val (.int (1 : Int32)), .val (.int (1 : Int32)), .val (.int (1 : Int32))] [(.int (1 : Int32))]))
          refine own_on (fun t k => XS.iload X18.here hx rfl (hb hby at_190) rfl k) ?_
          show OwnGo p e below s _ _ _ (T18.setTop (mkF m 192 #[.val (.int n), .val (.int d), .val (.int n2), .val (.int d2), .val (.int fl), .val (.int z5), .val (.int z6), .val (.int (((fl.toUInt32 >>> ((2 : Int32) &&& 31).toUInt32).toInt32) &&& (3 : Int32))), .val (.int nb), .val (.int db), .val (.ref b1), .val (.ref b5), .val (.ref b5), .val (.int (1 : Int32)), .val (.int (1 : Int32)), .val (.int (1 : Int32))] [(.int (1 : Int32)), (.int (1 : Int32))]))
          refine own_on (fun t k => XS.icmpNo X18.here hx rfl (hb hby at_192) rfl (teq (by decide : (1 : Int32) = (1 : Int32))).2 k) ?_
          show OwnGo p e below s _ _ _ (T18.setTop (mkF m 195 #[.val (.int n), .val (.int d), .val (.int n2), .val (.int d2), .val (.int fl), .val (.int z5), .val (.int z6), .val (.int (((fl.toUInt32 >>> ((2 : Int32) &&& 31).toUInt32).toInt32) &&& (3 : Int32))), .val (.int nb), .val (.int db), .val (.ref b1), .val (.ref b5), .val (.ref b5), .val (.int (1 : Int32)), .val (.int (1 : Int32)), .val (.int (1 : Int32))] []))
          refine own_on (fun t k => XS.iload X18.here hx rfl (hb hby at_195) rfl k) ?_
          show OwnGo p e below s _ _ _ (T18.setTop (mkF m 197 #[.val (.int n), .val (.int d), .val (.int n2), .val (.int d2), .val (.int fl), .val (.int z5), .val (.int z6), .val (.int (((fl.toUInt32 >>> ((2 : Int32) &&& 31).toUInt32).toInt32) &&& (3 : Int32))), .val (.int nb), .val (.int db), .val (.ref b1), .val (.ref b5), .val (.ref b5), .val (.int (1 : Int32)), .val (.int (1 : Int32)), .val (.int (1 : Int32))] [(.int (1 : Int32))]))
          refine own_on (fun t k => XS.ifNo X18.here hx rfl (hb hby at_197) rfl ((if0 _ _).trans (feq (by decide : ¬ ((1 : Int32) = (0 : Int32)))).1) k) ?_
          show OwnGo p e below s _ _ _ (T18.setTop (mkF m 200 #[.val (.int n), .val (.int d), .val (.int n2), .val (.int d2), .val (.int fl), .val (.int z5), .val (.int z6), .val (.int (((fl.toUInt32 >>> ((2 : Int32) &&& 31).toUInt32).toInt32) &&& (3 : Int32))), .val (.int nb), .val (.int db), .val (.ref b1), .val (.ref b5), .val (.ref b5), .val (.int (1 : Int32)), .val (.int (1 : Int32)), .val (.int (1 : Int32))] []))
          refine own_on (fun t k => XS.iconst X18.here hx rfl (hb hby at_200) k) ?_
          show OwnGo p e below s _ _ _ (T18.setTop (mkF m 201 #[.val (.int n), .val (.int d), .val (.int n2), .val (.int d2), .val (.int fl), .val (.int z5), .val (.int z6), .val (.int (((fl.toUInt32 >>> ((2 : Int32) &&& 31).toUInt32).toInt32) &&& (3 : Int32))), .val (.int nb), .val (.int db), .val (.ref b1), .val (.ref b5), .val (.ref b5), .val (.int (1 : Int32)), .val (.int (1 : Int32)), .val (.int (1 : Int32))] [(.int (1 : Int32))]))
          refine own_on (fun t k => XS.goto X18.here hx rfl (pc0 := 201) (pc' := 205) rfl (hb hby at_201) (by decide) (by decide) k) ?_
          show OwnGo p e below s _ _ _ (T18.setTop (mkF m 205 #[.val (.int n), .val (.int d), .val (.int n2), .val (.int d2), .val (.int fl), .val (.int z5), .val (.int z6), .val (.int (((fl.toUInt32 >>> ((2 : Int32) &&& 31).toUInt32).toInt32) &&& (3 : Int32))), .val (.int nb), .val (.int db), .val (.ref b1), .val (.ref b5), .val (.ref b5), .val (.int (1 : Int32)), .val (.int (1 : Int32)), .val (.int (1 : Int32))] [(.int (1 : Int32))]))
          exact own_retN X18 hx hlk (t := .boolean) Bd.returns (by simp) (hb hby at_205) e18 ⟨rfl, N18, K10⟩ (by decide) (by decide)
        · refine own_on (fun t k => XS.icmpYes X10.here hx rfl (pc0 := 102) (pc' := 109) rfl (hb hby at_102) rfl (feq e1).2 (by decide) (by decide) k) ?_
          show OwnGo p e below s _ _ _ (T10.setTop (mkF m 109 #[.val (.int n), .val (.int d), .val (.int n2), .val (.int d2), .val (.int fl), .val (.int z5), .val (.int z6), .val (.int (((fl.toUInt32 >>> ((2 : Int32) &&& 31).toUInt32).toInt32) &&& (3 : Int32))), .val (.int nb), .val (.int db), .val (.ref b1), .val (.ref b5), .val (.ref b5), .unset, .unset, .unset] []))
          refine own_on (fun t k => XS.iconst X10.here hx rfl (hb hby at_109) k) ?_
          show OwnGo p e below s _ _ _ (T10.setTop (mkF m 110 #[.val (.int n), .val (.int d), .val (.int n2), .val (.int d2), .val (.int fl), .val (.int z5), .val (.int z6), .val (.int (((fl.toUInt32 >>> ((2 : Int32) &&& 31).toUInt32).toInt32) &&& (3 : Int32))), .val (.int nb), .val (.int db), .val (.ref b1), .val (.ref b5), .val (.ref b5), .unset, .unset, .unset] [(.int (0 : Int32))]))
          refine own_on (fun t k => XS.istore X10.here hx rfl (hb hby at_110) rfl (l' := #[.val (.int n), .val (.int d), .val (.int n2), .val (.int d2), .val (.int fl), .val (.int z5), .val (.int z6), .val (.int (((fl.toUInt32 >>> ((2 : Int32) &&& 31).toUInt32).toInt32) &&& (3 : Int32))), .val (.int nb), .val (.int db), .val (.ref b1), .val (.ref b5), .val (.ref b5), .val (.int (0 : Int32)), .unset, .unset]) rfl k) ?_
          show OwnGo p e below s _ _ _ (T10.setTop (mkF m 112 #[.val (.int n), .val (.int d), .val (.int n2), .val (.int d2), .val (.int fl), .val (.int z5), .val (.int z6), .val (.int (((fl.toUInt32 >>> ((2 : Int32) &&& 31).toUInt32).toInt32) &&& (3 : Int32))), .val (.int nb), .val (.int db), .val (.ref b1), .val (.ref b5), .val (.ref b5), .val (.int (0 : Int32)), .unset, .unset] []))
          refine own_on (fun t k => XS.goto X10.here hx rfl (pc0 := 112) (pc' := 155) rfl (hb hby at_112) (by decide) (by decide) k) ?_
          show OwnGo p e below s _ _ _ (T10.setTop (mkF m 155 #[.val (.int n), .val (.int d), .val (.int n2), .val (.int d2), .val (.int fl), .val (.int z5), .val (.int z6), .val (.int (((fl.toUInt32 >>> ((2 : Int32) &&& 31).toUInt32).toInt32) &&& (3 : Int32))), .val (.int nb), .val (.int db), .val (.ref b1), .val (.ref b5), .val (.ref b5), .val (.int (0 : Int32)), .unset, .unset] []))
          refine own_on (fun t k => XS.aload X10.here hx rfl (hb hby at_155) rfl rfl k) ?_
          show OwnGo p e below s _ _ _ (T10.setTop (mkF m 157 #[.val (.int n), .val (.int d), .val (.int n2), .val (.int d2), .val (.int fl), .val (.int z5), .val (.int z6), .val (.int (((fl.toUInt32 >>> ((2 : Int32) &&& 31).toUInt32).toInt32) &&& (3 : Int32))), .val (.int nb), .val (.int db), .val (.ref b1), .val (.ref b5), .val (.ref b5), .val (.int (0 : Int32)), .unset, .unset] [(.ref b1)]))
          refine own_on (fun t k => XS.aload X10.here hx rfl (hb hby at_157) rfl rfl k) ?_
          show OwnGo p e below s _ _ _ (T10.setTop (mkF m 159 #[.val (.int n), .val (.int d), .val (.int n2), .val (.int d2), .val (.int fl), .val (.int z5), .val (.int z6), .val (.int (((fl.toUInt32 >>> ((2 : Int32) &&& 31).toUInt32).toInt32) &&& (3 : Int32))), .val (.int nb), .val (.int db), .val (.ref b1), .val (.ref b5), .val (.ref b5), .val (.int (0 : Int32)), .unset, .unset] [(.ref b5), (.ref b1)]))
          have f19 : Exa Z h5 b1 "com/example/kembar/kembar/FingerprintIndex$Match" := c4_0.ext E5
          have f20 : Exa Z T10.heap b1 "com/example/kembar/kembar/FingerprintIndex$Match" := f19.keep K10q
          have f21 : Fld Z h5 b1 "com/example/kembar/kembar/FingerprintIndex$Match" "number" "I" (.int n) := c4_1.ext E5
          have f22 : Fld Z T10.heap b1 "com/example/kembar/kembar/FingerprintIndex$Match" "number" "I" (.int n) := f21.keep K10q (ninS ne7 nin0)
          have f23 : Fld Z h5 b1 "com/example/kembar/kembar/FingerprintIndex$Match" "distance" "I" (.int d) := c4_2.ext E5
          have f24 : Fld Z T10.heap b1 "com/example/kembar/kembar/FingerprintIndex$Match" "distance" "I" (.int d) := f23.keep K10q (ninS ne7 nin0)
          obtain ⟨cq25, kq25, q25a, q25b, q25c⟩ := isOf hZ rfl f20
          obtain ⟨_, _, ⟨T25, L25, k25, n25⟩, -, X25, ⟨Lc25, hQ25, l25, y25, z25⟩, st25⟩ := X10.virtualBack hx (y := (⟨"com/example/kembar/kembar/FingerprintIndex$Match", "equals", "(Ljava/lang/Object;)Z"⟩ : MethodName)) (z := (⟨"com/example/kembar/kembar/FingerprintIndex$Match", "equals", "(Ljava/lang/Object;)Z"⟩ : MethodName)) hown (mvT hZ (w13 hw)) (mvT hZ (w14 hw)) (notFace_of_selects (args := #[]) (mvT hZ (w16 hw))) (mvT hZ (w16 hw)) (mvT hZ (w15 hw)) (by decide) (backOf (W := 0) (rmeqM l Z a0 hw [] b1 b5 n d nb db T10.heap n0 Z10 f20 c10_0 f22 f24 c10_1 c10_2) hZ (w17 hw) (w2 hw) (by decide) (by decide)) q25a q25c (g := (mkF m 159 #[.val (.int n), .val (.int d), .val (.int n2), .val (.int d2), .val (.int fl), .val (.int z5), .val (.int z6), .val (.int (((fl.toUInt32 >>> ((2 : Int32) &&& 31).toUInt32).toInt32) &&& (3 : Int32))), .val (.int nb), .val (.int db), .val (.ref b1), .val (.ref b5), .val (.ref b5), .val (.int (0 : Int32)), .unset, .unset] [(.ref b5), (.ref b1)])) rfl (by rw [hml]; rfl) (Steps.refl _) (argsL := [(.ref b5)]) (rest := []) (lenOf pd_3 rfl) rfl (by show 2 * 0 + _ ≤ _; exact Nat.le_of_eq rfl) (hb hby at_159) (fun _ _ => ⟨rfl, rfl, (by decide : 2 + 0 ≤ _), (by decide : 4 + 0 ≤ _)⟩)
          dsimp only [Pt.U, Pt.locs, Pt.cells, Pt.slots] at X25 l25 y25 z25 st25 hQ25
          subst l25 y25 z25
          obtain ⟨rfl, N25q, e25⟩ := hQ25
          have N25 := Fr.app N10 N25q
          refine own_tr st25 ?_
          show OwnGo p e below s _ _ _ (T25.setTop (mkF m 162 #[.val (.int n), .val (.int d), .val (.int n2), .val (.int d2), .val (.int fl), .val (.int z5), .val (.int z6), .val (.int (((fl.toUInt32 >>> ((2 : Int32) &&& 31).toUInt32).toInt32) &&& (3 : Int32))), .val (.int nb), .val (.int db), .val (.ref b1), .val (.ref b5), .val (.ref b5), .val (.int (0 : Int32)), .unset, .unset] [(.int (own_me n d nb db))]))
          rw [show (own_me n d nb db) = (0 : Int32) from (by simp [own_me, *])]
          show OwnGo p e below s _ _ _ (T25.setTop (mkF m 162 #[.val (.int n), .val (.int d), .val (.int n2), .val (.int d2), .val (.int fl), .val (.int z5), .val (.int z6), .val (.int (((fl.toUInt32 >>> ((2 : Int32) &&& 31).toUInt32).toInt32) &&& (3 : Int32))), .val (.int nb), .val (.int db), .val (.ref b1), .val (.ref b5), .val (.ref b5), .val (.int (0 : Int32)), .unset, .unset] [(.int (0 : Int32))]))
          refine own_on (fun t k => XS.istore X25.here hx rfl (hb hby at_162) rfl (l' := #[.val (.int n), .val (.int d), .val (.int n2), .val (.int d2), .val (.int fl), .val (.int z5), .val (.int z6), .val (.int (((fl.toUInt32 >>> ((2 : Int32) &&& 31).toUInt32).toInt32) &&& (3 : Int32))), .val (.int nb), .val (.int db), .val (.ref b1), .val (.ref b5), .val (.ref b5), .val (.int (0 : Int32)), .val (.int (0 : Int32)), .unset]) rfl k) ?_
          show OwnGo p e below s _ _ _ (T25.setTop (mkF m 164 #[.val (.int n), .val (.int d), .val (.int n2), .val (.int d2), .val (.int fl), .val (.int z5), .val (.int z6), .val (.int (((fl.toUInt32 >>> ((2 : Int32) &&& 31).toUInt32).toInt32) &&& (3 : Int32))), .val (.int nb), .val (.int db), .val (.ref b1), .val (.ref b5), .val (.ref b5), .val (.int (0 : Int32)), .val (.int (0 : Int32)), .unset] []))
          refine own_on (fun t k => XS.iload X25.here hx rfl (hb hby at_164) rfl k) ?_
          show OwnGo p e below s _ _ _ (T25.setTop (mkF m 166 #[.val (.int n), .val (.int d), .val (.int n2), .val (.int d2), .val (.int fl), .val (.int z5), .val (.int z6), .val (.int (((fl.toUInt32 >>> ((2 : Int32) &&& 31).toUInt32).toInt32) &&& (3 : Int32))), .val (.int nb), .val (.int db), .val (.ref b1), .val (.ref b5), .val (.ref b5), .val (.int (0 : Int32)), .val (.int (0 : Int32)), .unset] [(.int (((fl.toUInt32 >>> ((2 : Int32) &&& 31).toUInt32).toInt32) &&& (3 : Int32)))]))
          refine own_on (fun t k => XS.ifNo X25.here hx rfl (hb hby at_166) rfl ((if0 _ _).trans (teq k0).2) k) ?_
          show OwnGo p e below s _ _ _ (T25.setTop (mkF m 169 #[.val (.int n), .val (.int d), .val (.int n2), .val (.int d2), .val (.int fl), .val (.int z5), .val (.int z6), .val (.int (((fl.toUInt32 >>> ((2 : Int32) &&& 31).toUInt32).toInt32) &&& (3 : Int32))), .val (.int nb), .val (.int db), .val (.ref b1), .val (.ref b5), .val (.ref b5), .val (.int (0 : Int32)), .val (.int (0 : Int32)), .unset] []))
          refine own_on (fun t k => XS.aload X25.here hx rfl (hb hby at_169) rfl rfl k) ?_
          show OwnGo p e below s _ _ _ (T25.setTop (mkF m 171 #[.val (.int n), .val (.int d), .val (.int n2), .val (.int d2), .val (.int fl), .val (.int z5), .val (.int z6), .val (.int (((fl.toUInt32 >>> ((2 : Int32) &&& 31).toUInt32).toInt32) &&& (3 : Int32))), .val (.int nb), .val (.int db), .val (.ref b1), .val (.ref b5), .val (.ref b5), .val (.int (0 : Int32)), .val (.int (0 : Int32)), .unset] [(.ref b5)]))
          refine own_on (fun t k => XS.aload X25.here hx rfl (hb hby at_171) rfl rfl k) ?_
          show OwnGo p e below s _ _ _ (T25.setTop (mkF m 173 #[.val (.int n), .val (.int d), .val (.int n2), .val (.int d2), .val (.int fl), .val (.int z5), .val (.int z6), .val (.int (((fl.toUInt32 >>> ((2 : Int32) &&& 31).toUInt32).toInt32) &&& (3 : Int32))), .val (.int nb), .val (.int db), .val (.ref b1), .val (.ref b5), .val (.ref b5), .val (.int (0 : Int32)), .val (.int (0 : Int32)), .unset] [(.ref b1), (.ref b5)]))
          obtain ⟨cq26, kq26, q26a, q26b, q26c⟩ := isOf hZ e25 c10_0
          obtain ⟨_, _, ⟨T26, L26, k26, n26⟩, -, X26, ⟨Lc26, hQ26, l26, y26, z26⟩, st26⟩ := X25.virtualBack hx (y := (⟨"com/example/kembar/kembar/FingerprintIndex$Match", "equals", "(Ljava/lang/Object;)Z"⟩ : MethodName)) (z := (⟨"com/example/kembar/kembar/FingerprintIndex$Match", "equals", "(Ljava/lang/Object;)Z"⟩ : MethodName)) hown (mvT hZ (w13 hw)) (mvT hZ (w14 hw)) (notFace_of_selects (args := #[]) (mvT hZ (w16 hw))) (mvT hZ (w16 hw)) (mvT hZ (w15 hw)) (by decide) (backOf (W := 0) (rmeqM l Z a0 hw [] b5 b1 nb db n d T10.heap n0 Z10 c10_0 f20 c10_1 c10_2 f22 f24) hZ (w17 hw) (w2 hw) (by decide) (by decide)) q26a q26c (g := (mkF m 173 #[.val (.int n), .val (.int d), .val (.int n2), .val (.int d2), .val (.int fl), .val (.int z5), .val (.int z6), .val (.int (((fl.toUInt32 >>> ((2 : Int32) &&& 31).toUInt32).toInt32) &&& (3 : Int32))), .val (.int nb), .val (.int db), .val (.ref b1), .val (.ref b5), .val (.ref b5), .val (.int (0 : Int32)), .val (.int (0 : Int32)), .unset] [(.ref b1), (.ref b5)])) rfl (by rw [hml]; rfl) (Steps.refl _) (argsL := [(.ref b1)]) (rest := []) (lenOf pd_3 rfl) rfl (by show 2 * 0 + _ ≤ _; exact Nat.le_of_eq rfl) (hb hby at_173) (fun _ _ => ⟨rfl, e25, (by decide : 2 + 0 ≤ _), (by decide : 4 + 0 ≤ _)⟩)
          dsimp only [Pt.U, Pt.locs, Pt.cells, Pt.slots] at X26 l26 y26 z26 st26 hQ26
          subst l26 y26 z26
          obtain ⟨rfl, N26q, e26⟩ := hQ26
          have N26 := Fr.app N25 N26q
          refine own_tr st26 ?_
          show OwnGo p e below s _ _ _ (T26.setTop (mkF m 176 #[.val (.int n), .val (.int d), .val (.int n2), .val (.int d2), .val (.int fl), .val (.int z5), .val (.int z6), .val (.int (((fl.toUInt32 >>> ((2 : Int32) &&& 31).toUInt32).toInt32) &&& (3 : Int32))), .val (.int nb), .val (.int db), .val (.ref b1), .val (.ref b5), .val (.ref b5), .val (.int (0 : Int32)), .val (.int (0 : Int32)), .unset] [(.int (own_me nb db n d))]))
          rw [show (own_me nb db n d) = (0 : Int32) from (by simp [own_me, *, Ne.symm e1])]
          show OwnGo p e below s _ _ _ (T26.setTop (mkF m 176 #[.val (.int n), .val (.int d), .val (.int n2), .val (.int d2), .val (.int fl), .val (.int z5), .val (.int z6), .val (.int (((fl.toUInt32 >>> ((2 : Int32) &&& 31).toUInt32).toInt32) &&& (3 : Int32))), .val (.int nb), .val (.int db), .val (.ref b1), .val (.ref b5), .val (.ref b5), .val (.int (0 : Int32)), .val (.int (0 : Int32)), .unset] [(.int (0 : Int32))]))
          refine own_on (fun t k => XS.iload X26.here hx rfl (hb hby at_176) rfl k) ?_
          show OwnGo p e below s _ _ _ (T26.setTop (mkF m 178 #[.val (.int n), .val (.int d), .val (.int n2), .val (.int d2), .val (.int fl), .val (.int z5), .val (.int z6), .val (.int (((fl.toUInt32 >>> ((2 : Int32) &&& 31).toUInt32).toInt32) &&& (3 : Int32))), .val (.int nb), .val (.int db), .val (.ref b1), .val (.ref b5), .val (.ref b5), .val (.int (0 : Int32)), .val (.int (0 : Int32)), .unset] [(.int (0 : Int32)), (.int (0 : Int32))]))
          refine own_on (fun t k => XS.icmpNo X26.here hx rfl (hb hby at_178) rfl (teq (by decide : (0 : Int32) = (0 : Int32))).2 k) ?_
          show OwnGo p e below s _ _ _ (T26.setTop (mkF m 181 #[.val (.int n), .val (.int d), .val (.int n2), .val (.int d2), .val (.int fl), .val (.int z5), .val (.int z6), .val (.int (((fl.toUInt32 >>> ((2 : Int32) &&& 31).toUInt32).toInt32) &&& (3 : Int32))), .val (.int nb), .val (.int db), .val (.ref b1), .val (.ref b5), .val (.ref b5), .val (.int (0 : Int32)), .val (.int (0 : Int32)), .unset] []))
          refine own_on (fun t k => XS.iconst X26.here hx rfl (hb hby at_181) k) ?_
          show OwnGo p e below s _ _ _ (T26.setTop (mkF m 182 #[.val (.int n), .val (.int d), .val (.int n2), .val (.int d2), .val (.int fl), .val (.int z5), .val (.int z6), .val (.int (((fl.toUInt32 >>> ((2 : Int32) &&& 31).toUInt32).toInt32) &&& (3 : Int32))), .val (.int nb), .val (.int db), .val (.ref b1), .val (.ref b5), .val (.ref b5), .val (.int (0 : Int32)), .val (.int (0 : Int32)), .unset] [(.int (1 : Int32))]))
          refine own_on (fun t k => XS.goto X26.here hx rfl (pc0 := 182) (pc' := 186) rfl (hb hby at_182) (by decide) (by decide) k) ?_
          show OwnGo p e below s _ _ _ (T26.setTop (mkF m 186 #[.val (.int n), .val (.int d), .val (.int n2), .val (.int d2), .val (.int fl), .val (.int z5), .val (.int z6), .val (.int (((fl.toUInt32 >>> ((2 : Int32) &&& 31).toUInt32).toInt32) &&& (3 : Int32))), .val (.int nb), .val (.int db), .val (.ref b1), .val (.ref b5), .val (.ref b5), .val (.int (0 : Int32)), .val (.int (0 : Int32)), .unset] [(.int (1 : Int32))]))
          refine own_on (fun t k => XS.istore X26.here hx rfl (hb hby at_186) rfl (l' := #[.val (.int n), .val (.int d), .val (.int n2), .val (.int d2), .val (.int fl), .val (.int z5), .val (.int z6), .val (.int (((fl.toUInt32 >>> ((2 : Int32) &&& 31).toUInt32).toInt32) &&& (3 : Int32))), .val (.int nb), .val (.int db), .val (.ref b1), .val (.ref b5), .val (.ref b5), .val (.int (0 : Int32)), .val (.int (0 : Int32)), .val (.int (1 : Int32))]) rfl k) ?_
          show OwnGo p e below s _ _ _ (T26.setTop (mkF m 188 #[.val (.int n), .val (.int d), .val (.int n2), .val (.int d2), .val (.int fl), .val (.int z5), .val (.int z6), .val (.int (((fl.toUInt32 >>> ((2 : Int32) &&& 31).toUInt32).toInt32) &&& (3 : Int32))), .val (.int nb), .val (.int db), .val (.ref b1), .val (.ref b5), .val (.ref b5), .val (.int (0 : Int32)), .val (.int (0 : Int32)), .val (.int (1 : Int32))] []))
          refine own_on (fun t k => XS.iload X26.here hx rfl (hb hby at_188) rfl k) ?_
          show OwnGo p e below s _ _ _ (T26.setTop (mkF m 190 #[.val (.int n), .val (.int d), .val (.int n2), .val (.int d2), .val (.int fl), .val (.int z5), .val (.int z6), .val (.int (((fl.toUInt32 >>> ((2 : Int32) &&& 31).toUInt32).toInt32) &&& (3 : Int32))), .val (.int nb), .val (.int db), .val (.ref b1), .val (.ref b5), .val (.ref b5), .val (.int (0 : Int32)), .val (.int (0 : Int32)), .val (.int (1 : Int32))] [(.int (0 : Int32))]))
          refine own_on (fun t k => XS.iload X26.here hx rfl (hb hby at_190) rfl k) ?_
          show OwnGo p e below s _ _ _ (T26.setTop (mkF m 192 #[.val (.int n), .val (.int d), .val (.int n2), .val (.int d2), .val (.int fl), .val (.int z5), .val (.int z6), .val (.int (((fl.toUInt32 >>> ((2 : Int32) &&& 31).toUInt32).toInt32) &&& (3 : Int32))), .val (.int nb), .val (.int db), .val (.ref b1), .val (.ref b5), .val (.ref b5), .val (.int (0 : Int32)), .val (.int (0 : Int32)), .val (.int (1 : Int32))] [(.int (0 : Int32)), (.int (0 : Int32))]))
          refine own_on (fun t k => XS.icmpNo X26.here hx rfl (hb hby at_192) rfl (teq (by decide : (0 : Int32) = (0 : Int32))).2 k) ?_
          show OwnGo p e below s _ _ _ (T26.setTop (mkF m 195 #[.val (.int n), .val (.int d), .val (.int n2), .val (.int d2), .val (.int fl), .val (.int z5), .val (.int z6), .val (.int (((fl.toUInt32 >>> ((2 : Int32) &&& 31).toUInt32).toInt32) &&& (3 : Int32))), .val (.int nb), .val (.int db), .val (.ref b1), .val (.ref b5), .val (.ref b5), .val (.int (0 : Int32)), .val (.int (0 : Int32)), .val (.int (1 : Int32))] []))
          refine own_on (fun t k => XS.iload X26.here hx rfl (hb hby at_195) rfl k) ?_
          show OwnGo p e below s _ _ _ (T26.setTop (mkF m 197 #[.val (.int n), .val (.int d), .val (.int n2), .val (.int d2), .val (.int fl), .val (.int z5), .val (.int z6), .val (.int (((fl.toUInt32 >>> ((2 : Int32) &&& 31).toUInt32).toInt32) &&& (3 : Int32))), .val (.int nb), .val (.int db), .val (.ref b1), .val (.ref b5), .val (.ref b5), .val (.int (0 : Int32)), .val (.int (0 : Int32)), .val (.int (1 : Int32))] [(.int (1 : Int32))]))
          refine own_on (fun t k => XS.ifNo X26.here hx rfl (hb hby at_197) rfl ((if0 _ _).trans (feq (by decide : ¬ ((1 : Int32) = (0 : Int32)))).1) k) ?_
          show OwnGo p e below s _ _ _ (T26.setTop (mkF m 200 #[.val (.int n), .val (.int d), .val (.int n2), .val (.int d2), .val (.int fl), .val (.int z5), .val (.int z6), .val (.int (((fl.toUInt32 >>> ((2 : Int32) &&& 31).toUInt32).toInt32) &&& (3 : Int32))), .val (.int nb), .val (.int db), .val (.ref b1), .val (.ref b5), .val (.ref b5), .val (.int (0 : Int32)), .val (.int (0 : Int32)), .val (.int (1 : Int32))] []))
          refine own_on (fun t k => XS.iconst X26.here hx rfl (hb hby at_200) k) ?_
          show OwnGo p e below s _ _ _ (T26.setTop (mkF m 201 #[.val (.int n), .val (.int d), .val (.int n2), .val (.int d2), .val (.int fl), .val (.int z5), .val (.int z6), .val (.int (((fl.toUInt32 >>> ((2 : Int32) &&& 31).toUInt32).toInt32) &&& (3 : Int32))), .val (.int nb), .val (.int db), .val (.ref b1), .val (.ref b5), .val (.ref b5), .val (.int (0 : Int32)), .val (.int (0 : Int32)), .val (.int (1 : Int32))] [(.int (1 : Int32))]))
          refine own_on (fun t k => XS.goto X26.here hx rfl (pc0 := 201) (pc' := 205) rfl (hb hby at_201) (by decide) (by decide) k) ?_
          show OwnGo p e below s _ _ _ (T26.setTop (mkF m 205 #[.val (.int n), .val (.int d), .val (.int n2), .val (.int d2), .val (.int fl), .val (.int z5), .val (.int z6), .val (.int (((fl.toUInt32 >>> ((2 : Int32) &&& 31).toUInt32).toInt32) &&& (3 : Int32))), .val (.int nb), .val (.int db), .val (.ref b1), .val (.ref b5), .val (.ref b5), .val (.int (0 : Int32)), .val (.int (0 : Int32)), .val (.int (1 : Int32))] [(.int (1 : Int32))]))
          exact own_retN X26 hx hlk (t := .boolean) Bd.returns (by simp) (hb hby at_205) e26 ⟨rfl, N26, K10⟩ (by decide) (by decide)
      · refine own_on (fun t k => XS.icmpYes X10.here hx rfl (pc0 := 96) (pc' := 109) rfl (hb hby at_96) rfl (feq e0).2 (by decide) (by decide) k) ?_
        show OwnGo p e below s _ _ _ (T10.setTop (mkF m 109 #[.val (.int n), .val (.int d), .val (.int n2), .val (.int d2), .val (.int fl), .val (.int z5), .val (.int z6), .val (.int (((fl.toUInt32 >>> ((2 : Int32) &&& 31).toUInt32).toInt32) &&& (3 : Int32))), .val (.int nb), .val (.int db), .val (.ref b1), .val (.ref b5), .val (.ref b5), .unset, .unset, .unset] []))
        refine own_on (fun t k => XS.iconst X10.here hx rfl (hb hby at_109) k) ?_
        show OwnGo p e below s _ _ _ (T10.setTop (mkF m 110 #[.val (.int n), .val (.int d), .val (.int n2), .val (.int d2), .val (.int fl), .val (.int z5), .val (.int z6), .val (.int (((fl.toUInt32 >>> ((2 : Int32) &&& 31).toUInt32).toInt32) &&& (3 : Int32))), .val (.int nb), .val (.int db), .val (.ref b1), .val (.ref b5), .val (.ref b5), .unset, .unset, .unset] [(.int (0 : Int32))]))
        refine own_on (fun t k => XS.istore X10.here hx rfl (hb hby at_110) rfl (l' := #[.val (.int n), .val (.int d), .val (.int n2), .val (.int d2), .val (.int fl), .val (.int z5), .val (.int z6), .val (.int (((fl.toUInt32 >>> ((2 : Int32) &&& 31).toUInt32).toInt32) &&& (3 : Int32))), .val (.int nb), .val (.int db), .val (.ref b1), .val (.ref b5), .val (.ref b5), .val (.int (0 : Int32)), .unset, .unset]) rfl k) ?_
        show OwnGo p e below s _ _ _ (T10.setTop (mkF m 112 #[.val (.int n), .val (.int d), .val (.int n2), .val (.int d2), .val (.int fl), .val (.int z5), .val (.int z6), .val (.int (((fl.toUInt32 >>> ((2 : Int32) &&& 31).toUInt32).toInt32) &&& (3 : Int32))), .val (.int nb), .val (.int db), .val (.ref b1), .val (.ref b5), .val (.ref b5), .val (.int (0 : Int32)), .unset, .unset] []))
        refine own_on (fun t k => XS.goto X10.here hx rfl (pc0 := 112) (pc' := 155) rfl (hb hby at_112) (by decide) (by decide) k) ?_
        show OwnGo p e below s _ _ _ (T10.setTop (mkF m 155 #[.val (.int n), .val (.int d), .val (.int n2), .val (.int d2), .val (.int fl), .val (.int z5), .val (.int z6), .val (.int (((fl.toUInt32 >>> ((2 : Int32) &&& 31).toUInt32).toInt32) &&& (3 : Int32))), .val (.int nb), .val (.int db), .val (.ref b1), .val (.ref b5), .val (.ref b5), .val (.int (0 : Int32)), .unset, .unset] []))
        refine own_on (fun t k => XS.aload X10.here hx rfl (hb hby at_155) rfl rfl k) ?_
        show OwnGo p e below s _ _ _ (T10.setTop (mkF m 157 #[.val (.int n), .val (.int d), .val (.int n2), .val (.int d2), .val (.int fl), .val (.int z5), .val (.int z6), .val (.int (((fl.toUInt32 >>> ((2 : Int32) &&& 31).toUInt32).toInt32) &&& (3 : Int32))), .val (.int nb), .val (.int db), .val (.ref b1), .val (.ref b5), .val (.ref b5), .val (.int (0 : Int32)), .unset, .unset] [(.ref b1)]))
        refine own_on (fun t k => XS.aload X10.here hx rfl (hb hby at_157) rfl rfl k) ?_
        show OwnGo p e below s _ _ _ (T10.setTop (mkF m 159 #[.val (.int n), .val (.int d), .val (.int n2), .val (.int d2), .val (.int fl), .val (.int z5), .val (.int z6), .val (.int (((fl.toUInt32 >>> ((2 : Int32) &&& 31).toUInt32).toInt32) &&& (3 : Int32))), .val (.int nb), .val (.int db), .val (.ref b1), .val (.ref b5), .val (.ref b5), .val (.int (0 : Int32)), .unset, .unset] [(.ref b5), (.ref b1)]))
        have f27 : Exa Z h5 b1 "com/example/kembar/kembar/FingerprintIndex$Match" := c4_0.ext E5
        have f28 : Exa Z T10.heap b1 "com/example/kembar/kembar/FingerprintIndex$Match" := f27.keep K10q
        have f29 : Fld Z h5 b1 "com/example/kembar/kembar/FingerprintIndex$Match" "number" "I" (.int n) := c4_1.ext E5
        have f30 : Fld Z T10.heap b1 "com/example/kembar/kembar/FingerprintIndex$Match" "number" "I" (.int n) := f29.keep K10q (ninS ne7 nin0)
        have f31 : Fld Z h5 b1 "com/example/kembar/kembar/FingerprintIndex$Match" "distance" "I" (.int d) := c4_2.ext E5
        have f32 : Fld Z T10.heap b1 "com/example/kembar/kembar/FingerprintIndex$Match" "distance" "I" (.int d) := f31.keep K10q (ninS ne7 nin0)
        obtain ⟨cq33, kq33, q33a, q33b, q33c⟩ := isOf hZ rfl f28
        obtain ⟨_, _, ⟨T33, L33, k33, n33⟩, -, X33, ⟨Lc33, hQ33, l33, y33, z33⟩, st33⟩ := X10.virtualBack hx (y := (⟨"com/example/kembar/kembar/FingerprintIndex$Match", "equals", "(Ljava/lang/Object;)Z"⟩ : MethodName)) (z := (⟨"com/example/kembar/kembar/FingerprintIndex$Match", "equals", "(Ljava/lang/Object;)Z"⟩ : MethodName)) hown (mvT hZ (w13 hw)) (mvT hZ (w14 hw)) (notFace_of_selects (args := #[]) (mvT hZ (w16 hw))) (mvT hZ (w16 hw)) (mvT hZ (w15 hw)) (by decide) (backOf (W := 0) (rmeqM l Z a0 hw [] b1 b5 n d nb db T10.heap n0 Z10 f28 c10_0 f30 f32 c10_1 c10_2) hZ (w17 hw) (w2 hw) (by decide) (by decide)) q33a q33c (g := (mkF m 159 #[.val (.int n), .val (.int d), .val (.int n2), .val (.int d2), .val (.int fl), .val (.int z5), .val (.int z6), .val (.int (((fl.toUInt32 >>> ((2 : Int32) &&& 31).toUInt32).toInt32) &&& (3 : Int32))), .val (.int nb), .val (.int db), .val (.ref b1), .val (.ref b5), .val (.ref b5), .val (.int (0 : Int32)), .unset, .unset] [(.ref b5), (.ref b1)])) rfl (by rw [hml]; rfl) (Steps.refl _) (argsL := [(.ref b5)]) (rest := []) (lenOf pd_3 rfl) rfl (by show 2 * 0 + _ ≤ _; exact Nat.le_of_eq rfl) (hb hby at_159) (fun _ _ => ⟨rfl, rfl, (by decide : 2 + 0 ≤ _), (by decide : 4 + 0 ≤ _)⟩)
        dsimp only [Pt.U, Pt.locs, Pt.cells, Pt.slots] at X33 l33 y33 z33 st33 hQ33
        subst l33 y33 z33
        obtain ⟨rfl, N33q, e33⟩ := hQ33
        have N33 := Fr.app N10 N33q
        refine own_tr st33 ?_
        show OwnGo p e below s _ _ _ (T33.setTop (mkF m 162 #[.val (.int n), .val (.int d), .val (.int n2), .val (.int d2), .val (.int fl), .val (.int z5), .val (.int z6), .val (.int (((fl.toUInt32 >>> ((2 : Int32) &&& 31).toUInt32).toInt32) &&& (3 : Int32))), .val (.int nb), .val (.int db), .val (.ref b1), .val (.ref b5), .val (.ref b5), .val (.int (0 : Int32)), .unset, .unset] [(.int (own_me n d nb db))]))
        rw [show (own_me n d nb db) = (0 : Int32) from (by simp [own_me, *])]
        show OwnGo p e below s _ _ _ (T33.setTop (mkF m 162 #[.val (.int n), .val (.int d), .val (.int n2), .val (.int d2), .val (.int fl), .val (.int z5), .val (.int z6), .val (.int (((fl.toUInt32 >>> ((2 : Int32) &&& 31).toUInt32).toInt32) &&& (3 : Int32))), .val (.int nb), .val (.int db), .val (.ref b1), .val (.ref b5), .val (.ref b5), .val (.int (0 : Int32)), .unset, .unset] [(.int (0 : Int32))]))
        refine own_on (fun t k => XS.istore X33.here hx rfl (hb hby at_162) rfl (l' := #[.val (.int n), .val (.int d), .val (.int n2), .val (.int d2), .val (.int fl), .val (.int z5), .val (.int z6), .val (.int (((fl.toUInt32 >>> ((2 : Int32) &&& 31).toUInt32).toInt32) &&& (3 : Int32))), .val (.int nb), .val (.int db), .val (.ref b1), .val (.ref b5), .val (.ref b5), .val (.int (0 : Int32)), .val (.int (0 : Int32)), .unset]) rfl k) ?_
        show OwnGo p e below s _ _ _ (T33.setTop (mkF m 164 #[.val (.int n), .val (.int d), .val (.int n2), .val (.int d2), .val (.int fl), .val (.int z5), .val (.int z6), .val (.int (((fl.toUInt32 >>> ((2 : Int32) &&& 31).toUInt32).toInt32) &&& (3 : Int32))), .val (.int nb), .val (.int db), .val (.ref b1), .val (.ref b5), .val (.ref b5), .val (.int (0 : Int32)), .val (.int (0 : Int32)), .unset] []))
        refine own_on (fun t k => XS.iload X33.here hx rfl (hb hby at_164) rfl k) ?_
        show OwnGo p e below s _ _ _ (T33.setTop (mkF m 166 #[.val (.int n), .val (.int d), .val (.int n2), .val (.int d2), .val (.int fl), .val (.int z5), .val (.int z6), .val (.int (((fl.toUInt32 >>> ((2 : Int32) &&& 31).toUInt32).toInt32) &&& (3 : Int32))), .val (.int nb), .val (.int db), .val (.ref b1), .val (.ref b5), .val (.ref b5), .val (.int (0 : Int32)), .val (.int (0 : Int32)), .unset] [(.int (((fl.toUInt32 >>> ((2 : Int32) &&& 31).toUInt32).toInt32) &&& (3 : Int32)))]))
        refine own_on (fun t k => XS.ifNo X33.here hx rfl (hb hby at_166) rfl ((if0 _ _).trans (teq k0).2) k) ?_
        show OwnGo p e below s _ _ _ (T33.setTop (mkF m 169 #[.val (.int n), .val (.int d), .val (.int n2), .val (.int d2), .val (.int fl), .val (.int z5), .val (.int z6), .val (.int (((fl.toUInt32 >>> ((2 : Int32) &&& 31).toUInt32).toInt32) &&& (3 : Int32))), .val (.int nb), .val (.int db), .val (.ref b1), .val (.ref b5), .val (.ref b5), .val (.int (0 : Int32)), .val (.int (0 : Int32)), .unset] []))
        refine own_on (fun t k => XS.aload X33.here hx rfl (hb hby at_169) rfl rfl k) ?_
        show OwnGo p e below s _ _ _ (T33.setTop (mkF m 171 #[.val (.int n), .val (.int d), .val (.int n2), .val (.int d2), .val (.int fl), .val (.int z5), .val (.int z6), .val (.int (((fl.toUInt32 >>> ((2 : Int32) &&& 31).toUInt32).toInt32) &&& (3 : Int32))), .val (.int nb), .val (.int db), .val (.ref b1), .val (.ref b5), .val (.ref b5), .val (.int (0 : Int32)), .val (.int (0 : Int32)), .unset] [(.ref b5)]))
        refine own_on (fun t k => XS.aload X33.here hx rfl (hb hby at_171) rfl rfl k) ?_
        show OwnGo p e below s _ _ _ (T33.setTop (mkF m 173 #[.val (.int n), .val (.int d), .val (.int n2), .val (.int d2), .val (.int fl), .val (.int z5), .val (.int z6), .val (.int (((fl.toUInt32 >>> ((2 : Int32) &&& 31).toUInt32).toInt32) &&& (3 : Int32))), .val (.int nb), .val (.int db), .val (.ref b1), .val (.ref b5), .val (.ref b5), .val (.int (0 : Int32)), .val (.int (0 : Int32)), .unset] [(.ref b1), (.ref b5)]))
        obtain ⟨cq34, kq34, q34a, q34b, q34c⟩ := isOf hZ e33 c10_0
        obtain ⟨_, _, ⟨T34, L34, k34, n34⟩, -, X34, ⟨Lc34, hQ34, l34, y34, z34⟩, st34⟩ := X33.virtualBack hx (y := (⟨"com/example/kembar/kembar/FingerprintIndex$Match", "equals", "(Ljava/lang/Object;)Z"⟩ : MethodName)) (z := (⟨"com/example/kembar/kembar/FingerprintIndex$Match", "equals", "(Ljava/lang/Object;)Z"⟩ : MethodName)) hown (mvT hZ (w13 hw)) (mvT hZ (w14 hw)) (notFace_of_selects (args := #[]) (mvT hZ (w16 hw))) (mvT hZ (w16 hw)) (mvT hZ (w15 hw)) (by decide) (backOf (W := 0) (rmeqM l Z a0 hw [] b5 b1 nb db n d T10.heap n0 Z10 c10_0 f28 c10_1 c10_2 f30 f32) hZ (w17 hw) (w2 hw) (by decide) (by decide)) q34a q34c (g := (mkF m 173 #[.val (.int n), .val (.int d), .val (.int n2), .val (.int d2), .val (.int fl), .val (.int z5), .val (.int z6), .val (.int (((fl.toUInt32 >>> ((2 : Int32) &&& 31).toUInt32).toInt32) &&& (3 : Int32))), .val (.int nb), .val (.int db), .val (.ref b1), .val (.ref b5), .val (.ref b5), .val (.int (0 : Int32)), .val (.int (0 : Int32)), .unset] [(.ref b1), (.ref b5)])) rfl (by rw [hml]; rfl) (Steps.refl _) (argsL := [(.ref b1)]) (rest := []) (lenOf pd_3 rfl) rfl (by show 2 * 0 + _ ≤ _; exact Nat.le_of_eq rfl) (hb hby at_173) (fun _ _ => ⟨rfl, e33, (by decide : 2 + 0 ≤ _), (by decide : 4 + 0 ≤ _)⟩)
        dsimp only [Pt.U, Pt.locs, Pt.cells, Pt.slots] at X34 l34 y34 z34 st34 hQ34
        subst l34 y34 z34
        obtain ⟨rfl, N34q, e34⟩ := hQ34
        have N34 := Fr.app N33 N34q
        refine own_tr st34 ?_
        show OwnGo p e below s _ _ _ (T34.setTop (mkF m 176 #[.val (.int n), .val (.int d), .val (.int n2), .val (.int d2), .val (.int fl), .val (.int z5), .val (.int z6), .val (.int (((fl.toUInt32 >>> ((2 : Int32) &&& 31).toUInt32).toInt32) &&& (3 : Int32))), .val (.int nb), .val (.int db), .val (.ref b1), .val (.ref b5), .val (.ref b5), .val (.int (0 : Int32)), .val (.int (0 : Int32)), .unset] [(.int (own_me nb db n d))]))
        rw [show (own_me nb db n d) = (0 : Int32) from (by simp [own_me, *, Ne.symm e0])]
        show OwnGo p e below s _ _ _ (T34.setTop (mkF m 176 #[.val (.int n), .val (.int d), .val (.int n2), .val (.int d2), .val (.int fl), .val (.int z5), .val (.int z6), .val (.int (((fl.toUInt32 >>> ((2 : Int32) &&& 31).toUInt32).toInt32) &&& (3 : Int32))), .val (.int nb), .val (.int db), .val (.ref b1), .val (.ref b5), .val (.ref b5), .val (.int (0 : Int32)), .val (.int (0 : Int32)), .unset] [(.int (0 : Int32))]))
        refine own_on (fun t k => XS.iload X34.here hx rfl (hb hby at_176) rfl k) ?_
        show OwnGo p e below s _ _ _ (T34.setTop (mkF m 178 #[.val (.int n), .val (.int d), .val (.int n2), .val (.int d2), .val (.int fl), .val (.int z5), .val (.int z6), .val (.int (((fl.toUInt32 >>> ((2 : Int32) &&& 31).toUInt32).toInt32) &&& (3 : Int32))), .val (.int nb), .val (.int db), .val (.ref b1), .val (.ref b5), .val (.ref b5), .val (.int (0 : Int32)), .val (.int (0 : Int32)), .unset] [(.int (0 : Int32)), (.int (0 : Int32))]))
        refine own_on (fun t k => XS.icmpNo X34.here hx rfl (hb hby at_178) rfl (teq (by decide : (0 : Int32) = (0 : Int32))).2 k) ?_
        show OwnGo p e below s _ _ _ (T34.setTop (mkF m 181 #[.val (.int n), .val (.int d), .val (.int n2), .val (.int d2), .val (.int fl), .val (.int z5), .val (.int z6), .val (.int (((fl.toUInt32 >>> ((2 : Int32) &&& 31).toUInt32).toInt32) &&& (3 : Int32))), .val (.int nb), .val (.int db), .val (.ref b1), .val (.ref b5), .val (.ref b5), .val (.int (0 : Int32)), .val (.int (0 : Int32)), .unset] []))
        refine own_on (fun t k => XS.iconst X34.here hx rfl (hb hby at_181) k) ?_
        show OwnGo p e below s _ _ _ (T34.setTop (mkF m 182 #[.val (.int n), .val (.int d), .val (.int n2), .val (.int d2), .val (.int fl), .val (.int z5), .val (.int z6), .val (.int (((fl.toUInt32 >>> ((2 : Int32) &&& 31).toUInt32).toInt32) &&& (3 : Int32))), .val (.int nb), .val (.int db), .val (.ref b1), .val (.ref b5), .val (.ref b5), .val (.int (0 : Int32)), .val (.int (0 : Int32)), .unset] [(.int (1 : Int32))]))
        refine own_on (fun t k => XS.goto X34.here hx rfl (pc0 := 182) (pc' := 186) rfl (hb hby at_182) (by decide) (by decide) k) ?_
        show OwnGo p e below s _ _ _ (T34.setTop (mkF m 186 #[.val (.int n), .val (.int d), .val (.int n2), .val (.int d2), .val (.int fl), .val (.int z5), .val (.int z6), .val (.int (((fl.toUInt32 >>> ((2 : Int32) &&& 31).toUInt32).toInt32) &&& (3 : Int32))), .val (.int nb), .val (.int db), .val (.ref b1), .val (.ref b5), .val (.ref b5), .val (.int (0 : Int32)), .val (.int (0 : Int32)), .unset] [(.int (1 : Int32))]))
        refine own_on (fun t k => XS.istore X34.here hx rfl (hb hby at_186) rfl (l' := #[.val (.int n), .val (.int d), .val (.int n2), .val (.int d2), .val (.int fl), .val (.int z5), .val (.int z6), .val (.int (((fl.toUInt32 >>> ((2 : Int32) &&& 31).toUInt32).toInt32) &&& (3 : Int32))), .val (.int nb), .val (.int db), .val (.ref b1), .val (.ref b5), .val (.ref b5), .val (.int (0 : Int32)), .val (.int (0 : Int32)), .val (.int (1 : Int32))]) rfl k) ?_
        show OwnGo p e below s _ _ _ (T34.setTop (mkF m 188 #[.val (.int n), .val (.int d), .val (.int n2), .val (.int d2), .val (.int fl), .val (.int z5), .val (.int z6), .val (.int (((fl.toUInt32 >>> ((2 : Int32) &&& 31).toUInt32).toInt32) &&& (3 : Int32))), .val (.int nb), .val (.int db), .val (.ref b1), .val (.ref b5), .val (.ref b5), .val (.int (0 : Int32)), .val (.int (0 : Int32)), .val (.int (1 : Int32))] []))
        refine own_on (fun t k => XS.iload X34.here hx rfl (hb hby at_188) rfl k) ?_
        show OwnGo p e below s _ _ _ (T34.setTop (mkF m 190 #[.val (.int n), .val (.int d), .val (.int n2), .val (.int d2), .val (.int fl), .val (.int z5), .val (.int z6), .val (.int (((fl.toUInt32 >>> ((2 : Int32) &&& 31).toUInt32).toInt32) &&& (3 : Int32))), .val (.int nb), .val (.int db), .val (.ref b1), .val (.ref b5), .val (.ref b5), .val (.int (0 : Int32)), .val (.int (0 : Int32)), .val (.int (1 : Int32))] [(.int (0 : Int32))]))
        refine own_on (fun t k => XS.iload X34.here hx rfl (hb hby at_190) rfl k) ?_
        show OwnGo p e below s _ _ _ (T34.setTop (mkF m 192 #[.val (.int n), .val (.int d), .val (.int n2), .val (.int d2), .val (.int fl), .val (.int z5), .val (.int z6), .val (.int (((fl.toUInt32 >>> ((2 : Int32) &&& 31).toUInt32).toInt32) &&& (3 : Int32))), .val (.int nb), .val (.int db), .val (.ref b1), .val (.ref b5), .val (.ref b5), .val (.int (0 : Int32)), .val (.int (0 : Int32)), .val (.int (1 : Int32))] [(.int (0 : Int32)), (.int (0 : Int32))]))
        refine own_on (fun t k => XS.icmpNo X34.here hx rfl (hb hby at_192) rfl (teq (by decide : (0 : Int32) = (0 : Int32))).2 k) ?_
        show OwnGo p e below s _ _ _ (T34.setTop (mkF m 195 #[.val (.int n), .val (.int d), .val (.int n2), .val (.int d2), .val (.int fl), .val (.int z5), .val (.int z6), .val (.int (((fl.toUInt32 >>> ((2 : Int32) &&& 31).toUInt32).toInt32) &&& (3 : Int32))), .val (.int nb), .val (.int db), .val (.ref b1), .val (.ref b5), .val (.ref b5), .val (.int (0 : Int32)), .val (.int (0 : Int32)), .val (.int (1 : Int32))] []))
        refine own_on (fun t k => XS.iload X34.here hx rfl (hb hby at_195) rfl k) ?_
        show OwnGo p e below s _ _ _ (T34.setTop (mkF m 197 #[.val (.int n), .val (.int d), .val (.int n2), .val (.int d2), .val (.int fl), .val (.int z5), .val (.int z6), .val (.int (((fl.toUInt32 >>> ((2 : Int32) &&& 31).toUInt32).toInt32) &&& (3 : Int32))), .val (.int nb), .val (.int db), .val (.ref b1), .val (.ref b5), .val (.ref b5), .val (.int (0 : Int32)), .val (.int (0 : Int32)), .val (.int (1 : Int32))] [(.int (1 : Int32))]))
        refine own_on (fun t k => XS.ifNo X34.here hx rfl (hb hby at_197) rfl ((if0 _ _).trans (feq (by decide : ¬ ((1 : Int32) = (0 : Int32)))).1) k) ?_
        show OwnGo p e below s _ _ _ (T34.setTop (mkF m 200 #[.val (.int n), .val (.int d), .val (.int n2), .val (.int d2), .val (.int fl), .val (.int z5), .val (.int z6), .val (.int (((fl.toUInt32 >>> ((2 : Int32) &&& 31).toUInt32).toInt32) &&& (3 : Int32))), .val (.int nb), .val (.int db), .val (.ref b1), .val (.ref b5), .val (.ref b5), .val (.int (0 : Int32)), .val (.int (0 : Int32)), .val (.int (1 : Int32))] []))
        refine own_on (fun t k => XS.iconst X34.here hx rfl (hb hby at_200) k) ?_
        show OwnGo p e below s _ _ _ (T34.setTop (mkF m 201 #[.val (.int n), .val (.int d), .val (.int n2), .val (.int d2), .val (.int fl), .val (.int z5), .val (.int z6), .val (.int (((fl.toUInt32 >>> ((2 : Int32) &&& 31).toUInt32).toInt32) &&& (3 : Int32))), .val (.int nb), .val (.int db), .val (.ref b1), .val (.ref b5), .val (.ref b5), .val (.int (0 : Int32)), .val (.int (0 : Int32)), .val (.int (1 : Int32))] [(.int (1 : Int32))]))
        refine own_on (fun t k => XS.goto X34.here hx rfl (pc0 := 201) (pc' := 205) rfl (hb hby at_201) (by decide) (by decide) k) ?_
        show OwnGo p e below s _ _ _ (T34.setTop (mkF m 205 #[.val (.int n), .val (.int d), .val (.int n2), .val (.int d2), .val (.int fl), .val (.int z5), .val (.int z6), .val (.int (((fl.toUInt32 >>> ((2 : Int32) &&& 31).toUInt32).toInt32) &&& (3 : Int32))), .val (.int nb), .val (.int db), .val (.ref b1), .val (.ref b5), .val (.ref b5), .val (.int (0 : Int32)), .val (.int (0 : Int32)), .val (.int (1 : Int32))] [(.int (1 : Int32))]))
        exact own_retN X34 hx hlk (t := .boolean) Bd.returns (by simp) (hb hby at_205) e34 ⟨rfl, N34, K10⟩ (by decide) (by decide)
    · refine own_on (fun t k => XS.ifYes X10.here hx rfl (pc0 := 86) (pc' := 115) rfl (hb hby at_86) rfl ((if0 _ _).trans (feq k0).2) (by decide) (by decide) k) ?_
      show OwnGo p e below s _ _ _ (T10.setTop (mkF m 115 #[.val (.int n), .val (.int d), .val (.int n2), .val (.int d2), .val (.int fl), .val (.int z5), .val (.int z6), .val (.int (((fl.toUInt32 >>> ((2 : Int32) &&& 31).toUInt32).toInt32) &&& (3 : Int32))), .val (.int nb), .val (.int db), .val (.ref b1), .val (.ref b5), .unset, .unset, .unset, .unset] []))
      refine own_on (fun t k => XS.iload X10.here hx rfl (hb hby at_115) rfl k) ?_
      show OwnGo p e below s _ _ _ (T10.setTop (mkF m 117 #[.val (.int n), .val (.int d), .val (.int n2), .val (.int d2), .val (.int fl), .val (.int z5), .val (.int z6), .val (.int (((fl.toUInt32 >>> ((2 : Int32) &&& 31).toUInt32).toInt32) &&& (3 : Int32))), .val (.int nb), .val (.int db), .val (.ref b1), .val (.ref b5), .unset, .unset, .unset, .unset] [(.int (((fl.toUInt32 >>> ((2 : Int32) &&& 31).toUInt32).toInt32) &&& (3 : Int32)))]))
      refine own_on (fun t k => XS.iconst X10.here hx rfl (hb hby at_117) k) ?_
      show OwnGo p e below s _ _ _ (T10.setTop (mkF m 118 #[.val (.int n), .val (.int d), .val (.int n2), .val (.int d2), .val (.int fl), .val (.int z5), .val (.int z6), .val (.int (((fl.toUInt32 >>> ((2 : Int32) &&& 31).toUInt32).toInt32) &&& (3 : Int32))), .val (.int nb), .val (.int db), .val (.ref b1), .val (.ref b5), .unset, .unset, .unset, .unset] [(.int (1 : Int32)), (.int (((fl.toUInt32 >>> ((2 : Int32) &&& 31).toUInt32).toInt32) &&& (3 : Int32)))]))
      by_cases k1 : (((fl.toUInt32 >>> ((2 : Int32) &&& 31).toUInt32).toInt32) &&& (3 : Int32)) = (1 : Int32)
      · refine own_on (fun t k => XS.icmpNo X10.here hx rfl (hb hby at_118) rfl (teq k1).2 k) ?_
        show OwnGo p e below s _ _ _ (T10.setTop (mkF m 121 #[.val (.int n), .val (.int d), .val (.int n2), .val (.int d2), .val (.int fl), .val (.int z5), .val (.int z6), .val (.int (((fl.toUInt32 >>> ((2 : Int32) &&& 31).toUInt32).toInt32) &&& (3 : Int32))), .val (.int nb), .val (.int db), .val (.ref b1), .val (.ref b5), .unset, .unset, .unset, .unset] []))
        refine own_on (fun t k => XS.aconstNull X10.here hx rfl (hb hby at_121) k) ?_
        show OwnGo p e below s _ _ _ (T10.setTop (mkF m 122 #[.val (.int n), .val (.int d), .val (.int n2), .val (.int d2), .val (.int fl), .val (.int z5), .val (.int z6), .val (.int (((fl.toUInt32 >>> ((2 : Int32) &&& 31).toUInt32).toInt32) &&& (3 : Int32))), .val (.int nb), .val (.int db), .val (.ref b1), .val (.ref b5), .unset, .unset, .unset, .unset] [.null]))
        refine own_on (fun t k => XS.astore X10.here hx rfl (hb hby at_122) rfl rfl (l' := #[.val (.int n), .val (.int d), .val (.int n2), .val (.int d2), .val (.int fl), .val (.int z5), .val (.int z6), .val (.int (((fl.toUInt32 >>> ((2 : Int32) &&& 31).toUInt32).toInt32) &&& (3 : Int32))), .val (.int nb), .val (.int db), .val (.ref b1), .val (.ref b5), .val .null, .unset, .unset, .unset]) rfl k) ?_
        show OwnGo p e below s _ _ _ (T10.setTop (mkF m 124 #[.val (.int n), .val (.int d), .val (.int n2), .val (.int d2), .val (.int fl), .val (.int z5), .val (.int z6), .val (.int (((fl.toUInt32 >>> ((2 : Int32) &&& 31).toUInt32).toInt32) &&& (3 : Int32))), .val (.int nb), .val (.int db), .val (.ref b1), .val (.ref b5), .val .null, .unset, .unset, .unset] []))
        refine own_on (fun t k => XS.iconst X10.here hx rfl (hb hby at_124) k) ?_
        show OwnGo p e below s _ _ _ (T10.setTop (mkF m 125 #[.val (.int n), .val (.int d), .val (.int n2), .val (.int d2), .val (.int fl), .val (.int z5), .val (.int z6), .val (.int (((fl.toUInt32 >>> ((2 : Int32) &&& 31).toUInt32).toInt32) &&& (3 : Int32))), .val (.int nb), .val (.int db), .val (.ref b1), .val (.ref b5), .val .null, .unset, .unset, .unset] [(.int (0 : Int32))]))
        refine own_on (fun t k => XS.istore X10.here hx rfl (hb hby at_125) rfl (l' := #[.val (.int n), .val (.int d), .val (.int n2), .val (.int d2), .val (.int fl), .val (.int z5), .val (.int z6), .val (.int (((fl.toUInt32 >>> ((2 : Int32) &&& 31).toUInt32).toInt32) &&& (3 : Int32))), .val (.int nb), .val (.int db), .val (.ref b1), .val (.ref b5), .val .null, .val (.int (0 : Int32)), .unset, .unset]) rfl k) ?_
        show OwnGo p e below s _ _ _ (T10.setTop (mkF m 127 #[.val (.int n), .val (.int d), .val (.int n2), .val (.int d2), .val (.int fl), .val (.int z5), .val (.int z6), .val (.int (((fl.toUInt32 >>> ((2 : Int32) &&& 31).toUInt32).toInt32) &&& (3 : Int32))), .val (.int nb), .val (.int db), .val (.ref b1), .val (.ref b5), .val .null, .val (.int (0 : Int32)), .unset, .unset] []))
        refine own_on (fun t k => XS.goto X10.here hx rfl (pc0 := 127) (pc' := 155) rfl (hb hby at_127) (by decide) (by decide) k) ?_
        show OwnGo p e below s _ _ _ (T10.setTop (mkF m 155 #[.val (.int n), .val (.int d), .val (.int n2), .val (.int d2), .val (.int fl), .val (.int z5), .val (.int z6), .val (.int (((fl.toUInt32 >>> ((2 : Int32) &&& 31).toUInt32).toInt32) &&& (3 : Int32))), .val (.int nb), .val (.int db), .val (.ref b1), .val (.ref b5), .val .null, .val (.int (0 : Int32)), .unset, .unset] []))
        refine own_on (fun t k => XS.aload X10.here hx rfl (hb hby at_155) rfl rfl k) ?_
        show OwnGo p e below s _ _ _ (T10.setTop (mkF m 157 #[.val (.int n), .val (.int d), .val (.int n2), .val (.int d2), .val (.int fl), .val (.int z5), .val (.int z6), .val (.int (((fl.toUInt32 >>> ((2 : Int32) &&& 31).toUInt32).toInt32) &&& (3 : Int32))), .val (.int nb), .val (.int db), .val (.ref b1), .val (.ref b5), .val .null, .val (.int (0 : Int32)), .unset, .unset] [(.ref b1)]))
        refine own_on (fun t k => XS.aload X10.here hx rfl (hb hby at_157) rfl rfl k) ?_
        show OwnGo p e below s _ _ _ (T10.setTop (mkF m 159 #[.val (.int n), .val (.int d), .val (.int n2), .val (.int d2), .val (.int fl), .val (.int z5), .val (.int z6), .val (.int (((fl.toUInt32 >>> ((2 : Int32) &&& 31).toUInt32).toInt32) &&& (3 : Int32))), .val (.int nb), .val (.int db), .val (.ref b1), .val (.ref b5), .val .null, .val (.int (0 : Int32)), .unset, .unset] [.null, (.ref b1)]))
        have f35 : Exa Z h5 b1 "com/example/kembar/kembar/FingerprintIndex$Match" := c4_0.ext E5
        have f36 : Exa Z T10.heap b1 "com/example/kembar/kembar/FingerprintIndex$Match" := f35.keep K10q
        obtain ⟨cq37, kq37, q37a, q37b, q37c⟩ := isOf hZ rfl f36
        obtain ⟨_, _, ⟨T37, L37, k37, n37⟩, -, X37, ⟨Lc37, hQ37, l37, y37, z37⟩, st37⟩ := X10.virtualBack hx (y := (⟨"com/example/kembar/kembar/FingerprintIndex$Match", "equals", "(Ljava/lang/Object;)Z"⟩ : MethodName)) (z := (⟨"com/example/kembar/kembar/FingerprintIndex$Match", "equals", "(Ljava/lang/Object;)Z"⟩ : MethodName)) hown (mvT hZ (w13 hw)) (mvT hZ (w14 hw)) (notFace_of_selects (args := #[]) (mvT hZ (w16 hw))) (mvT hZ (w16 hw)) (mvT hZ (w15 hw)) (by decide) (backOf (W := 0) (rmeqN l Z a0 hw [] b1 T10.heap n0 Z10 f36) hZ (w17 hw) (w2 hw) (by decide) (by decide)) q37a q37c (g := (mkF m 159 #[.val (.int n), .val (.int d), .val (.int n2), .val (.int d2), .val (.int fl), .val (.int z5), .val (.int z6), .val (.int (((fl.toUInt32 >>> ((2 : Int32) &&& 31).toUInt32).toInt32) &&& (3 : Int32))), .val (.int nb), .val (.int db), .val (.ref b1), .val (.ref b5), .val .null, .val (.int (0 : Int32)), .unset, .unset] [.null, (.ref b1)])) rfl (by rw [hml]; rfl) (Steps.refl _) (argsL := [.null]) (rest := []) (lenOf pd_3 rfl) rfl (by show 2 * 0 + _ ≤ _; exact Nat.le_of_eq rfl) (hb hby at_159) (fun _ _ => ⟨rfl, rfl, (by decide : 2 + 0 ≤ _), (by decide : 4 + 0 ≤ _)⟩)
        dsimp only [Pt.U, Pt.locs, Pt.cells, Pt.slots] at X37 l37 y37 z37 st37 hQ37
        subst l37 y37 z37
        obtain ⟨rfl, N37q, e37⟩ := hQ37
        have N37 := Fr.app N10 N37q
        refine own_tr st37 ?_
        show OwnGo p e below s _ _ _ (T37.setTop (mkF m 162 #[.val (.int n), .val (.int d), .val (.int n2), .val (.int d2), .val (.int fl), .val (.int z5), .val (.int z6), .val (.int (((fl.toUInt32 >>> ((2 : Int32) &&& 31).toUInt32).toInt32) &&& (3 : Int32))), .val (.int nb), .val (.int db), .val (.ref b1), .val (.ref b5), .val .null, .val (.int (0 : Int32)), .unset, .unset] [(.int (0 : Int32))]))
        refine own_on (fun t k => XS.istore X37.here hx rfl (hb hby at_162) rfl (l' := #[.val (.int n), .val (.int d), .val (.int n2), .val (.int d2), .val (.int fl), .val (.int z5), .val (.int z6), .val (.int (((fl.toUInt32 >>> ((2 : Int32) &&& 31).toUInt32).toInt32) &&& (3 : Int32))), .val (.int nb), .val (.int db), .val (.ref b1), .val (.ref b5), .val .null, .val (.int (0 : Int32)), .val (.int (0 : Int32)), .unset]) rfl k) ?_
        show OwnGo p e below s _ _ _ (T37.setTop (mkF m 164 #[.val (.int n), .val (.int d), .val (.int n2), .val (.int d2), .val (.int fl), .val (.int z5), .val (.int z6), .val (.int (((fl.toUInt32 >>> ((2 : Int32) &&& 31).toUInt32).toInt32) &&& (3 : Int32))), .val (.int nb), .val (.int db), .val (.ref b1), .val (.ref b5), .val .null, .val (.int (0 : Int32)), .val (.int (0 : Int32)), .unset] []))
        refine own_on (fun t k => XS.iload X37.here hx rfl (hb hby at_164) rfl k) ?_
        show OwnGo p e below s _ _ _ (T37.setTop (mkF m 166 #[.val (.int n), .val (.int d), .val (.int n2), .val (.int d2), .val (.int fl), .val (.int z5), .val (.int z6), .val (.int (((fl.toUInt32 >>> ((2 : Int32) &&& 31).toUInt32).toInt32) &&& (3 : Int32))), .val (.int nb), .val (.int db), .val (.ref b1), .val (.ref b5), .val .null, .val (.int (0 : Int32)), .val (.int (0 : Int32)), .unset] [(.int (((fl.toUInt32 >>> ((2 : Int32) &&& 31).toUInt32).toInt32) &&& (3 : Int32)))]))
        refine own_on (fun t k => XS.ifYes X37.here hx rfl (pc0 := 166) (pc' := 181) rfl (hb hby at_166) rfl ((if0 _ _).trans (feq k0).2) (by decide) (by decide) k) ?_
        show OwnGo p e below s _ _ _ (T37.setTop (mkF m 181 #[.val (.int n), .val (.int d), .val (.int n2), .val (.int d2), .val (.int fl), .val (.int z5), .val (.int z6), .val (.int (((fl.toUInt32 >>> ((2 : Int32) &&& 31).toUInt32).toInt32) &&& (3 : Int32))), .val (.int nb), .val (.int db), .val (.ref b1), .val (.ref b5), .val .null, .val (.int (0 : Int32)), .val (.int (0 : Int32)), .unset] []))
        refine own_on (fun t k => XS.iconst X37.here hx rfl (hb hby at_181) k) ?_
        show OwnGo p e below s _ _ _ (T37.setTop (mkF m 182 #[.val (.int n), .val (.int d), .val (.int n2), .val (.int d2), .val (.int fl), .val (.int z5), .val (.int z6), .val (.int (((fl.toUInt32 >>> ((2 : Int32) &&& 31).toUInt32).toInt32) &&& (3 : Int32))), .val (.int nb), .val (.int db), .val (.ref b1), .val (.ref b5), .val .null, .val (.int (0 : Int32)), .val (.int (0 : Int32)), .unset] [(.int (1 : Int32))]))
        refine own_on (fun t k => XS.goto X37.here hx rfl (pc0 := 182) (pc' := 186) rfl (hb hby at_182) (by decide) (by decide) k) ?_
        show OwnGo p e below s _ _ _ (T37.setTop (mkF m 186 #[.val (.int n), .val (.int d), .val (.int n2), .val (.int d2), .val (.int fl), .val (.int z5), .val (.int z6), .val (.int (((fl.toUInt32 >>> ((2 : Int32) &&& 31).toUInt32).toInt32) &&& (3 : Int32))), .val (.int nb), .val (.int db), .val (.ref b1), .val (.ref b5), .val .null, .val (.int (0 : Int32)), .val (.int (0 : Int32)), .unset] [(.int (1 : Int32))]))
        refine own_on (fun t k => XS.istore X37.here hx rfl (hb hby at_186) rfl (l' := #[.val (.int n), .val (.int d), .val (.int n2), .val (.int d2), .val (.int fl), .val (.int z5), .val (.int z6), .val (.int (((fl.toUInt32 >>> ((2 : Int32) &&& 31).toUInt32).toInt32) &&& (3 : Int32))), .val (.int nb), .val (.int db), .val (.ref b1), .val (.ref b5), .val .null, .val (.int (0 : Int32)), .val (.int (0 : Int32)), .val (.int (1 : Int32))]) rfl k) ?_
        show OwnGo p e below s _ _ _ (T37.setTop (mkF m 188 #[.val (.int n), .val (.int d), .val (.int n2), .val (.int d2), .val (.int fl), .val (.int z5), .val (.int z6), .val (.int (((fl.toUInt32 >>> ((2 : Int32) &&& 31).toUInt32).toInt32) &&& (3 : Int32))), .val (.int nb), .val (.int db), .val (.ref b1), .val (.ref b5), .val .null, .val (.int (0 : Int32)), .val (.int (0 : Int32)), .val (.int (1 : Int32))] []))
        refine own_on (fun t k => XS.iload X37.here hx rfl (hb hby at_188) rfl k) ?_
        show OwnGo p e below s _ _ _ (T37.setTop (mkF m 190 #[.val (.int n), .val (.int d), .val (.int n2), .val (.int d2), .val (.int fl), .val (.int z5), .val (.int z6), .val (.int (((fl.toUInt32 >>> ((2 : Int32) &&& 31).toUInt32).toInt32) &&& (3 : Int32))), .val (.int nb), .val (.int db), .val (.ref b1), .val (.ref b5), .val .null, .val (.int (0 : Int32)), .val (.int (0 : Int32)), .val (.int (1 : Int32))] [(.int (0 : Int32))]))
        refine own_on (fun t k => XS.iload X37.here hx rfl (hb hby at_190) rfl k) ?_
        show OwnGo p e below s _ _ _ (T37.setTop (mkF m 192 #[.val (.int n), .val (.int d), .val (.int n2), .val (.int d2), .val (.int fl), .val (.int z5), .val (.int z6), .val (.int (((fl.toUInt32 >>> ((2 : Int32) &&& 31).toUInt32).toInt32) &&& (3 : Int32))), .val (.int nb), .val (.int db), .val (.ref b1), .val (.ref b5), .val .null, .val (.int (0 : Int32)), .val (.int (0 : Int32)), .val (.int (1 : Int32))] [(.int (0 : Int32)), (.int (0 : Int32))]))
        refine own_on (fun t k => XS.icmpNo X37.here hx rfl (hb hby at_192) rfl (teq (by decide : (0 : Int32) = (0 : Int32))).2 k) ?_
        show OwnGo p e below s _ _ _ (T37.setTop (mkF m 195 #[.val (.int n), .val (.int d), .val (.int n2), .val (.int d2), .val (.int fl), .val (.int z5), .val (.int z6), .val (.int (((fl.toUInt32 >>> ((2 : Int32) &&& 31).toUInt32).toInt32) &&& (3 : Int32))), .val (.int nb), .val (.int db), .val (.ref b1), .val (.ref b5), .val .null, .val (.int (0 : Int32)), .val (.int (0 : Int32)), .val (.int (1 : Int32))] []))
        refine own_on (fun t k => XS.iload X37.here hx rfl (hb hby at_195) rfl k) ?_
        show OwnGo p e below s _ _ _ (T37.setTop (mkF m 197 #[.val (.int n), .val (.int d), .val (.int n2), .val (.int d2), .val (.int fl), .val (.int z5), .val (.int z6), .val (.int (((fl.toUInt32 >>> ((2 : Int32) &&& 31).toUInt32).toInt32) &&& (3 : Int32))), .val (.int nb), .val (.int db), .val (.ref b1), .val (.ref b5), .val .null, .val (.int (0 : Int32)), .val (.int (0 : Int32)), .val (.int (1 : Int32))] [(.int (1 : Int32))]))
        refine own_on (fun t k => XS.ifNo X37.here hx rfl (hb hby at_197) rfl ((if0 _ _).trans (feq (by decide : ¬ ((1 : Int32) = (0 : Int32)))).1) k) ?_
        show OwnGo p e below s _ _ _ (T37.setTop (mkF m 200 #[.val (.int n), .val (.int d), .val (.int n2), .val (.int d2), .val (.int fl), .val (.int z5), .val (.int z6), .val (.int (((fl.toUInt32 >>> ((2 : Int32) &&& 31).toUInt32).toInt32) &&& (3 : Int32))), .val (.int nb), .val (.int db), .val (.ref b1), .val (.ref b5), .val .null, .val (.int (0 : Int32)), .val (.int (0 : Int32)), .val (.int (1 : Int32))] []))
        refine own_on (fun t k => XS.iconst X37.here hx rfl (hb hby at_200) k) ?_
        show OwnGo p e below s _ _ _ (T37.setTop (mkF m 201 #[.val (.int n), .val (.int d), .val (.int n2), .val (.int d2), .val (.int fl), .val (.int z5), .val (.int z6), .val (.int (((fl.toUInt32 >>> ((2 : Int32) &&& 31).toUInt32).toInt32) &&& (3 : Int32))), .val (.int nb), .val (.int db), .val (.ref b1), .val (.ref b5), .val .null, .val (.int (0 : Int32)), .val (.int (0 : Int32)), .val (.int (1 : Int32))] [(.int (1 : Int32))]))
        refine own_on (fun t k => XS.goto X37.here hx rfl (pc0 := 201) (pc' := 205) rfl (hb hby at_201) (by decide) (by decide) k) ?_
        show OwnGo p e below s _ _ _ (T37.setTop (mkF m 205 #[.val (.int n), .val (.int d), .val (.int n2), .val (.int d2), .val (.int fl), .val (.int z5), .val (.int z6), .val (.int (((fl.toUInt32 >>> ((2 : Int32) &&& 31).toUInt32).toInt32) &&& (3 : Int32))), .val (.int nb), .val (.int db), .val (.ref b1), .val (.ref b5), .val .null, .val (.int (0 : Int32)), .val (.int (0 : Int32)), .val (.int (1 : Int32))] [(.int (1 : Int32))]))
        exact own_retN X37 hx hlk (t := .boolean) Bd.returns (by simp) (hb hby at_205) e37 ⟨rfl, N37, K10⟩ (by decide) (by decide)
      · refine own_on (fun t k => XS.icmpYes X10.here hx rfl (pc0 := 118) (pc' := 130) rfl (hb hby at_118) rfl (feq k1).2 (by decide) (by decide) k) ?_
        show OwnGo p e below s _ _ _ (T10.setTop (mkF m 130 #[.val (.int n), .val (.int d), .val (.int n2), .val (.int d2), .val (.int fl), .val (.int z5), .val (.int z6), .val (.int (((fl.toUInt32 >>> ((2 : Int32) &&& 31).toUInt32).toInt32) &&& (3 : Int32))), .val (.int nb), .val (.int db), .val (.ref b1), .val (.ref b5), .unset, .unset, .unset, .unset] []))
        refine own_on (fun t k => XS.iload X10.here hx rfl (hb hby at_130) rfl k) ?_
        show OwnGo p e below s _ _ _ (T10.setTop (mkF m 132 #[.val (.int n), .val (.int d), .val (.int n2), .val (.int d2), .val (.int fl), .val (.int z5), .val (.int z6), .val (.int (((fl.toUInt32 >>> ((2 : Int32) &&& 31).toUInt32).toInt32) &&& (3 : Int32))), .val (.int nb), .val (.int db), .val (.ref b1), .val (.ref b5), .unset, .unset, .unset, .unset] [(.int (((fl.toUInt32 >>> ((2 : Int32) &&& 31).toUInt32).toInt32) &&& (3 : Int32)))]))
        refine own_on (fun t k => XS.iconst X10.here hx rfl (hb hby at_132) k) ?_
        show OwnGo p e below s _ _ _ (T10.setTop (mkF m 133 #[.val (.int n), .val (.int d), .val (.int n2), .val (.int d2), .val (.int fl), .val (.int z5), .val (.int z6), .val (.int (((fl.toUInt32 >>> ((2 : Int32) &&& 31).toUInt32).toInt32) &&& (3 : Int32))), .val (.int nb), .val (.int db), .val (.ref b1), .val (.ref b5), .unset, .unset, .unset, .unset] [(.int (2 : Int32)), (.int (((fl.toUInt32 >>> ((2 : Int32) &&& 31).toUInt32).toInt32) &&& (3 : Int32)))]))
        by_cases k2 : (((fl.toUInt32 >>> ((2 : Int32) &&& 31).toUInt32).toInt32) &&& (3 : Int32)) = (2 : Int32)
        · refine own_on (fun t k => XS.icmpNo X10.here hx rfl (hb hby at_133) rfl (teq k2).2 k) ?_
          show OwnGo p e below s _ _ _ (T10.setTop (mkF m 136 #[.val (.int n), .val (.int d), .val (.int n2), .val (.int d2), .val (.int fl), .val (.int z5), .val (.int z6), .val (.int (((fl.toUInt32 >>> ((2 : Int32) &&& 31).toUInt32).toInt32) &&& (3 : Int32))), .val (.int nb), .val (.int db), .val (.ref b1), .val (.ref b5), .unset, .unset, .unset, .unset] []))
          refine own_on (fun t k => XS.iloadN X10.here hx rfl (hb hby at_136) rfl k) ?_
          show OwnGo p e below s _ _ _ (T10.setTop (mkF m 137 #[.val (.int n), .val (.int d), .val (.int n2), .val (.int d2), .val (.int fl), .val (.int z5), .val (.int z6), .val (.int (((fl.toUInt32 >>> ((2 : Int32) &&& 31).toUInt32).toInt32) &&& (3 : Int32))), .val (.int nb), .val (.int db), .val (.ref b1), .val (.ref b5), .unset, .unset, .unset, .unset] [(.int n)]))
          have f38 : Old Z n0 h1 := P0.ext E1
          have f39 : Old Z n0 T4.heap := f38.keep K4q (allS g2 all0)
          have f40 : Old Z n0 h5 := f39.ext E5
          have f41 : Old Z n0 T10.heap := f40.keep K10q (allS g8 all0)
          obtain ⟨_, _, ⟨T42, L42, k42, n42⟩, -, X42, ⟨Lc42, hQ42, l42, y42, z42⟩, st42⟩ := Jvm.LawKit.callS X10 hx (y := (⟨"java/lang/Integer", "valueOf", "(I)Ljava/lang/Integer;"⟩ : MethodName)) hown (mvT hZ (w20 hw)) (mvT hZ (w21 hw)) (mvT hZ (w22 hw)) (mvT hZ (w23 hw)) (by decide) (backOf (W := 0) (rm4 l Z a0 hw [] n ca T10.heap n0 Z10 f41 P1 P2 P3) hZ (w23 hw) (w22 hw) (by decide) (by decide)) (g := (mkF m 137 #[.val (.int n), .val (.int d), .val (.int n2), .val (.int d2), .val (.int fl), .val (.int z5), .val (.int z6), .val (.int (((fl.toUInt32 >>> ((2 : Int32) &&& 31).toUInt32).toInt32) &&& (3 : Int32))), .val (.int nb), .val (.int db), .val (.ref b1), .val (.ref b5), .unset, .unset, .unset, .unset] [(.int n)])) rfl (by rw [hml]; rfl) (argsL := [(.int n)]) (rest := []) (lenOf pd_4 rfl) rfl (by show 2 * 0 + _ ≤ _; exact Nat.le_of_eq rfl) (hb hby at_137) (fun _ _ => ⟨rfl, rfl, (by decide : 2 + 1 ≤ _), (by decide : 4 + 1 ≤ _)⟩)
          dsimp only [Pt.U, Pt.locs, Pt.cells, Pt.slots] at X42 l42 y42 z42 st42 hQ42
          subst l42 y42 z42
          obtain ⟨r_42, rfl, N42q, K42q, c42_0, c42_1⟩ := hQ42
          have N42 := Fr.app N10 N42q
          have Z42 : n0 ≤ T42.heap.size := Nat.le_trans Z10 K42q.1
          have K42 : Keep h0 T42.heap [] := K10.trans K42q all0
          refine own_on st42 ?_
          show OwnGo p e below s _ _ _ (T42.setTop (mkF m 140 #[.val (.int n), .val (.int d), .val (.int n2), .val (.int d2), .val (.int fl), .val (.int z5), .val (.int z6), .val (.int (((fl.toUInt32 >>> ((2 : Int32) &&& 31).toUInt32).toInt32) &&& (3 : Int32))), .val (.int nb), .val (.int db), .val (.ref b1), .val (.ref b5), .unset, .unset, .unset, .unset] [(.ref r_42)]))
          refine own_on (fun t k => XS.astore X42.here hx rfl (hb hby at_140) rfl rfl (l' := #[.val (.int n), .val (.int d), .val (.int n2), .val (.int d2), .val (.int fl), .val (.int z5), .val (.int z6), .val (.int (((fl.toUInt32 >>> ((2 : Int32) &&& 31).toUInt32).toInt32) &&& (3 : Int32))), .val (.int nb), .val (.int db), .val (.ref b1), .val (.ref b5), .val (.ref r_42), .unset, .unset, .unset]) rfl k) ?_
          show OwnGo p e below s _ _ _ (T42.setTop (mkF m 142 #[.val (.int n), .val (.int d), .val (.int n2), .val (.int d2), .val (.int fl), .val (.int z5), .val (.int z6), .val (.int (((fl.toUInt32 >>> ((2 : Int32) &&& 31).toUInt32).toInt32) &&& (3 : Int32))), .val (.int nb), .val (.int db), .val (.ref b1), .val (.ref b5), .val (.ref r_42), .unset, .unset, .unset] []))
          refine own_on (fun t k => XS.iconst X42.here hx rfl (hb hby at_142) k) ?_
          show OwnGo p e below s _ _ _ (T42.setTop (mkF m 143 #[.val (.int n), .val (.int d), .val (.int n2), .val (.int d2), .val (.int fl), .val (.int z5), .val (.int z6), .val (.int (((fl.toUInt32 >>> ((2 : Int32) &&& 31).toUInt32).toInt32) &&& (3 : Int32))), .val (.int nb), .val (.int db), .val (.ref b1), .val (.ref b5), .val (.ref r_42), .unset, .unset, .unset] [(.int (0 : Int32))]))
          refine own_on (fun t k => XS.istore X42.here hx rfl (hb hby at_143) rfl (l' := #[.val (.int n), .val (.int d), .val (.int n2), .val (.int d2), .val (.int fl), .val (.int z5), .val (.int z6), .val (.int (((fl.toUInt32 >>> ((2 : Int32) &&& 31).toUInt32).toInt32) &&& (3 : Int32))), .val (.int nb), .val (.int db), .val (.ref b1), .val (.ref b5), .val (.ref r_42), .val (.int (0 : Int32)), .unset, .unset]) rfl k) ?_
          show OwnGo p e below s _ _ _ (T42.setTop (mkF m 145 #[.val (.int n), .val (.int d), .val (.int n2), .val (.int d2), .val (.int fl), .val (.int z5), .val (.int z6), .val (.int (((fl.toUInt32 >>> ((2 : Int32) &&& 31).toUInt32).toInt32) &&& (3 : Int32))), .val (.int nb), .val (.int db), .val (.ref b1), .val (.ref b5), .val (.ref r_42), .val (.int (0 : Int32)), .unset, .unset] []))
          refine own_on (fun t k => XS.goto X42.here hx rfl (pc0 := 145) (pc' := 155) rfl (hb hby at_145) (by decide) (by decide) k) ?_
          show OwnGo p e below s _ _ _ (T42.setTop (mkF m 155 #[.val (.int n), .val (.int d), .val (.int n2), .val (.int d2), .val (.int fl), .val (.int z5), .val (.int z6), .val (.int (((fl.toUInt32 >>> ((2 : Int32) &&& 31).toUInt32).toInt32) &&& (3 : Int32))), .val (.int nb), .val (.int db), .val (.ref b1), .val (.ref b5), .val (.ref r_42), .val (.int (0 : Int32)), .unset, .unset] []))
          refine own_on (fun t k => XS.aload X42.here hx rfl (hb hby at_155) rfl rfl k) ?_
          show OwnGo p e below s _ _ _ (T42.setTop (mkF m 157 #[.val (.int n), .val (.int d), .val (.int n2), .val (.int d2), .val (.int fl), .val (.int z5), .val (.int z6), .val (.int (((fl.toUInt32 >>> ((2 : Int32) &&& 31).toUInt32).toInt32) &&& (3 : Int32))), .val (.int nb), .val (.int db), .val (.ref b1), .val (.ref b5), .val (.ref r_42), .val (.int (0 : Int32)), .unset, .unset] [(.ref b1)]))
          refine own_on (fun t k => XS.aload X42.here hx rfl (hb hby at_157) rfl rfl k) ?_
          show OwnGo p e below s _ _ _ (T42.setTop (mkF m 159 #[.val (.int n), .val (.int d), .val (.int n2), .val (.int d2), .val (.int fl), .val (.int z5), .val (.int z6), .val (.int (((fl.toUInt32 >>> ((2 : Int32) &&& 31).toUInt32).toInt32) &&& (3 : Int32))), .val (.int nb), .val (.int db), .val (.ref b1), .val (.ref b5), .val (.ref r_42), .val (.int (0 : Int32)), .unset, .unset] [(.ref r_42), (.ref b1)]))
          have f43 : Exa Z h5 b1 "com/example/kembar/kembar/FingerprintIndex$Match" := c4_0.ext E5
          have f44 : Exa Z T10.heap b1 "com/example/kembar/kembar/FingerprintIndex$Match" := f43.keep K10q
          have f45 : Exa Z T42.heap b1 "com/example/kembar/kembar/FingerprintIndex$Match" := f44.keep K42q
          obtain ⟨cq46, kq46, q46a, q46b, q46c⟩ := isOf hZ rfl f45
          obtain ⟨_, _, ⟨T46, L46, k46, n46⟩, -, X46, ⟨Lc46, hQ46, l46, y46, z46⟩, st46⟩ := X42.virtualBack hx (y := (⟨"com/example/kembar/kembar/FingerprintIndex$Match", "equals", "(Ljava/lang/Object;)Z"⟩ : MethodName)) (z := (⟨"com/example/kembar/kembar/FingerprintIndex$Match", "equals", "(Ljava/lang/Object;)Z"⟩ : MethodName)) hown (mvT hZ (w13 hw)) (mvT hZ (w14 hw)) (notFace_of_selects (args := #[]) (mvT hZ (w16 hw))) (mvT hZ (w16 hw)) (mvT hZ (w15 hw)) (by decide) (backOf (W := 0) (rmeqI l Z a0 hw [] b1 r_42 T42.heap n0 Z42 f45 c42_0) hZ (w17 hw) (w2 hw) (by decide) (by decide)) q46a q46c (g := (mkF m 159 #[.val (.int n), .val (.int d), .val (.int n2), .val (.int d2), .val (.int fl), .val (.int z5), .val (.int z6), .val (.int (((fl.toUInt32 >>> ((2 : Int32) &&& 31).toUInt32).toInt32) &&& (3 : Int32))), .val (.int nb), .val (.int db), .val (.ref b1), .val (.ref b5), .val (.ref r_42), .val (.int (0 : Int32)), .unset, .unset] [(.ref r_42), (.ref b1)])) rfl (by rw [hml]; rfl) (Steps.refl _) (argsL := [(.ref r_42)]) (rest := []) (lenOf pd_3 rfl) rfl (by show 2 * 0 + _ ≤ _; exact Nat.le_of_eq rfl) (hb hby at_159) (fun _ _ => ⟨rfl, rfl, (by decide : 3 + 0 ≤ _), (by decide : 5 + 0 ≤ _)⟩)
          dsimp only [Pt.U, Pt.locs, Pt.cells, Pt.slots] at X46 l46 y46 z46 st46 hQ46
          subst l46 y46 z46
          obtain ⟨rfl, N46q, e46⟩ := hQ46
          have N46 := Fr.app N42 N46q
          refine own_tr st46 ?_
          show OwnGo p e below s _ _ _ (T46.setTop (mkF m 162 #[.val (.int n), .val (.int d), .val (.int n2), .val (.int d2), .val (.int fl), .val (.int z5), .val (.int z6), .val (.int (((fl.toUInt32 >>> ((2 : Int32) &&& 31).toUInt32).toInt32) &&& (3 : Int32))), .val (.int nb), .val (.int db), .val (.ref b1), .val (.ref b5), .val (.ref r_42), .val (.int (0 : Int32)), .unset, .unset] [(.int (0 : Int32))]))
          refine own_on (fun t k => XS.istore X46.here hx rfl (hb hby at_162) rfl (l' := #[.val (.int n), .val (.int d), .val (.int n2), .val (.int d2), .val (.int fl), .val (.int z5), .val (.int z6), .val (.int (((fl.toUInt32 >>> ((2 : Int32) &&& 31).toUInt32).toInt32) &&& (3 : Int32))), .val (.int nb), .val (.int db), .val (.ref b1), .val (.ref b5), .val (.ref r_42), .val (.int (0 : Int32)), .val (.int (0 : Int32)), .unset]) rfl k) ?_
          show OwnGo p e below s _ _ _ (T46.setTop (mkF m 164 #[.val (.int n), .val (.int d), .val (.int n2), .val (.int d2), .val (.int fl), .val (.int z5), .val (.int z6), .val (.int (((fl.toUInt32 >>> ((2 : Int32) &&& 31).toUInt32).toInt32) &&& (3 : Int32))), .val (.int nb), .val (.int db), .val (.ref b1), .val (.ref b5), .val (.ref r_42), .val (.int (0 : Int32)), .val (.int (0 : Int32)), .unset] []))
          refine own_on (fun t k => XS.iload X46.here hx rfl (hb hby at_164) rfl k) ?_
          show OwnGo p e below s _ _ _ (T46.setTop (mkF m 166 #[.val (.int n), .val (.int d), .val (.int n2), .val (.int d2), .val (.int fl), .val (.int z5), .val (.int z6), .val (.int (((fl.toUInt32 >>> ((2 : Int32) &&& 31).toUInt32).toInt32) &&& (3 : Int32))), .val (.int nb), .val (.int db), .val (.ref b1), .val (.ref b5), .val (.ref r_42), .val (.int (0 : Int32)), .val (.int (0 : Int32)), .unset] [(.int (((fl.toUInt32 >>> ((2 : Int32) &&& 31).toUInt32).toInt32) &&& (3 : Int32)))]))
          refine own_on (fun t k => XS.ifYes X46.here hx rfl (pc0 := 166) (pc' := 181) rfl (hb hby at_166) rfl ((if0 _ _).trans (feq k0).2) (by decide) (by decide) k) ?_
          show OwnGo p e below s _ _ _ (T46.setTop (mkF m 181 #[.val (.int n), .val (.int d), .val (.int n2), .val (.int d2), .val (.int fl), .val (.int z5), .val (.int z6), .val (.int (((fl.toUInt32 >>> ((2 : Int32) &&& 31).toUInt32).toInt32) &&& (3 : Int32))), .val (.int nb), .val (.int db), .val (.ref b1), .val (.ref b5), .val (.ref r_42), .val (.int (0 : Int32)), .val (.int (0 : Int32)), .unset] []))
          refine own_on (fun t k => XS.iconst X46.here hx rfl (hb hby at_181) k) ?_
          show OwnGo p e below s _ _ _ (T46.setTop (mkF m 182 #[.val (.int n), .val (.int d), .val (.int n2), .val (.int d2), .val (.int fl), .val (.int z5), .val (.int z6), .val (.int (((fl.toUInt32 >>> ((2 : Int32) &&& 31).toUInt32).toInt32) &&& (3 : Int32))), .val (.int nb), .val (.int db), .val (.ref b1), .val (.ref b5), .val (.ref r_42), .val (.int (0 : Int32)), .val (.int (0 : Int32)), .unset] [(.int (1 : Int32))]))
          refine own_on (fun t k => XS.goto X46.here hx rfl (pc0 := 182) (pc' := 186) rfl (hb hby at_182) (by decide) (by decide) k) ?_
          show OwnGo p e below s _ _ _ (T46.setTop (mkF m 186 #[.val (.int n), .val (.int d), .val (.int n2), .val (.int d2), .val (.int fl), .val (.int z5), .val (.int z6), .val (.int (((fl.toUInt32 >>> ((2 : Int32) &&& 31).toUInt32).toInt32) &&& (3 : Int32))), .val (.int nb), .val (.int db), .val (.ref b1), .val (.ref b5), .val (.ref r_42), .val (.int (0 : Int32)), .val (.int (0 : Int32)), .unset] [(.int (1 : Int32))]))
          refine own_on (fun t k => XS.istore X46.here hx rfl (hb hby at_186) rfl (l' := #[.val (.int n), .val (.int d), .val (.int n2), .val (.int d2), .val (.int fl), .val (.int z5), .val (.int z6), .val (.int (((fl.toUInt32 >>> ((2 : Int32) &&& 31).toUInt32).toInt32) &&& (3 : Int32))), .val (.int nb), .val (.int db), .val (.ref b1), .val (.ref b5), .val (.ref r_42), .val (.int (0 : Int32)), .val (.int (0 : Int32)), .val (.int (1 : Int32))]) rfl k) ?_
          show OwnGo p e below s _ _ _ (T46.setTop (mkF m 188 #[.val (.int n), .val (.int d), .val (.int n2), .val (.int d2), .val (.int fl), .val (.int z5), .val (.int z6), .val (.int (((fl.toUInt32 >>> ((2 : Int32) &&& 31).toUInt32).toInt32) &&& (3 : Int32))), .val (.int nb), .val (.int db), .val (.ref b1), .val (.ref b5), .val (.ref r_42), .val (.int (0 : Int32)), .val (.int (0 : Int32)), .val (.int (1 : Int32))] []))
          refine own_on (fun t k => XS.iload X46.here hx rfl (hb hby at_188) rfl k) ?_
          show OwnGo p e below s _ _ _ (T46.setTop (mkF m 190 #[.val (.int n), .val (.int d), .val (.int n2), .val (.int d2), .val (.int fl), .val (.int z5), .val (.int z6), .val (.int (((fl.toUInt32 >>> ((2 : Int32) &&& 31).toUInt32).toInt32) &&& (3 : Int32))), .val (.int nb), .val (.int db), .val (.ref b1), .val (.ref b5), .val (.ref r_42), .val (.int (0 : Int32)), .val (.int (0 : Int32)), .val (.int (1 : Int32))] [(.int (0 : Int32))]))
          refine own_on (fun t k => XS.iload X46.here hx rfl (hb hby at_190) rfl k) ?_
          show OwnGo p e below s _ _ _ (T46.setTop (mkF m 192 #[.val (.int n), .val (.int d), .val (.int n2), .val (.int d2), .val (.int fl), .val (.int z5), .val (.int z6), .val (.int (((fl.toUInt32 >>> ((2 : Int32) &&& 31).toUInt32).toInt32) &&& (3 : Int32))), .val (.int nb), .val (.int db), .val (.ref b1), .val (.ref b5), .val (.ref r_42), .val (.int (0 : Int32)), .val (.int (0 : Int32)), .val (.int (1 : Int32))] [(.int (0 : Int32)), (.int (0 : Int32))]))
          refine own_on (fun t k => XS.icmpNo X46.here hx rfl (hb hby at_192) rfl (teq (by decide : (0 : Int32) = (0 : Int32))).2 k) ?_
          show OwnGo p e below s _ _ _ (T46.setTop (mkF m 195 #[.val (.int n), .val (.int d), .val (.int n2), .val (.int d2), .val (.int fl), .val (.int z5), .val (.int z6), .val (.int (((fl.toUInt32 >>> ((2 : Int32) &&& 31).toUInt32).toInt32) &&& (3 : Int32))), .val (.int nb), .val (.int db), .val (.ref b1), .val (.ref b5), .val (.ref r_42), .val (.int (0 : Int32)), .val (.int (0 : Int32)), .val (.int (1 : Int32))] []))
          refine own_on (fun t k => XS.iload X46.here hx rfl (hb hby at_195) rfl k) ?_
          show OwnGo p e below s _ _ _ (T46.setTop (mkF m 197 #[.val (.int n), .val (.int d), .val (.int n2), .val (.int d2), .val (.int fl), .val (.int z5), .val (.int z6), .val (.int (((fl.toUInt32 >>> ((2 : Int32) &&& 31).toUInt32).toInt32) &&& (3 : Int32))), .val (.int nb), .val (.int db), .val (.ref b1), .val (.ref b5), .val (.ref r_42), .val (.int (0 : Int32)), .val (.int (0 : Int32)), .val (.int (1 : Int32))] [(.int (1 : Int32))]))
          refine own_on (fun t k => XS.ifNo X46.here hx rfl (hb hby at_197) rfl ((if0 _ _).trans (feq (by decide : ¬ ((1 : Int32) = (0 : Int32)))).1) k) ?_
          show OwnGo p e below s _ _ _ (T46.setTop (mkF m 200 #[.val (.int n), .val (.int d), .val (.int n2), .val (.int d2), .val (.int fl), .val (.int z5), .val (.int z6), .val (.int (((fl.toUInt32 >>> ((2 : Int32) &&& 31).toUInt32).toInt32) &&& (3 : Int32))), .val (.int nb), .val (.int db), .val (.ref b1), .val (.ref b5), .val (.ref r_42), .val (.int (0 : Int32)), .val (.int (0 : Int32)), .val (.int (1 : Int32))] []))
          refine own_on (fun t k => XS.iconst X46.here hx rfl (hb hby at_200) k) ?_
          show OwnGo p e below s _ _ _ (T46.setTop (mkF m 201 #[.val (.int n), .val (.int d), .val (.int n2), .val (.int d2), .val (.int fl), .val (.int z5), .val (.int z6), .val (.int (((fl.toUInt32 >>> ((2 : Int32) &&& 31).toUInt32).toInt32) &&& (3 : Int32))), .val (.int nb), .val (.int db), .val (.ref b1), .val (.ref b5), .val (.ref r_42), .val (.int (0 : Int32)), .val (.int (0 : Int32)), .val (.int (1 : Int32))] [(.int (1 : Int32))]))
          refine own_on (fun t k => XS.goto X46.here hx rfl (pc0 := 201) (pc' := 205) rfl (hb hby at_201) (by decide) (by decide) k) ?_
          show OwnGo p e below s _ _ _ (T46.setTop (mkF m 205 #[.val (.int n), .val (.int d), .val (.int n2), .val (.int d2), .val (.int fl), .val (.int z5), .val (.int z6), .val (.int (((fl.toUInt32 >>> ((2 : Int32) &&& 31).toUInt32).toInt32) &&& (3 : Int32))), .val (.int nb), .val (.int db), .val (.ref b1), .val (.ref b5), .val (.ref r_42), .val (.int (0 : Int32)), .val (.int (0 : Int32)), .val (.int (1 : Int32))] [(.int (1 : Int32))]))
          exact own_retN X46 hx hlk (t := .boolean) Bd.returns (by simp) (hb hby at_205) e46 ⟨rfl, N46, K42⟩ (by decide) (by decide)
        · refine own_on (fun t k => XS.icmpYes X10.here hx rfl (pc0 := 133) (pc' := 148) rfl (hb hby at_133) rfl (feq k2).2 (by decide) (by decide) k) ?_
          show OwnGo p e below s _ _ _ (T10.setTop (mkF m 148 #[.val (.int n), .val (.int d), .val (.int n2), .val (.int d2), .val (.int fl), .val (.int z5), .val (.int z6), .val (.int (((fl.toUInt32 >>> ((2 : Int32) &&& 31).toUInt32).toInt32) &&& (3 : Int32))), .val (.int nb), .val (.int db), .val (.ref b1), .val (.ref b5), .unset, .unset, .unset, .unset] []))
          refine own_on (fun t k => XS.aload X10.here hx rfl (hb hby at_148) rfl rfl k) ?_
          show OwnGo p e below s _ _ _ (T10.setTop (mkF m 150 #[.val (.int n), .val (.int d), .val (.int n2), .val (.int d2), .val (.int fl), .val (.int z5), .val (.int z6), .val (.int (((fl.toUInt32 >>> ((2 : Int32) &&& 31).toUInt32).toInt32) &&& (3 : Int32))), .val (.int nb), .val (.int db), .val (.ref b1), .val (.ref b5), .unset, .unset, .unset, .unset] [(.ref b1)]))
          refine own_on (fun t k => XS.astore X10.here hx rfl (hb hby at_150) rfl rfl (l' := #[.val (.int n), .val (.int d), .val (.int n2), .val (.int d2), .val (.int fl), .val (.int z5), .val (.int z6), .val (.int (((fl.toUInt32 >>> ((2 : Int32) &&& 31).toUInt32).toInt32) &&& (3 : Int32))), .val (.int nb), .val (.int db), .val (.ref b1), .val (.ref b5), .val (.ref b1), .unset, .unset, .unset]) rfl k) ?_
          show OwnGo p e below s _ _ _ (T10.setTop (mkF m 152 #[.val (.int n), .val (.int d), .val (.int n2), .val (.int d2), .val (.int fl), .val (.int z5), .val (.int z6), .val (.int (((fl.toUInt32 >>> ((2 : Int32) &&& 31).toUInt32).toInt32) &&& (3 : Int32))), .val (.int nb), .val (.int db), .val (.ref b1), .val (.ref b5), .val (.ref b1), .unset, .unset, .unset] []))
          refine own_on (fun t k => XS.iconst X10.here hx rfl (hb hby at_152) k) ?_
          show OwnGo p e below s _ _ _ (T10.setTop (mkF m 153 #[.val (.int n), .val (.int d), .val (.int n2), .val (.int d2), .val (.int fl), .val (.int z5), .val (.int z6), .val (.int (((fl.toUInt32 >>> ((2 : Int32) &&& 31).toUInt32).toInt32) &&& (3 : Int32))), .val (.int nb), .val (.int db), .val (.ref b1), .val (.ref b5), .val (.ref b1), .unset, .unset, .unset] [(.int (1 : Int32))]))
          refine own_on (fun t k => XS.istore X10.here hx rfl (hb hby at_153) rfl (l' := #[.val (.int n), .val (.int d), .val (.int n2), .val (.int d2), .val (.int fl), .val (.int z5), .val (.int z6), .val (.int (((fl.toUInt32 >>> ((2 : Int32) &&& 31).toUInt32).toInt32) &&& (3 : Int32))), .val (.int nb), .val (.int db), .val (.ref b1), .val (.ref b5), .val (.ref b1), .val (.int (1 : Int32)), .unset, .unset]) rfl k) ?_
          show OwnGo p e below s _ _ _ (T10.setTop (mkF m 155 #[.val (.int n), .val (.int d), .val (.int n2), .val (.int d2), .val (.int fl), .val (.int z5), .val (.int z6), .val (.int (((fl.toUInt32 >>> ((2 : Int32) &&& 31).toUInt32).toInt32) &&& (3 : Int32))), .val (.int nb), .val (.int db), .val (.ref b1), .val (.ref b5), .val (.ref b1), .val (.int (1 : Int32)), .unset, .unset] []))
          refine own_on (fun t k => XS.aload X10.here hx rfl (hb hby at_155) rfl rfl k) ?_
          show OwnGo p e below s _ _ _ (T10.setTop (mkF m 157 #[.val (.int n), .val (.int d), .val (.int n2), .val (.int d2), .val (.int fl), .val (.int z5), .val (.int z6), .val (.int (((fl.toUInt32 >>> ((2 : Int32) &&& 31).toUInt32).toInt32) &&& (3 : Int32))), .val (.int nb), .val (.int db), .val (.ref b1), .val (.ref b5), .val (.ref b1), .val (.int (1 : Int32)), .unset, .unset] [(.ref b1)]))
          refine own_on (fun t k => XS.aload X10.here hx rfl (hb hby at_157) rfl rfl k) ?_
          show OwnGo p e below s _ _ _ (T10.setTop (mkF m 159 #[.val (.int n), .val (.int d), .val (.int n2), .val (.int d2), .val (.int fl), .val (.int z5), .val (.int z6), .val (.int (((fl.toUInt32 >>> ((2 : Int32) &&& 31).toUInt32).toInt32) &&& (3 : Int32))), .val (.int nb), .val (.int db), .val (.ref b1), .val (.ref b5), .val (.ref b1), .val (.int (1 : Int32)), .unset, .unset] [(.ref b1), (.ref b1)]))
          have f47 : Exa Z h5 b1 "com/example/kembar/kembar/FingerprintIndex$Match" := c4_0.ext E5
          have f48 : Exa Z T10.heap b1 "com/example/kembar/kembar/FingerprintIndex$Match" := f47.keep K10q
          have f49 : Fld Z h5 b1 "com/example/kembar/kembar/FingerprintIndex$Match" "number" "I" (.int n) := c4_1.ext E5
          have f50 : Fld Z T10.heap b1 "com/example/kembar/kembar/FingerprintIndex$Match" "number" "I" (.int n) := f49.keep K10q (ninS ne7 nin0)
          have f51 : Fld Z h5 b1 "com/example/kembar/kembar/FingerprintIndex$Match" "distance" "I" (.int d) := c4_2.ext E5
          have f52 : Fld Z T10.heap b1 "com/example/kembar/kembar/FingerprintIndex$Match" "distance" "I" (.int d) := f51.keep K10q (ninS ne7 nin0)
          obtain ⟨cq53, kq53, q53a, q53b, q53c⟩ := isOf hZ rfl f48
          obtain ⟨_, _, ⟨T53, L53, k53, n53⟩, -, X53, ⟨Lc53, hQ53, l53, y53, z53⟩, st53⟩ := X10.virtualBack hx (y := (⟨"com/example/kembar/kembar/FingerprintIndex$Match", "equals", "(Ljava/lang/Object;)Z"⟩ : MethodName)) (z := (⟨"com/example/kembar/kembar/FingerprintIndex$Match", "equals", "(Ljava/lang/Object;)Z"⟩ : MethodName)) hown (mvT hZ (w13 hw)) (mvT hZ (w14 hw)) (notFace_of_selects (args := #[]) (mvT hZ (w16 hw))) (mvT hZ (w16 hw)) (mvT hZ (w15 hw)) (by decide) (backOf (W := 0) (rmeqM l Z a0 hw [] b1 b1 n d n d T10.heap n0 Z10 f48 f48 f50 f52 f50 f52) hZ (w17 hw) (w2 hw) (by decide) (by decide)) q53a q53c (g := (mkF m 159 #[.val (.int n), .val (.int d), .val (.int n2), .val (.int d2), .val (.int fl), .val (.int z5), .val (.int z6), .val (.int (((fl.toUInt32 >>> ((2 : Int32) &&& 31).toUInt32).toInt32) &&& (3 : Int32))), .val (.int nb), .val (.int db), .val (.ref b1), .val (.ref b5), .val (.ref b1), .val (.int (1 : Int32)), .unset, .unset] [(.ref b1), (.ref b1)])) rfl (by rw [hml]; rfl) (Steps.refl _) (argsL := [(.ref b1)]) (rest := []) (lenOf pd_3 rfl) rfl (by show 2 * 0 + _ ≤ _; exact Nat.le_of_eq rfl) (hb hby at_159) (fun _ _ => ⟨rfl, rfl, (by decide : 2 + 0 ≤ _), (by decide : 4 + 0 ≤ _)⟩)
          dsimp only [Pt.U, Pt.locs, Pt.cells, Pt.slots] at X53 l53 y53 z53 st53 hQ53
          subst l53 y53 z53
          obtain ⟨rfl, N53q, e53⟩ := hQ53
          have N53 := Fr.app N10 N53q
          refine own_tr st53 ?_
          show OwnGo p e below s _ _ _ (T53.setTop (mkF m 162 #[.val (.int n), .val (.int d), .val (.int n2), .val (.int d2), .val (.int fl), .val (.int z5), .val (.int z6), .val (.int (((fl.toUInt32 >>> ((2 : Int32) &&& 31).toUInt32).toInt32) &&& (3 : Int32))), .val (.int nb), .val (.int db), .val (.ref b1), .val (.ref b5), .val (.ref b1), .val (.int (1 : Int32)), .unset, .unset] [(.int (own_me n d n d))]))
          rw [show (own_me n d n d) = (1 : Int32) from (by simp [own_me])]
          show OwnGo p e below s _ _ _ (T53.setTop (mkF m 162 #[.val (.int n), .val (.int d), .val (.int n2), .val (.int d2), .val (.int fl), .val (.int z5), .val (.int z6), .val (.int (((fl.toUInt32 >>> ((2 : Int32) &&& 31).toUInt32).toInt32) &&& (3 : Int32))), .val (.int nb), .val (.int db), .val (.ref b1), .val (.ref b5), .val (.ref b1), .val (.int (1 : Int32)), .unset, .unset] [(.int (1 : Int32))]))
          refine own_on (fun t k => XS.istore X53.here hx rfl (hb hby at_162) rfl (l' := #[.val (.int n), .val (.int d), .val (.int n2), .val (.int d2), .val (.int fl), .val (.int z5), .val (.int z6), .val (.int (((fl.toUInt32 >>> ((2 : Int32) &&& 31).toUInt32).toInt32) &&& (3 : Int32))), .val (.int nb), .val (.int db), .val (.ref b1), .val (.ref b5), .val (.ref b1), .val (.int (1 : Int32)), .val (.int (1 : Int32)), .unset]) rfl k) ?_
          show OwnGo p e below s _ _ _ (T53.setTop (mkF m 164 #[.val (.int n), .val (.int d), .val (.int n2), .val (.int d2), .val (.int fl), .val (.int z5), .val (.int z6), .val (.int (((fl.toUInt32 >>> ((2 : Int32) &&& 31).toUInt32).toInt32) &&& (3 : Int32))), .val (.int nb), .val (.int db), .val (.ref b1), .val (.ref b5), .val (.ref b1), .val (.int (1 : Int32)), .val (.int (1 : Int32)), .unset] []))
          refine own_on (fun t k => XS.iload X53.here hx rfl (hb hby at_164) rfl k) ?_
          show OwnGo p e below s _ _ _ (T53.setTop (mkF m 166 #[.val (.int n), .val (.int d), .val (.int n2), .val (.int d2), .val (.int fl), .val (.int z5), .val (.int z6), .val (.int (((fl.toUInt32 >>> ((2 : Int32) &&& 31).toUInt32).toInt32) &&& (3 : Int32))), .val (.int nb), .val (.int db), .val (.ref b1), .val (.ref b5), .val (.ref b1), .val (.int (1 : Int32)), .val (.int (1 : Int32)), .unset] [(.int (((fl.toUInt32 >>> ((2 : Int32) &&& 31).toUInt32).toInt32) &&& (3 : Int32)))]))
          refine own_on (fun t k => XS.ifYes X53.here hx rfl (pc0 := 166) (pc' := 181) rfl (hb hby at_166) rfl ((if0 _ _).trans (feq k0).2) (by decide) (by decide) k) ?_
          show OwnGo p e below s _ _ _ (T53.setTop (mkF m 181 #[.val (.int n), .val (.int d), .val (.int n2), .val (.int d2), .val (.int fl), .val (.int z5), .val (.int z6), .val (.int (((fl.toUInt32 >>> ((2 : Int32) &&& 31).toUInt32).toInt32) &&& (3 : Int32))), .val (.int nb), .val (.int db), .val (.ref b1), .val (.ref b5), .val (.ref b1), .val (.int (1 : Int32)), .val (.int (1 : Int32)), .unset] []))
          refine own_on (fun t k => XS.iconst X53.here hx rfl (hb hby at_181) k) ?_
          show OwnGo p e below s _ _ _ (T53.setTop (mkF m 182 #[.val (.int n), .val (.int d), .val (.int n2), .val (.int d2), .val (.int fl), .val (.int z5), .val (.int z6), .val (.int (((fl.toUInt32 >>> ((2 : Int32) &&& 31).toUInt32).toInt32) &&& (3 : Int32))), .val (.int nb), .val (.int db), .val (.ref b1), .val (.ref b5), .val (.ref b1), .val (.int (1 : Int32)), .val (.int (1 : Int32)), .unset] [(.int (1 : Int32))]))
          refine own_on (fun t k => XS.goto X53.here hx rfl (pc0 := 182) (pc' := 186) rfl (hb hby at_182) (by decide) (by decide) k) ?_
          show OwnGo p e below s _ _ _ (T53.setTop (mkF m 186 #[.val (.int n), .val (.int d), .val (.int n2), .val (.int d2), .val (.int fl), .val (.int z5), .val (.int z6), .val (.int (((fl.toUInt32 >>> ((2 : Int32) &&& 31).toUInt32).toInt32) &&& (3 : Int32))), .val (.int nb), .val (.int db), .val (.ref b1), .val (.ref b5), .val (.ref b1), .val (.int (1 : Int32)), .val (.int (1 : Int32)), .unset] [(.int (1 : Int32))]))
          refine own_on (fun t k => XS.istore X53.here hx rfl (hb hby at_186) rfl (l' := #[.val (.int n), .val (.int d), .val (.int n2), .val (.int d2), .val (.int fl), .val (.int z5), .val (.int z6), .val (.int (((fl.toUInt32 >>> ((2 : Int32) &&& 31).toUInt32).toInt32) &&& (3 : Int32))), .val (.int nb), .val (.int db), .val (.ref b1), .val (.ref b5), .val (.ref b1), .val (.int (1 : Int32)), .val (.int (1 : Int32)), .val (.int (1 : Int32))]) rfl k) ?_
          show OwnGo p e below s _ _ _ (T53.setTop (mkF m 188 #[.val (.int n), .val (.int d), .val (.int n2), .val (.int d2), .val (.int fl), .val (.int z5), .val (.int z6), .val (.int (((fl.toUInt32 >>> ((2 : Int32) &&& 31).toUInt32).toInt32) &&& (3 : Int32))), .val (.int nb), .val (.int db), .val (.ref b1), .val (.ref b5), .val (.ref b1), .val (.int (1 : Int32)), .val (.int (1 : Int32)), .val (.int (1 : Int32))] []))
          refine own_on (fun t k => XS.iload X53.here hx rfl (hb hby at_188) rfl k) ?_
          show OwnGo p e below s _ _ _ (T53.setTop (mkF m 190 #[.val (.int n), .val (.int d), .val (.int n2), .val (.int d2), .val (.int fl), .val (.int z5), .val (.int z6), .val (.int (((fl.toUInt32 >>> ((2 : Int32) &&& 31).toUInt32).toInt32) &&& (3 : Int32))), .val (.int nb), .val (.int db), .val (.ref b1), .val (.ref b5), .val (.ref b1), .val (.int (1 : Int32)), .val (.int (1 : Int32)), .val (.int (1 : Int32))] [(.int (1 : Int32))]))
          refine own_on (fun t k => XS.iload X53.here hx rfl (hb hby at_190) rfl k) ?_
          show OwnGo p e below s _ _ _ (T53.setTop (mkF m 192 #[.val (.int n), .val (.int d), .val (.int n2), .val (.int d2), .val (.int fl), .val (.int z5), .val (.int z6), .val (.int (((fl.toUInt32 >>> ((2 : Int32) &&& 31).toUInt32).toInt32) &&& (3 : Int32))), .val (.int nb), .val (.int db), .val (.ref b1), .val (.ref b5), .val (.ref b1), .val (.int (1 : Int32)), .val (.int (1 : Int32)), .val (.int (1 : Int32))] [(.int (1 : Int32)), (.int (1 : Int32))]))
          refine own_on (fun t k => XS.icmpNo X53.here hx rfl (hb hby at_192) rfl (teq (by decide : (1 : Int32) = (1 : Int32))).2 k) ?_
          show OwnGo p e below s _ _ _ (T53.setTop (mkF m 195 #[.val (.int n), .val (.int d), .val (.int n2), .val (.int d2), .val (.int fl), .val (.int z5), .val (.int z6), .val (.int (((fl.toUInt32 >>> ((2 : Int32) &&& 31).toUInt32).toInt32) &&& (3 : Int32))), .val (.int nb), .val (.int db), .val (.ref b1), .val (.ref b5), .val (.ref b1), .val (.int (1 : Int32)), .val (.int (1 : Int32)), .val (.int (1 : Int32))] []))
          refine own_on (fun t k => XS.iload X53.here hx rfl (hb hby at_195) rfl k) ?_
          show OwnGo p e below s _ _ _ (T53.setTop (mkF m 197 #[.val (.int n), .val (.int d), .val (.int n2), .val (.int d2), .val (.int fl), .val (.int z5), .val (.int z6), .val (.int (((fl.toUInt32 >>> ((2 : Int32) &&& 31).toUInt32).toInt32) &&& (3 : Int32))), .val (.int nb), .val (.int db), .val (.ref b1), .val (.ref b5), .val (.ref b1), .val (.int (1 : Int32)), .val (.int (1 : Int32)), .val (.int (1 : Int32))] [(.int (1 : Int32))]))
          refine own_on (fun t k => XS.ifNo X53.here hx rfl (hb hby at_197) rfl ((if0 _ _).trans (feq (by decide : ¬ ((1 : Int32) = (0 : Int32)))).1) k) ?_
          show OwnGo p e below s _ _ _ (T53.setTop (mkF m 200 #[.val (.int n), .val (.int d), .val (.int n2), .val (.int d2), .val (.int fl), .val (.int z5), .val (.int z6), .val (.int (((fl.toUInt32 >>> ((2 : Int32) &&& 31).toUInt32).toInt32) &&& (3 : Int32))), .val (.int nb), .val (.int db), .val (.ref b1), .val (.ref b5), .val (.ref b1), .val (.int (1 : Int32)), .val (.int (1 : Int32)), .val (.int (1 : Int32))] []))
          refine own_on (fun t k => XS.iconst X53.here hx rfl (hb hby at_200) k) ?_
          show OwnGo p e below s _ _ _ (T53.setTop (mkF m 201 #[.val (.int n), .val (.int d), .val (.int n2), .val (.int d2), .val (.int fl), .val (.int z5), .val (.int z6), .val (.int (((fl.toUInt32 >>> ((2 : Int32) &&& 31).toUInt32).toInt32) &&& (3 : Int32))), .val (.int nb), .val (.int db), .val (.ref b1), .val (.ref b5), .val (.ref b1), .val (.int (1 : Int32)), .val (.int (1 : Int32)), .val (.int (1 : Int32))] [(.int (1 : Int32))]))
          refine own_on (fun t k => XS.goto X53.here hx rfl (pc0 := 201) (pc' := 205) rfl (hb hby at_201) (by decide) (by decide) k) ?_
          show OwnGo p e below s _ _ _ (T53.setTop (mkF m 205 #[.val (.int n), .val (.int d), .val (.int n2), .val (.int d2), .val (.int fl), .val (.int z5), .val (.int z6), .val (.int (((fl.toUInt32 >>> ((2 : Int32) &&& 31).toUInt32).toInt32) &&& (3 : Int32))), .val (.int nb), .val (.int db), .val (.ref b1), .val (.ref b5), .val (.ref b1), .val (.int (1 : Int32)), .val (.int (1 : Int32)), .val (.int (1 : Int32))] [(.int (1 : Int32))]))
          exact own_retN X53 hx hlk (t := .boolean) Bd.returns (by simp) (hb hby at_205) e53 ⟨rfl, N53, K10⟩ (by decide) (by decide)
  refine own_on (fun t k => XS.iload X0.here hx rfl (hb hby at_0) rfl k) ?_
  show OwnGo p e below s _ _ _ (s₁.setTop (mkF m 2 #[.val (.int n), .val (.int d), .val (.int n2), .val (.int d2), .val (.int fl), .unset, .unset, .unset, .unset, .unset, .unset, .unset, .unset, .unset, .unset, .unset] [(.int fl)]))
  refine own_on (fun t k => XS.iconst X0.here hx rfl (hb hby at_2) k) ?_
  show OwnGo p e below s _ _ _ (s₁.setTop (mkF m 3 #[.val (.int n), .val (.int d), .val (.int n2), .val (.int d2), .val (.int fl), .unset, .unset, .unset, .unset, .unset, .unset, .unset, .unset, .unset, .unset, .unset] [(.int (1 : Int32)), (.int fl)]))
  refine own_on (fun t k => XS.iand X0.here hx rfl (hb hby at_3) rfl k) ?_
  show OwnGo p e below s _ _ _ (s₁.setTop (mkF m 4 #[.val (.int n), .val (.int d), .val (.int n2), .val (.int d2), .val (.int fl), .unset, .unset, .unset, .unset, .unset, .unset, .unset, .unset, .unset, .unset, .unset] [(.int (fl &&& (1 : Int32)))]))
  by_cases f0 : (fl &&& (1 : Int32)) = (0 : Int32)
  · refine own_on (fun t k => XS.ifYes X0.here hx rfl (pc0 := 4) (pc' := 11) rfl (hb hby at_4) rfl ((if0 _ _).trans (teq f0).1) (by decide) (by decide) k) ?_
    show OwnGo p e below s _ _ _ (s₁.setTop (mkF m 11 #[.val (.int n), .val (.int d), .val (.int n2), .val (.int d2), .val (.int fl), .unset, .unset, .unset, .unset, .unset, .unset, .unset, .unset, .unset, .unset, .unset] []))
    refine own_on (fun t k => XS.iconst X0.here hx rfl (hb hby at_11) k) ?_
    show OwnGo p e below s _ _ _ (s₁.setTop (mkF m 12 #[.val (.int n), .val (.int d), .val (.int n2), .val (.int d2), .val (.int fl), .unset, .unset, .unset, .unset, .unset, .unset, .unset, .unset, .unset, .unset, .unset] [(.int (0 : Int32))]))
    refine own_on (fun t k => XS.istore X0.here hx rfl (hb hby at_12) rfl (l' := #[.val (.int n), .val (.int d), .val (.int n2), .val (.int d2), .val (.int fl), .val (.int (0 : Int32)), .unset, .unset, .unset, .unset, .unset, .unset, .unset, .unset, .unset, .unset]) rfl k) ?_
    show OwnGo p e below s _ _ _ (s₁.setTop (mkF m 14 #[.val (.int n), .val (.int d), .val (.int n2), .val (.int d2), .val (.int fl), .val (.int (0 : Int32)), .unset, .unset, .unset, .unset, .unset, .unset, .unset, .unset, .unset, .unset] []))
    refine own_on (fun t k => XS.iload X0.here hx rfl (hb hby at_14) rfl k) ?_
    show OwnGo p e below s _ _ _ (s₁.setTop (mkF m 16 #[.val (.int n), .val (.int d), .val (.int n2), .val (.int d2), .val (.int fl), .val (.int (0 : Int32)), .unset, .unset, .unset, .unset, .unset, .unset, .unset, .unset, .unset, .unset] [(.int fl)]))
    refine own_on (fun t k => XS.iconst X0.here hx rfl (hb hby at_16) k) ?_
    show OwnGo p e below s _ _ _ (s₁.setTop (mkF m 17 #[.val (.int n), .val (.int d), .val (.int n2), .val (.int d2), .val (.int fl), .val (.int (0 : Int32)), .unset, .unset, .unset, .unset, .unset, .unset, .unset, .unset, .unset, .unset] [(.int (2 : Int32)), (.int fl)]))
    refine own_on (fun t k => XS.iand X0.here hx rfl (hb hby at_17) rfl k) ?_
    show OwnGo p e below s _ _ _ (s₁.setTop (mkF m 18 #[.val (.int n), .val (.int d), .val (.int n2), .val (.int d2), .val (.int fl), .val (.int (0 : Int32)), .unset, .unset, .unset, .unset, .unset, .unset, .unset, .unset, .unset, .unset] [(.int (fl &&& (2 : Int32)))]))
    by_cases f1 : (fl &&& (2 : Int32)) = (0 : Int32)
    · refine own_on (fun t k => XS.ifYes X0.here hx rfl (pc0 := 18) (pc' := 25) rfl (hb hby at_18) rfl ((if0 _ _).trans (teq f1).1) (by decide) (by decide) k) ?_
      show OwnGo p e below s _ _ _ (s₁.setTop (mkF m 25 #[.val (.int n), .val (.int d), .val (.int n2), .val (.int d2), .val (.int fl), .val (.int (0 : Int32)), .unset, .unset, .unset, .unset, .unset, .unset, .unset, .unset, .unset, .unset] []))
      refine own_on (fun t k => XS.iconst X0.here hx rfl (hb hby at_25) k) ?_
      show OwnGo p e below s _ _ _ (s₁.setTop (mkF m 26 #[.val (.int n), .val (.int d), .val (.int n2), .val (.int d2), .val (.int fl), .val (.int (0 : Int32)), .unset, .unset, .unset, .unset, .unset, .unset, .unset, .unset, .unset, .unset] [(.int (0 : Int32))]))
      refine own_on (fun t k => XS.istore X0.here hx rfl (hb hby at_26) rfl (l' := #[.val (.int n), .val (.int d), .val (.int n2), .val (.int d2), .val (.int fl), .val (.int (0 : Int32)), .val (.int (0 : Int32)), .unset, .unset, .unset, .unset, .unset, .unset, .unset, .unset, .unset]) rfl k) ?_
      show OwnGo p e below s _ _ _ (s₁.setTop (mkF m 28 #[.val (.int n), .val (.int d), .val (.int n2), .val (.int d2), .val (.int fl), .val (.int (0 : Int32)), .val (.int (0 : Int32)), .unset, .unset, .unset, .unset, .unset, .unset, .unset, .unset, .unset] []))
      refine own_on (fun t k => XS.iload X0.here hx rfl (hb hby at_28) rfl k) ?_
      show OwnGo p e below s _ _ _ (s₁.setTop (mkF m 30 #[.val (.int n), .val (.int d), .val (.int n2), .val (.int d2), .val (.int fl), .val (.int (0 : Int32)), .val (.int (0 : Int32)), .unset, .unset, .unset, .unset, .unset, .unset, .unset, .unset, .unset] [(.int fl)]))
      refine own_on (fun t k => XS.iconst X0.here hx rfl (hb hby at_30) k) ?_
      show OwnGo p e below s _ _ _ (s₁.setTop (mkF m 31 #[.val (.int n), .val (.int d), .val (.int n2), .val (.int d2), .val (.int fl), .val (.int (0 : Int32)), .val (.int (0 : Int32)), .unset, .unset, .unset, .unset, .unset, .unset, .unset, .unset, .unset] [(.int (2 : Int32)), (.int fl)]))
      refine own_on (fun t k => XS.iushr X0.here hx rfl (hb hby at_31) rfl k) ?_
      show OwnGo p e below s _ _ _ (s₁.setTop (mkF m 32 #[.val (.int n), .val (.int d), .val (.int n2), .val (.int d2), .val (.int fl), .val (.int (0 : Int32)), .val (.int (0 : Int32)), .unset, .unset, .unset, .unset, .unset, .unset, .unset, .unset, .unset] [(.int ((fl.toUInt32 >>> ((2 : Int32) &&& 31).toUInt32).toInt32))]))
      refine own_on (fun t k => XS.iconst X0.here hx rfl (hb hby at_32) k) ?_
      show OwnGo p e below s _ _ _ (s₁.setTop (mkF m 33 #[.val (.int n), .val (.int d), .val (.int n2), .val (.int d2), .val (.int fl), .val (.int (0 : Int32)), .val (.int (0 : Int32)), .unset, .unset, .unset, .unset, .unset, .unset, .unset, .unset, .unset] [(.int (3 : Int32)), (.int ((fl.toUInt32 >>> ((2 : Int32) &&& 31).toUInt32).toInt32))]))
      refine own_on (fun t k => XS.iand X0.here hx rfl (hb hby at_33) rfl k) ?_
      show OwnGo p e below s _ _ _ (s₁.setTop (mkF m 34 #[.val (.int n), .val (.int d), .val (.int n2), .val (.int d2), .val (.int fl), .val (.int (0 : Int32)), .val (.int (0 : Int32)), .unset, .unset, .unset, .unset, .unset, .unset, .unset, .unset, .unset] [(.int (((fl.toUInt32 >>> ((2 : Int32) &&& 31).toUInt32).toInt32) &&& (3 : Int32)))]))
      refine own_on (fun t k => XS.istore X0.here hx rfl (hb hby at_34) rfl (l' := #[.val (.int n), .val (.int d), .val (.int n2), .val (.int d2), .val (.int fl), .val (.int (0 : Int32)), .val (.int (0 : Int32)), .val (.int (((fl.toUInt32 >>> ((2 : Int32) &&& 31).toUInt32).toInt32) &&& (3 : Int32))), .unset, .unset, .unset, .unset, .unset, .unset, .unset, .unset]) rfl k) ?_
      show OwnGo p e below s _ _ _ (s₁.setTop (mkF m 36 #[.val (.int n), .val (.int d), .val (.int n2), .val (.int d2), .val (.int fl), .val (.int (0 : Int32)), .val (.int (0 : Int32)), .val (.int (((fl.toUInt32 >>> ((2 : Int32) &&& 31).toUInt32).toInt32) &&& (3 : Int32))), .unset, .unset, .unset, .unset, .unset, .unset, .unset, .unset] []))
      refine own_on (fun t k => XS.iload X0.here hx rfl (hb hby at_36) rfl k) ?_
      show OwnGo p e below s _ _ _ (s₁.setTop (mkF m 38 #[.val (.int n), .val (.int d), .val (.int n2), .val (.int d2), .val (.int fl), .val (.int (0 : Int32)), .val (.int (0 : Int32)), .val (.int (((fl.toUInt32 >>> ((2 : Int32) &&& 31).toUInt32).toInt32) &&& (3 : Int32))), .unset, .unset, .unset, .unset, .unset, .unset, .unset, .unset] [(.int (0 : Int32))]))
      refine own_on (fun t k => XS.ifYes X0.here hx rfl (pc0 := 38) (pc' := 45) rfl (hb hby at_38) rfl ((if0 _ _).trans (teq (by decide : (0 : Int32) = (0 : Int32))).1) (by decide) (by decide) k) ?_
      show OwnGo p e below s _ _ _ (s₁.setTop (mkF m 45 #[.val (.int n), .val (.int d), .val (.int n2), .val (.int d2), .val (.int fl), .val (.int (0 : Int32)), .val (.int (0 : Int32)), .val (.int (((fl.toUInt32 >>> ((2 : Int32) &&& 31).toUInt32).toInt32) &&& (3 : Int32))), .unset, .unset, .unset, .unset, .unset, .unset, .unset, .unset] []))
      refine own_on (fun t k => XS.iloadN X0.here hx rfl (hb hby at_45) rfl k) ?_
      show OwnGo p e below s _ _ _ (s₁.setTop (mkF m 46 #[.val (.int n), .val (.int d), .val (.int n2), .val (.int d2), .val (.int fl), .val (.int (0 : Int32)), .val (.int (0 : Int32)), .val (.int (((fl.toUInt32 >>> ((2 : Int32) &&& 31).toUInt32).toInt32) &&& (3 : Int32))), .unset, .unset, .unset, .unset, .unset, .unset, .unset, .unset] [(.int n2)]))
      refine own_on (fun t k => XS.istore X0.here hx rfl (hb hby at_46) rfl (l' := #[.val (.int n), .val (.int d), .val (.int n2), .val (.int d2), .val (.int fl), .val (.int (0 : Int32)), .val (.int (0 : Int32)), .val (.int (((fl.toUInt32 >>> ((2 : Int32) &&& 31).toUInt32).toInt32) &&& (3 : Int32))), .val (.int n2), .unset, .unset, .unset, .unset, .unset, .unset, .unset]) rfl k) ?_
      show OwnGo p e below s _ _ _ (s₁.setTop (mkF m 48 #[.val (.int n), .val (.int d), .val (.int n2), .val (.int d2), .val (.int fl), .val (.int (0 : Int32)), .val (.int (0 : Int32)), .val (.int (((fl.toUInt32 >>> ((2 : Int32) &&& 31).toUInt32).toInt32) &&& (3 : Int32))), .val (.int n2), .unset, .unset, .unset, .unset, .unset, .unset, .unset] []))
      refine own_on (fun t k => XS.iload X0.here hx rfl (hb hby at_48) rfl k) ?_
      show OwnGo p e below s _ _ _ (s₁.setTop (mkF m 50 #[.val (.int n), .val (.int d), .val (.int n2), .val (.int d2), .val (.int fl), .val (.int (0 : Int32)), .val (.int (0 : Int32)), .val (.int (((fl.toUInt32 >>> ((2 : Int32) &&& 31).toUInt32).toInt32) &&& (3 : Int32))), .val (.int n2), .unset, .unset, .unset, .unset, .unset, .unset, .unset] [(.int (0 : Int32))]))
      refine own_on (fun t k => XS.ifYes X0.here hx rfl (pc0 := 50) (pc' := 57) rfl (hb hby at_50) rfl ((if0 _ _).trans (teq (by decide : (0 : Int32) = (0 : Int32))).1) (by decide) (by decide) k) ?_
      show OwnGo p e below s _ _ _ (s₁.setTop (mkF m 57 #[.val (.int n), .val (.int d), .val (.int n2), .val (.int d2), .val (.int fl), .val (.int (0 : Int32)), .val (.int (0 : Int32)), .val (.int (((fl.toUInt32 >>> ((2 : Int32) &&& 31).toUInt32).toInt32) &&& (3 : Int32))), .val (.int n2), .unset, .unset, .unset, .unset, .unset, .unset, .unset] []))
      refine own_on (fun t k => XS.iloadN X0.here hx rfl (hb hby at_57) rfl k) ?_
      show OwnGo p e below s _ _ _ (s₁.setTop (mkF m 58 #[.val (.int n), .val (.int d), .val (.int n2), .val (.int d2), .val (.int fl), .val (.int (0 : Int32)), .val (.int (0 : Int32)), .val (.int (((fl.toUInt32 >>> ((2 : Int32) &&& 31).toUInt32).toInt32) &&& (3 : Int32))), .val (.int n2), .unset, .unset, .unset, .unset, .unset, .unset, .unset] [(.int d2)]))
      refine own_on (fun t k => XS.istore X0.here hx rfl (hb hby at_58) rfl (l' := #[.val (.int n), .val (.int d), .val (.int n2), .val (.int d2), .val (.int fl), .val (.int (0 : Int32)), .val (.int (0 : Int32)), .val (.int (((fl.toUInt32 >>> ((2 : Int32) &&& 31).toUInt32).toInt32) &&& (3 : Int32))), .val (.int n2), .val (.int d2), .unset, .unset, .unset, .unset, .unset, .unset]) rfl k) ?_
      show OwnGo p e below s _ _ _ (s₁.setTop (mkF m 60 #[.val (.int n), .val (.int d), .val (.int n2), .val (.int d2), .val (.int fl), .val (.int (0 : Int32)), .val (.int (0 : Int32)), .val (.int (((fl.toUInt32 >>> ((2 : Int32) &&& 31).toUInt32).toInt32) &&& (3 : Int32))), .val (.int n2), .val (.int d2), .unset, .unset, .unset, .unset, .unset, .unset] []))
      exact J _ _ _ _
    · refine own_on (fun t k => XS.ifNo X0.here hx rfl (hb hby at_18) rfl ((if0 _ _).trans (feq f1).1) k) ?_
      show OwnGo p e below s _ _ _ (s₁.setTop (mkF m 21 #[.val (.int n), .val (.int d), .val (.int n2), .val (.int d2), .val (.int fl), .val (.int (0 : Int32)), .unset, .unset, .unset, .unset, .unset, .unset, .unset, .unset, .unset, .unset] []))
      refine own_on (fun t k => XS.iconst X0.here hx rfl (hb hby at_21) k) ?_
      show OwnGo p e below s _ _ _ (s₁.setTop (mkF m 22 #[.val (.int n), .val (.int d), .val (.int n2), .val (.int d2), .val (.int fl), .val (.int (0 : Int32)), .unset, .unset, .unset, .unset, .unset, .unset, .unset, .unset, .unset, .unset] [(.int (1 : Int32))]))
      refine own_on (fun t k => XS.goto X0.here hx rfl (pc0 := 22) (pc' := 26) rfl (hb hby at_22) (by decide) (by decide) k) ?_
      show OwnGo p e below s _ _ _ (s₁.setTop (mkF m 26 #[.val (.int n), .val (.int d), .val (.int n2), .val (.int d2), .val (.int fl), .val (.int (0 : Int32)), .unset, .unset, .unset, .unset, .unset, .unset, .unset, .unset, .unset, .unset] [(.int (1 : Int32))]))
      refine own_on (fun t k => XS.istore X0.here hx rfl (hb hby at_26) rfl (l' := #[.val (.int n), .val (.int d), .val (.int n2), .val (.int d2), .val (.int fl), .val (.int (0 : Int32)), .val (.int (1 : Int32)), .unset, .unset, .unset, .unset, .unset, .unset, .unset, .unset, .unset]) rfl k) ?_
      show OwnGo p e below s _ _ _ (s₁.setTop (mkF m 28 #[.val (.int n), .val (.int d), .val (.int n2), .val (.int d2), .val (.int fl), .val (.int (0 : Int32)), .val (.int (1 : Int32)), .unset, .unset, .unset, .unset, .unset, .unset, .unset, .unset, .unset] []))
      refine own_on (fun t k => XS.iload X0.here hx rfl (hb hby at_28) rfl k) ?_
      show OwnGo p e below s _ _ _ (s₁.setTop (mkF m 30 #[.val (.int n), .val (.int d), .val (.int n2), .val (.int d2), .val (.int fl), .val (.int (0 : Int32)), .val (.int (1 : Int32)), .unset, .unset, .unset, .unset, .unset, .unset, .unset, .unset, .unset] [(.int fl)]))
      refine own_on (fun t k => XS.iconst X0.here hx rfl (hb hby at_30) k) ?_
      show OwnGo p e below s _ _ _ (s₁.setTop (mkF m 31 #[.val (.int n), .val (.int d), .val (.int n2), .val (.int d2), .val (.int fl), .val (.int (0 : Int32)), .val (.int (1 : Int32)), .unset, .unset, .unset, .unset, .unset, .unset, .unset, .unset, .unset] [(.int (2 : Int32)), (.int fl)]))
      refine own_on (fun t k => XS.iushr X0.here hx rfl (hb hby at_31) rfl k) ?_
      show OwnGo p e below s _ _ _ (s₁.setTop (mkF m 32 #[.val (.int n), .val (.int d), .val (.int n2), .val (.int d2), .val (.int fl), .val (.int (0 : Int32)), .val (.int (1 : Int32)), .unset, .unset, .unset, .unset, .unset, .unset, .unset, .unset, .unset] [(.int ((fl.toUInt32 >>> ((2 : Int32) &&& 31).toUInt32).toInt32))]))
      refine own_on (fun t k => XS.iconst X0.here hx rfl (hb hby at_32) k) ?_
      show OwnGo p e below s _ _ _ (s₁.setTop (mkF m 33 #[.val (.int n), .val (.int d), .val (.int n2), .val (.int d2), .val (.int fl), .val (.int (0 : Int32)), .val (.int (1 : Int32)), .unset, .unset, .unset, .unset, .unset, .unset, .unset, .unset, .unset] [(.int (3 : Int32)), (.int ((fl.toUInt32 >>> ((2 : Int32) &&& 31).toUInt32).toInt32))]))
      refine own_on (fun t k => XS.iand X0.here hx rfl (hb hby at_33) rfl k) ?_
      show OwnGo p e below s _ _ _ (s₁.setTop (mkF m 34 #[.val (.int n), .val (.int d), .val (.int n2), .val (.int d2), .val (.int fl), .val (.int (0 : Int32)), .val (.int (1 : Int32)), .unset, .unset, .unset, .unset, .unset, .unset, .unset, .unset, .unset] [(.int (((fl.toUInt32 >>> ((2 : Int32) &&& 31).toUInt32).toInt32) &&& (3 : Int32)))]))
      refine own_on (fun t k => XS.istore X0.here hx rfl (hb hby at_34) rfl (l' := #[.val (.int n), .val (.int d), .val (.int n2), .val (.int d2), .val (.int fl), .val (.int (0 : Int32)), .val (.int (1 : Int32)), .val (.int (((fl.toUInt32 >>> ((2 : Int32) &&& 31).toUInt32).toInt32) &&& (3 : Int32))), .unset, .unset, .unset, .unset, .unset, .unset, .unset, .unset]) rfl k) ?_
      show OwnGo p e below s _ _ _ (s₁.setTop (mkF m 36 #[.val (.int n), .val (.int d), .val (.int n2), .val (.int d2), .val (.int fl), .val (.int (0 : Int32)), .val (.int (1 : Int32)), .val (.int (((fl.toUInt32 >>> ((2 : Int32) &&& 31).toUInt32).toInt32) &&& (3 : Int32))), .unset, .unset, .unset, .unset, .unset, .unset, .unset, .unset] []))
      refine own_on (fun t k => XS.iload X0.here hx rfl (hb hby at_36) rfl k) ?_
      show OwnGo p e below s _ _ _ (s₁.setTop (mkF m 38 #[.val (.int n), .val (.int d), .val (.int n2), .val (.int d2), .val (.int fl), .val (.int (0 : Int32)), .val (.int (1 : Int32)), .val (.int (((fl.toUInt32 >>> ((2 : Int32) &&& 31).toUInt32).toInt32) &&& (3 : Int32))), .unset, .unset, .unset, .unset, .unset, .unset, .unset, .unset] [(.int (0 : Int32))]))
      refine own_on (fun t k => XS.ifYes X0.here hx rfl (pc0 := 38) (pc' := 45) rfl (hb hby at_38) rfl ((if0 _ _).trans (teq (by decide : (0 : Int32) = (0 : Int32))).1) (by decide) (by decide) k) ?_
      show OwnGo p e below s _ _ _ (s₁.setTop (mkF m 45 #[.val (.int n), .val (.int d), .val (.int n2), .val (.int d2), .val (.int fl), .val (.int (0 : Int32)), .val (.int (1 : Int32)), .val (.int (((fl.toUInt32 >>> ((2 : Int32) &&& 31).toUInt32).toInt32) &&& (3 : Int32))), .unset, .unset, .unset, .unset, .unset, .unset, .unset, .unset] []))
      refine own_on (fun t k => XS.iloadN X0.here hx rfl (hb hby at_45) rfl k) ?_
      show OwnGo p e below s _ _ _ (s₁.setTop (mkF m 46 #[.val (.int n), .val (.int d), .val (.int n2), .val (.int d2), .val (.int fl), .val (.int (0 : Int32)), .val (.int (1 : Int32)), .val (.int (((fl.toUInt32 >>> ((2 : Int32) &&& 31).toUInt32).toInt32) &&& (3 : Int32))), .unset, .unset, .unset, .unset, .unset, .unset, .unset, .unset] [(.int n2)]))
      refine own_on (fun t k => XS.istore X0.here hx rfl (hb hby at_46) rfl (l' := #[.val (.int n), .val (.int d), .val (.int n2), .val (.int d2), .val (.int fl), .val (.int (0 : Int32)), .val (.int (1 : Int32)), .val (.int (((fl.toUInt32 >>> ((2 : Int32) &&& 31).toUInt32).toInt32) &&& (3 : Int32))), .val (.int n2), .unset, .unset, .unset, .unset, .unset, .unset, .unset]) rfl k) ?_
      show OwnGo p e below s _ _ _ (s₁.setTop (mkF m 48 #[.val (.int n), .val (.int d), .val (.int n2), .val (.int d2), .val (.int fl), .val (.int (0 : Int32)), .val (.int (1 : Int32)), .val (.int (((fl.toUInt32 >>> ((2 : Int32) &&& 31).toUInt32).toInt32) &&& (3 : Int32))), .val (.int n2), .unset, .unset, .unset, .unset, .unset, .unset, .unset] []))
      refine own_on (fun t k => XS.iload X0.here hx rfl (hb hby at_48) rfl k) ?_
      show OwnGo p e below s _ _ _ (s₁.setTop (mkF m 50 #[.val (.int n), .val (.int d), .val (.int n2), .val (.int d2), .val (.int fl), .val (.int (0 : Int32)), .val (.int (1 : Int32)), .val (.int (((fl.toUInt32 >>> ((2 : Int32) &&& 31).toUInt32).toInt32) &&& (3 : Int32))), .val (.int n2), .unset, .unset, .unset, .unset, .unset, .unset, .unset] [(.int (1 : Int32))]))
      refine own_on (fun t k => XS.ifNo X0.here hx rfl (hb hby at_50) rfl ((if0 _ _).trans (feq (by decide : ¬ ((1 : Int32) = (0 : Int32)))).1) k) ?_
      show OwnGo p e below s _ _ _ (s₁.setTop (mkF m 53 #[.val (.int n), .val (.int d), .val (.int n2), .val (.int d2), .val (.int fl), .val (.int (0 : Int32)), .val (.int (1 : Int32)), .val (.int (((fl.toUInt32 >>> ((2 : Int32) &&& 31).toUInt32).toInt32) &&& (3 : Int32))), .val (.int n2), .unset, .unset, .unset, .unset, .unset, .unset, .unset] []))
      refine own_on (fun t k => XS.iloadN X0.here hx rfl (hb hby at_53) rfl k) ?_
      show OwnGo p e below s _ _ _ (s₁.setTop (mkF m 54 #[.val (.int n), .val (.int d), .val (.int n2), .val (.int d2), .val (.int fl), .val (.int (0 : Int32)), .val (.int (1 : Int32)), .val (.int (((fl.toUInt32 >>> ((2 : Int32) &&& 31).toUInt32).toInt32) &&& (3 : Int32))), .val (.int n2), .unset, .unset, .unset, .unset, .unset, .unset, .unset] [(.int d)]))
      refine own_on (fun t k => XS.goto X0.here hx rfl (pc0 := 54) (pc' := 58) rfl (hb hby at_54) (by decide) (by decide) k) ?_
      show OwnGo p e below s _ _ _ (s₁.setTop (mkF m 58 #[.val (.int n), .val (.int d), .val (.int n2), .val (.int d2), .val (.int fl), .val (.int (0 : Int32)), .val (.int (1 : Int32)), .val (.int (((fl.toUInt32 >>> ((2 : Int32) &&& 31).toUInt32).toInt32) &&& (3 : Int32))), .val (.int n2), .unset, .unset, .unset, .unset, .unset, .unset, .unset] [(.int d)]))
      refine own_on (fun t k => XS.istore X0.here hx rfl (hb hby at_58) rfl (l' := #[.val (.int n), .val (.int d), .val (.int n2), .val (.int d2), .val (.int fl), .val (.int (0 : Int32)), .val (.int (1 : Int32)), .val (.int (((fl.toUInt32 >>> ((2 : Int32) &&& 31).toUInt32).toInt32) &&& (3 : Int32))), .val (.int n2), .val (.int d), .unset, .unset, .unset, .unset, .unset, .unset]) rfl k) ?_
      show OwnGo p e below s _ _ _ (s₁.setTop (mkF m 60 #[.val (.int n), .val (.int d), .val (.int n2), .val (.int d2), .val (.int fl), .val (.int (0 : Int32)), .val (.int (1 : Int32)), .val (.int (((fl.toUInt32 >>> ((2 : Int32) &&& 31).toUInt32).toInt32) &&& (3 : Int32))), .val (.int n2), .val (.int d), .unset, .unset, .unset, .unset, .unset, .unset] []))
      exact J _ _ _ _
  · refine own_on (fun t k => XS.ifNo X0.here hx rfl (hb hby at_4) rfl ((if0 _ _).trans (feq f0).1) k) ?_
    show OwnGo p e below s _ _ _ (s₁.setTop (mkF m 7 #[.val (.int n), .val (.int d), .val (.int n2), .val (.int d2), .val (.int fl), .unset, .unset, .unset, .unset, .unset, .unset, .unset, .unset, .unset, .unset, .unset] []))
    refine own_on (fun t k => XS.iconst X0.here hx rfl (hb hby at_7) k) ?_
    show OwnGo p e below s _ _ _ (s₁.setTop (mkF m 8 #[.val (.int n), .val (.int d), .val (.int n2), .val (.int d2), .val (.int fl), .unset, .unset, .unset, .unset, .unset, .unset, .unset, .unset, .unset, .unset, .unset] [(.int (1 : Int32))]))
    refine own_on (fun t k => XS.goto X0.here hx rfl (pc0 := 8) (pc' := 12) rfl (hb hby at_8) (by decide) (by decide) k) ?_
    show OwnGo p e below s _ _ _ (s₁.setTop (mkF m 12 #[.val (.int n), .val (.int d), .val (.int n2), .val (.int d2), .val (.int fl), .unset, .unset, .unset, .unset, .unset, .unset, .unset, .unset, .unset, .unset, .unset] [(.int (1 : Int32))]))
    refine own_on (fun t k => XS.istore X0.here hx rfl (hb hby at_12) rfl (l' := #[.val (.int n), .val (.int d), .val (.int n2), .val (.int d2), .val (.int fl), .val (.int (1 : Int32)), .unset, .unset, .unset, .unset, .unset, .unset, .unset, .unset, .unset, .unset]) rfl k) ?_
    show OwnGo p e below s _ _ _ (s₁.setTop (mkF m 14 #[.val (.int n), .val (.int d), .val (.int n2), .val (.int d2), .val (.int fl), .val (.int (1 : Int32)), .unset, .unset, .unset, .unset, .unset, .unset, .unset, .unset, .unset, .unset] []))
    refine own_on (fun t k => XS.iload X0.here hx rfl (hb hby at_14) rfl k) ?_
    show OwnGo p e below s _ _ _ (s₁.setTop (mkF m 16 #[.val (.int n), .val (.int d), .val (.int n2), .val (.int d2), .val (.int fl), .val (.int (1 : Int32)), .unset, .unset, .unset, .unset, .unset, .unset, .unset, .unset, .unset, .unset] [(.int fl)]))
    refine own_on (fun t k => XS.iconst X0.here hx rfl (hb hby at_16) k) ?_
    show OwnGo p e below s _ _ _ (s₁.setTop (mkF m 17 #[.val (.int n), .val (.int d), .val (.int n2), .val (.int d2), .val (.int fl), .val (.int (1 : Int32)), .unset, .unset, .unset, .unset, .unset, .unset, .unset, .unset, .unset, .unset] [(.int (2 : Int32)), (.int fl)]))
    refine own_on (fun t k => XS.iand X0.here hx rfl (hb hby at_17) rfl k) ?_
    show OwnGo p e below s _ _ _ (s₁.setTop (mkF m 18 #[.val (.int n), .val (.int d), .val (.int n2), .val (.int d2), .val (.int fl), .val (.int (1 : Int32)), .unset, .unset, .unset, .unset, .unset, .unset, .unset, .unset, .unset, .unset] [(.int (fl &&& (2 : Int32)))]))
    by_cases f1 : (fl &&& (2 : Int32)) = (0 : Int32)
    · refine own_on (fun t k => XS.ifYes X0.here hx rfl (pc0 := 18) (pc' := 25) rfl (hb hby at_18) rfl ((if0 _ _).trans (teq f1).1) (by decide) (by decide) k) ?_
      show OwnGo p e below s _ _ _ (s₁.setTop (mkF m 25 #[.val (.int n), .val (.int d), .val (.int n2), .val (.int d2), .val (.int fl), .val (.int (1 : Int32)), .unset, .unset, .unset, .unset, .unset, .unset, .unset, .unset, .unset, .unset] []))
      refine own_on (fun t k => XS.iconst X0.here hx rfl (hb hby at_25) k) ?_
      show OwnGo p e below s _ _ _ (s₁.setTop (mkF m 26 #[.val (.int n), .val (.int d), .val (.int n2), .val (.int d2), .val (.int fl), .val (.int (1 : Int32)), .unset, .unset, .unset, .unset, .unset, .unset, .unset, .unset, .unset, .unset] [(.int (0 : Int32))]))
      refine own_on (fun t k => XS.istore X0.here hx rfl (hb hby at_26) rfl (l' := #[.val (.int n), .val (.int d), .val (.int n2), .val (.int d2), .val (.int fl), .val (.int (1 : Int32)), .val (.int (0 : Int32)), .unset, .unset, .unset, .unset, .unset, .unset, .unset, .unset, .unset]) rfl k) ?_
      show OwnGo p e below s _ _ _ (s₁.setTop (mkF m 28 #[.val (.int n), .val (.int d), .val (.int n2), .val (.int d2), .val (.int fl), .val (.int (1 : Int32)), .val (.int (0 : Int32)), .unset, .unset, .unset, .unset, .unset, .unset, .unset, .unset, .unset] []))
      refine own_on (fun t k => XS.iload X0.here hx rfl (hb hby at_28) rfl k) ?_
      show OwnGo p e below s _ _ _ (s₁.setTop (mkF m 30 #[.val (.int n), .val (.int d), .val (.int n2), .val (.int d2), .val (.int fl), .val (.int (1 : Int32)), .val (.int (0 : Int32)), .unset, .unset, .unset, .unset, .unset, .unset, .unset, .unset, .unset] [(.int fl)]))
      refine own_on (fun t k => XS.iconst X0.here hx rfl (hb hby at_30) k) ?_
      show OwnGo p e below s _ _ _ (s₁.setTop (mkF m 31 #[.val (.int n), .val (.int d), .val (.int n2), .val (.int d2), .val (.int fl), .val (.int (1 : Int32)), .val (.int (0 : Int32)), .unset, .unset, .unset, .unset, .unset, .unset, .unset, .unset, .unset] [(.int (2 : Int32)), (.int fl)]))
      refine own_on (fun t k => XS.iushr X0.here hx rfl (hb hby at_31) rfl k) ?_
      show OwnGo p e below s _ _ _ (s₁.setTop (mkF m 32 #[.val (.int n), .val (.int d), .val (.int n2), .val (.int d2), .val (.int fl), .val (.int (1 : Int32)), .val (.int (0 : Int32)), .unset, .unset, .unset, .unset, .unset, .unset, .unset, .unset, .unset] [(.int ((fl.toUInt32 >>> ((2 : Int32) &&& 31).toUInt32).toInt32))]))
      refine own_on (fun t k => XS.iconst X0.here hx rfl (hb hby at_32) k) ?_
      show OwnGo p e below s _ _ _ (s₁.setTop (mkF m 33 #[.val (.int n), .val (.int d), .val (.int n2), .val (.int d2), .val (.int fl), .val (.int (1 : Int32)), .val (.int (0 : Int32)), .unset, .unset, .unset, .unset, .unset, .unset, .unset, .unset, .unset] [(.int (3 : Int32)), (.int ((fl.toUInt32 >>> ((2 : Int32) &&& 31).toUInt32).toInt32))]))
      refine own_on (fun t k => XS.iand X0.here hx rfl (hb hby at_33) rfl k) ?_
      show OwnGo p e below s _ _ _ (s₁.setTop (mkF m 34 #[.val (.int n), .val (.int d), .val (.int n2), .val (.int d2), .val (.int fl), .val (.int (1 : Int32)), .val (.int (0 : Int32)), .unset, .unset, .unset, .unset, .unset, .unset, .unset, .unset, .unset] [(.int (((fl.toUInt32 >>> ((2 : Int32) &&& 31).toUInt32).toInt32) &&& (3 : Int32)))]))
      refine own_on (fun t k => XS.istore X0.here hx rfl (hb hby at_34) rfl (l' := #[.val (.int n), .val (.int d), .val (.int n2), .val (.int d2), .val (.int fl), .val (.int (1 : Int32)), .val (.int (0 : Int32)), .val (.int (((fl.toUInt32 >>> ((2 : Int32) &&& 31).toUInt32).toInt32) &&& (3 : Int32))), .unset, .unset, .unset, .unset, .unset, .unset, .unset, .unset]) rfl k) ?_
      show OwnGo p e below s _ _ _ (s₁.setTop (mkF m 36 #[.val (.int n), .val (.int d), .val (.int n2), .val (.int d2), .val (.int fl), .val (.int (1 : Int32)), .val (.int (0 : Int32)), .val (.int (((fl.toUInt32 >>> ((2 : Int32) &&& 31).toUInt32).toInt32) &&& (3 : Int32))), .unset, .unset, .unset, .unset, .unset, .unset, .unset, .unset] []))
      refine own_on (fun t k => XS.iload X0.here hx rfl (hb hby at_36) rfl k) ?_
      show OwnGo p e below s _ _ _ (s₁.setTop (mkF m 38 #[.val (.int n), .val (.int d), .val (.int n2), .val (.int d2), .val (.int fl), .val (.int (1 : Int32)), .val (.int (0 : Int32)), .val (.int (((fl.toUInt32 >>> ((2 : Int32) &&& 31).toUInt32).toInt32) &&& (3 : Int32))), .unset, .unset, .unset, .unset, .unset, .unset, .unset, .unset] [(.int (1 : Int32))]))
      refine own_on (fun t k => XS.ifNo X0.here hx rfl (hb hby at_38) rfl ((if0 _ _).trans (feq (by decide : ¬ ((1 : Int32) = (0 : Int32)))).1) k) ?_
      show OwnGo p e below s _ _ _ (s₁.setTop (mkF m 41 #[.val (.int n), .val (.int d), .val (.int n2), .val (.int d2), .val (.int fl), .val (.int (1 : Int32)), .val (.int (0 : Int32)), .val (.int (((fl.toUInt32 >>> ((2 : Int32) &&& 31).toUInt32).toInt32) &&& (3 : Int32))), .unset, .unset, .unset, .unset, .unset, .unset, .unset, .unset] []))
      refine own_on (fun t k => XS.iloadN X0.here hx rfl (hb hby at_41) rfl k) ?_
      show OwnGo p e below s _ _ _ (s₁.setTop (mkF m 42 #[.val (.int n), .val (.int d), .val (.int n2), .val (.int d2), .val (.int fl), .val (.int (1 : Int32)), .val (.int (0 : Int32)), .val (.int (((fl.toUInt32 >>> ((2 : Int32) &&& 31).toUInt32).toInt32) &&& (3 : Int32))), .unset, .unset, .unset, .unset, .unset, .unset, .unset, .unset] [(.int n)]))
      refine own_on (fun t k => XS.goto X0.here hx rfl (pc0 := 42) (pc' := 46) rfl (hb hby at_42) (by decide) (by decide) k) ?_
      show OwnGo p e below s _ _ _ (s₁.setTop (mkF m 46 #[.val (.int n), .val (.int d), .val (.int n2), .val (.int d2), .val (.int fl), .val (.int (1 : Int32)), .val (.int (0 : Int32)), .val (.int (((fl.toUInt32 >>> ((2 : Int32) &&& 31).toUInt32).toInt32) &&& (3 : Int32))), .unset, .unset, .unset, .unset, .unset, .unset, .unset, .unset] [(.int n)]))
      refine own_on (fun t k => XS.istore X0.here hx rfl (hb hby at_46) rfl (l' := #[.val (.int n), .val (.int d), .val (.int n2), .val (.int d2), .val (.int fl), .val (.int (1 : Int32)), .val (.int (0 : Int32)), .val (.int (((fl.toUInt32 >>> ((2 : Int32) &&& 31).toUInt32).toInt32) &&& (3 : Int32))), .val (.int n), .unset, .unset, .unset, .unset, .unset, .unset, .unset]) rfl k) ?_
      show OwnGo p e below s _ _ _ (s₁.setTop (mkF m 48 #[.val (.int n), .val (.int d), .val (.int n2), .val (.int d2), .val (.int fl), .val (.int (1 : Int32)), .val (.int (0 : Int32)), .val (.int (((fl.toUInt32 >>> ((2 : Int32) &&& 31).toUInt32).toInt32) &&& (3 : Int32))), .val (.int n), .unset, .unset, .unset, .unset, .unset, .unset, .unset] []))
      refine own_on (fun t k => XS.iload X0.here hx rfl (hb hby at_48) rfl k) ?_
      show OwnGo p e below s _ _ _ (s₁.setTop (mkF m 50 #[.val (.int n), .val (.int d), .val (.int n2), .val (.int d2), .val (.int fl), .val (.int (1 : Int32)), .val (.int (0 : Int32)), .val (.int (((fl.toUInt32 >>> ((2 : Int32) &&& 31).toUInt32).toInt32) &&& (3 : Int32))), .val (.int n), .unset, .unset, .unset, .unset, .unset, .unset, .unset] [(.int (0 : Int32))]))
      refine own_on (fun t k => XS.ifYes X0.here hx rfl (pc0 := 50) (pc' := 57) rfl (hb hby at_50) rfl ((if0 _ _).trans (teq (by decide : (0 : Int32) = (0 : Int32))).1) (by decide) (by decide) k) ?_
      show OwnGo p e below s _ _ _ (s₁.setTop (mkF m 57 #[.val (.int n), .val (.int d), .val (.int n2), .val (.int d2), .val (.int fl), .val (.int (1 : Int32)), .val (.int (0 : Int32)), .val (.int (((fl.toUInt32 >>> ((2 : Int32) &&& 31).toUInt32).toInt32) &&& (3 : Int32))), .val (.int n), .unset, .unset, .unset, .unset, .unset, .unset, .unset] []))
      refine own_on (fun t k => XS.iloadN X0.here hx rfl (hb hby at_57) rfl k) ?_
      show OwnGo p e below s _ _ _ (s₁.setTop (mkF m 58 #[.val (.int n), .val (.int d), .val (.int n2), .val (.int d2), .val (.int fl), .val (.int (1 : Int32)), .val (.int (0 : Int32)), .val (.int (((fl.toUInt32 >>> ((2 : Int32) &&& 31).toUInt32).toInt32) &&& (3 : Int32))), .val (.int n), .unset, .unset, .unset, .unset, .unset, .unset, .unset] [(.int d2)]))
      refine own_on (fun t k => XS.istore X0.here hx rfl (hb hby at_58) rfl (l' := #[.val (.int n), .val (.int d), .val (.int n2), .val (.int d2), .val (.int fl), .val (.int (1 : Int32)), .val (.int (0 : Int32)), .val (.int (((fl.toUInt32 >>> ((2 : Int32) &&& 31).toUInt32).toInt32) &&& (3 : Int32))), .val (.int n), .val (.int d2), .unset, .unset, .unset, .unset, .unset, .unset]) rfl k) ?_
      show OwnGo p e below s _ _ _ (s₁.setTop (mkF m 60 #[.val (.int n), .val (.int d), .val (.int n2), .val (.int d2), .val (.int fl), .val (.int (1 : Int32)), .val (.int (0 : Int32)), .val (.int (((fl.toUInt32 >>> ((2 : Int32) &&& 31).toUInt32).toInt32) &&& (3 : Int32))), .val (.int n), .val (.int d2), .unset, .unset, .unset, .unset, .unset, .unset] []))
      exact J _ _ _ _
    · refine own_on (fun t k => XS.ifNo X0.here hx rfl (hb hby at_18) rfl ((if0 _ _).trans (feq f1).1) k) ?_
      show OwnGo p e below s _ _ _ (s₁.setTop (mkF m 21 #[.val (.int n), .val (.int d), .val (.int n2), .val (.int d2), .val (.int fl), .val (.int (1 : Int32)), .unset, .unset, .unset, .unset, .unset, .unset, .unset, .unset, .unset, .unset] []))
      refine own_on (fun t k => XS.iconst X0.here hx rfl (hb hby at_21) k) ?_
      show OwnGo p e below s _ _ _ (s₁.setTop (mkF m 22 #[.val (.int n), .val (.int d), .val (.int n2), .val (.int d2), .val (.int fl), .val (.int (1 : Int32)), .unset, .unset, .unset, .unset, .unset, .unset, .unset, .unset, .unset, .unset] [(.int (1 : Int32))]))
      refine own_on (fun t k => XS.goto X0.here hx rfl (pc0 := 22) (pc' := 26) rfl (hb hby at_22) (by decide) (by decide) k) ?_
      show OwnGo p e below s _ _ _ (s₁.setTop (mkF m 26 #[.val (.int n), .val (.int d), .val (.int n2), .val (.int d2), .val (.int fl), .val (.int (1 : Int32)), .unset, .unset, .unset, .unset, .unset, .unset, .unset, .unset, .unset, .unset] [(.int (1 : Int32))]))
      refine own_on (fun t k => XS.istore X0.here hx rfl (hb hby at_26) rfl (l' := #[.val (.int n), .val (.int d), .val (.int n2), .val (.int d2), .val (.int fl), .val (.int (1 : Int32)), .val (.int (1 : Int32)), .unset, .unset, .unset, .unset, .unset, .unset, .unset, .unset, .unset]) rfl k) ?_
      show OwnGo p e below s _ _ _ (s₁.setTop (mkF m 28 #[.val (.int n), .val (.int d), .val (.int n2), .val (.int d2), .val (.int fl), .val (.int (1 : Int32)), .val (.int (1 : Int32)), .unset, .unset, .unset, .unset, .unset, .unset, .unset, .unset, .unset] []))
      refine own_on (fun t k => XS.iload X0.here hx rfl (hb hby at_28) rfl k) ?_
      show OwnGo p e below s _ _ _ (s₁.setTop (mkF m 30 #[.val (.int n), .val (.int d), .val (.int n2), .val (.int d2), .val (.int fl), .val (.int (1 : Int32)), .val (.int (1 : Int32)), .unset, .unset, .unset, .unset, .unset, .unset, .unset, .unset, .unset] [(.int fl)]))
      refine own_on (fun t k => XS.iconst X0.here hx rfl (hb hby at_30) k) ?_
      show OwnGo p e below s _ _ _ (s₁.setTop (mkF m 31 #[.val (.int n), .val (.int d), .val (.int n2), .val (.int d2), .val (.int fl), .val (.int (1 : Int32)), .val (.int (1 : Int32)), .unset, .unset, .unset, .unset, .unset, .unset, .unset, .unset, .unset] [(.int (2 : Int32)), (.int fl)]))
      refine own_on (fun t k => XS.iushr X0.here hx rfl (hb hby at_31) rfl k) ?_
      show OwnGo p e below s _ _ _ (s₁.setTop (mkF m 32 #[.val (.int n), .val (.int d), .val (.int n2), .val (.int d2), .val (.int fl), .val (.int (1 : Int32)), .val (.int (1 : Int32)), .unset, .unset, .unset, .unset, .unset, .unset, .unset, .unset, .unset] [(.int ((fl.toUInt32 >>> ((2 : Int32) &&& 31).toUInt32).toInt32))]))
      refine own_on (fun t k => XS.iconst X0.here hx rfl (hb hby at_32) k) ?_
      show OwnGo p e below s _ _ _ (s₁.setTop (mkF m 33 #[.val (.int n), .val (.int d), .val (.int n2), .val (.int d2), .val (.int fl), .val (.int (1 : Int32)), .val (.int (1 : Int32)), .unset, .unset, .unset, .unset, .unset, .unset, .unset, .unset, .unset] [(.int (3 : Int32)), (.int ((fl.toUInt32 >>> ((2 : Int32) &&& 31).toUInt32).toInt32))]))
      refine own_on (fun t k => XS.iand X0.here hx rfl (hb hby at_33) rfl k) ?_
      show OwnGo p e below s _ _ _ (s₁.setTop (mkF m 34 #[.val (.int n), .val (.int d), .val (.int n2), .val (.int d2), .val (.int fl), .val (.int (1 : Int32)), .val (.int (1 : Int32)), .unset, .unset, .unset, .unset, .unset, .unset, .unset, .unset, .unset] [(.int (((fl.toUInt32 >>> ((2 : Int32) &&& 31).toUInt32).toInt32) &&& (3 : Int32)))]))
      refine own_on (fun t k => XS.istore X0.here hx rfl (hb hby at_34) rfl (l' := #[.val (.int n), .val (.int d), .val (.int n2), .val (.int d2), .val (.int fl), .val (.int (1 : Int32)), .val (.int (1 : Int32)), .val (.int (((fl.toUInt32 >>> ((2 : Int32) &&& 31).toUInt32).toInt32) &&& (3 : Int32))), .unset, .unset, .unset, .unset, .unset, .unset, .unset, .unset]) rfl k) ?_
      show OwnGo p e below s _ _ _ (s₁.setTop (mkF m 36 #[.val (.int n), .val (.int d), .val (.int n2), .val (.int d2), .val (.int fl), .val (.int (1 : Int32)), .val (.int (1 : Int32)), .val (.int (((fl.toUInt32 >>> ((2 : Int32) &&& 31).toUInt32).toInt32) &&& (3 : Int32))), .unset, .unset, .unset, .unset, .unset, .unset, .unset, .unset] []))
      refine own_on (fun t k => XS.iload X0.here hx rfl (hb hby at_36) rfl k) ?_
      show OwnGo p e below s _ _ _ (s₁.setTop (mkF m 38 #[.val (.int n), .val (.int d), .val (.int n2), .val (.int d2), .val (.int fl), .val (.int (1 : Int32)), .val (.int (1 : Int32)), .val (.int (((fl.toUInt32 >>> ((2 : Int32) &&& 31).toUInt32).toInt32) &&& (3 : Int32))), .unset, .unset, .unset, .unset, .unset, .unset, .unset, .unset] [(.int (1 : Int32))]))
      refine own_on (fun t k => XS.ifNo X0.here hx rfl (hb hby at_38) rfl ((if0 _ _).trans (feq (by decide : ¬ ((1 : Int32) = (0 : Int32)))).1) k) ?_
      show OwnGo p e below s _ _ _ (s₁.setTop (mkF m 41 #[.val (.int n), .val (.int d), .val (.int n2), .val (.int d2), .val (.int fl), .val (.int (1 : Int32)), .val (.int (1 : Int32)), .val (.int (((fl.toUInt32 >>> ((2 : Int32) &&& 31).toUInt32).toInt32) &&& (3 : Int32))), .unset, .unset, .unset, .unset, .unset, .unset, .unset, .unset] []))
      refine own_on (fun t k => XS.iloadN X0.here hx rfl (hb hby at_41) rfl k) ?_
      show OwnGo p e below s _ _ _ (s₁.setTop (mkF m 42 #[.val (.int n), .val (.int d), .val (.int n2), .val (.int d2), .val (.int fl), .val (.int (1 : Int32)), .val (.int (1 : Int32)), .val (.int (((fl.toUInt32 >>> ((2 : Int32) &&& 31).toUInt32).toInt32) &&& (3 : Int32))), .unset, .unset, .unset, .unset, .unset, .unset, .unset, .unset] [(.int n)]))
      refine own_on (fun t k => XS.goto X0.here hx rfl (pc0 := 42) (pc' := 46) rfl (hb hby at_42) (by decide) (by decide) k) ?_
      show OwnGo p e below s _ _ _ (s₁.setTop (mkF m 46 #[.val (.int n), .val (.int d), .val (.int n2), .val (.int d2), .val (.int fl), .val (.int (1 : Int32)), .val (.int (1 : Int32)), .val (.int (((fl.toUInt32 >>> ((2 : Int32) &&& 31).toUInt32).toInt32) &&& (3 : Int32))), .unset, .unset, .unset, .unset, .unset, .unset, .unset, .unset] [(.int n)]))
      refine own_on (fun t k => XS.istore X0.here hx rfl (hb hby at_46) rfl (l' := #[.val (.int n), .val (.int d), .val (.int n2), .val (.int d2), .val (.int fl), .val (.int (1 : Int32)), .val (.int (1 : Int32)), .val (.int (((fl.toUInt32 >>> ((2 : Int32) &&& 31).toUInt32).toInt32) &&& (3 : Int32))), .val (.int n), .unset, .unset, .unset, .unset, .unset, .unset, .unset]) rfl k) ?_
      show OwnGo p e below s _ _ _ (s₁.setTop (mkF m 48 #[.val (.int n), .val (.int d), .val (.int n2), .val (.int d2), .val (.int fl), .val (.int (1 : Int32)), .val (.int (1 : Int32)), .val (.int (((fl.toUInt32 >>> ((2 : Int32) &&& 31).toUInt32).toInt32) &&& (3 : Int32))), .val (.int n), .unset, .unset, .unset, .unset, .unset, .unset, .unset] []))
      refine own_on (fun t k => XS.iload X0.here hx rfl (hb hby at_48) rfl k) ?_
      show OwnGo p e below s _ _ _ (s₁.setTop (mkF m 50 #[.val (.int n), .val (.int d), .val (.int n2), .val (.int d2), .val (.int fl), .val (.int (1 : Int32)), .val (.int (1 : Int32)), .val (.int (((fl.toUInt32 >>> ((2 : Int32) &&& 31).toUInt32).toInt32) &&& (3 : Int32))), .val (.int n), .unset, .unset, .unset, .unset, .unset, .unset, .unset] [(.int (1 : Int32))]))
      refine own_on (fun t k => XS.ifNo X0.here hx rfl (hb hby at_50) rfl ((if0 _ _).trans (feq (by decide : ¬ ((1 : Int32) = (0 : Int32)))).1) k) ?_
      show OwnGo p e below s _ _ _ (s₁.setTop (mkF m 53 #[.val (.int n), .val (.int d), .val (.int n2), .val (.int d2), .val (.int fl), .val (.int (1 : Int32)), .val (.int (1 : Int32)), .val (.int (((fl.toUInt32 >>> ((2 : Int32) &&& 31).toUInt32).toInt32) &&& (3 : Int32))), .val (.int n), .unset, .unset, .unset, .unset, .unset, .unset, .unset] []))
      refine own_on (fun t k => XS.iloadN X0.here hx rfl (hb hby at_53) rfl k) ?_
      show OwnGo p e below s _ _ _ (s₁.setTop (mkF m 54 #[.val (.int n), .val (.int d), .val (.int n2), .val (.int d2), .val (.int fl), .val (.int (1 : Int32)), .val (.int (1 : Int32)), .val (.int (((fl.toUInt32 >>> ((2 : Int32) &&& 31).toUInt32).toInt32) &&& (3 : Int32))), .val (.int n), .unset, .unset, .unset, .unset, .unset, .unset, .unset] [(.int d)]))
      refine own_on (fun t k => XS.goto X0.here hx rfl (pc0 := 54) (pc' := 58) rfl (hb hby at_54) (by decide) (by decide) k) ?_
      show OwnGo p e below s _ _ _ (s₁.setTop (mkF m 58 #[.val (.int n), .val (.int d), .val (.int n2), .val (.int d2), .val (.int fl), .val (.int (1 : Int32)), .val (.int (1 : Int32)), .val (.int (((fl.toUInt32 >>> ((2 : Int32) &&& 31).toUInt32).toInt32) &&& (3 : Int32))), .val (.int n), .unset, .unset, .unset, .unset, .unset, .unset, .unset] [(.int d)]))
      refine own_on (fun t k => XS.istore X0.here hx rfl (hb hby at_58) rfl (l' := #[.val (.int n), .val (.int d), .val (.int n2), .val (.int d2), .val (.int fl), .val (.int (1 : Int32)), .val (.int (1 : Int32)), .val (.int (((fl.toUInt32 >>> ((2 : Int32) &&& 31).toUInt32).toInt32) &&& (3 : Int32))), .val (.int n), .val (.int d), .unset, .unset, .unset, .unset, .unset, .unset]) rfl k) ?_
      show OwnGo p e below s _ _ _ (s₁.setTop (mkF m 60 #[.val (.int n), .val (.int d), .val (.int n2), .val (.int d2), .val (.int fl), .val (.int (1 : Int32)), .val (.int (1 : Int32)), .val (.int (((fl.toUInt32 >>> ((2 : Int32) &&& 31).toUInt32).toInt32) &&& (3 : Int32))), .val (.int n), .val (.int d), .unset, .unset, .unset, .unset, .unset, .unset] []))
      exact J _ _ _ _
set_option maxRecDepth 65536 in
set_option maxHeartbeats 40000000 in
theorem comes_1 {Post : Tables → Env → Array Value → State → Outcome → State → Prop} (hpost : ∀ tb e args s v u, (limb_1_1.after args s (.returned v) u = true ∧ limb_1_2.after args s (.returned v) u = true ∧ True) → FrameEnd s (.returned v) u (Jvm.fieldLocs frame_1_writes args s ++ Jvm.arrayLocs frame_1_arrays args s ++ Jvm.staticLocs frame_1_statics s) 16 128 → Post tb e args s (.returned v) u) :
    ArmFor flags0 classFile x code maxLocals ret World_1 tables_1 room_1 Calls_1 rest_1 Pre_1 Post := by
  intro l hfl _ _ p e ha hc hk s m args below hf hA hF happ hP
  obtain ⟨hcalls, hrest, hpre⟩ := hP
  obtain ⟨-, -, -, hnamed, -, -, -, hat⟩ := (Spec.applies_iff hf).mp happ
  obtain ⟨hg, hn⟩ := and_e (Cond.before_iff.mp (show (Jvm.Cond.and given_1 narrow_1).before args s = true from hpre))
  obtain ⟨gc, gr0⟩ := and_e hg
  obtain ⟨gi0, gr1⟩ := and_e gr0
  obtain ⟨gi1, gr2⟩ := and_e gr1
  obtain ⟨gi2, gr3⟩ := and_e gr2
  obtain ⟨gi3, gr4⟩ := and_e gr3
  have gi4 := gr4
  obtain ⟨w_0, w_1, w_2, w_3, w_4, rfl⟩ : ∃ w_0 w_1 w_2 w_3 w_4 : Value, args = #[w_0, w_1, w_2, w_3, w_4] := by
    have hs : args.size = 5 := by simpa [Cond.value, given_1] using gc
    obtain ⟨L⟩ := args
    match L, hs with
    | [w_0, w_1, w_2, w_3, w_4], _ => exact ⟨w_0, w_1, w_2, w_3, w_4, rfl⟩
  have hw := fun d (hd : d ∈ tables_1) => atoms_spec (ws := Jvm.Cond.code x code maxLocals ret :: tables_1) hat d (List.mem_cons_of_mem _ hd)
  have hfit : Fit s := fun {y c} hc i hi => by
    obtain ⟨ha, rfl⟩ := Array.getElem?_eq_some_iff.mp hc
    have q := List.all_eq_true.mp ((Array.all_eq_true_iff_forall_mem.mp hF) _ (Array.getElem_mem ha)) i (List.mem_range.mpr hi)
    simpa [Array.getElem?_eq_getElem hi] using q
  obtain ⟨hsets, hown0⟩ := atoms_of _ (rest_1_c_eq ▸ (show rest_1_c.before _ s = true from hrest))
  obtain ⟨i0, ei0⟩ := is_v gi0
  obtain rfl : w_0 = (.int i0) := Option.some.inj ei0
  obtain ⟨i1, ei1⟩ := is_v gi1
  obtain rfl : w_1 = (.int i1) := Option.some.inj ei1
  obtain ⟨i2, ei2⟩ := is_v gi2
  obtain rfl : w_2 = (.int i2) := Option.some.inj ei2
  obtain ⟨i3, ei3⟩ := is_v gi3
  obtain rfl : w_3 = (.int i3) := Option.some.inj ei3
  obtain ⟨i4, ei4⟩ := is_v gi4
  obtain rfl : w_4 = (.int i4) := Option.some.inj ei4
  have e3 := Cond.before_iff.mp (hsets _ (List.mem_of_getElem? (i := 3) rfl))
  obtain ⟨hi, ehi, -⟩ := static_fit hfit (hsets _ (List.mem_of_getElem? (i := 0) rfl)) (ty := .int) (by decide)
  obtain ⟨ca, eca⟩ := arr_v (Cond.before_iff.mp (hsets _ (List.mem_of_getElem? (i := 4) rfl)))
  have SC := own_cache hfit eca (hsets _ (List.mem_of_getElem? (i := 4) rfl)) (hsets _ (List.mem_of_getElem? (i := 6) rfl)) (hsets _ (List.mem_of_getElem? (i := 7) rfl))
  have S1 := Sta.start eca (Or.inr ⟨w25 hw, hsets _ (List.mem_of_getElem? (i := 2) rfl)⟩)
  have S0 := Sta.start (own_eqi e3) (Or.inl (hsets _ (List.mem_of_getElem? (i := 1) rfl)))
  obtain ⟨n, o, h1, h2, h3, _, L, rfl, ⟨rfl, N, _⟩, hq⟩ := rm0 l s _ hw tables_1 i0 i1 i2 i3 i4 ca s.heap s.heap.size (Nat.le_refl _) (Old.start s) S0 S1 SC p e ha hc hk s m _ below hf ((Spec.applies_iff_loose hf).mp happ).1 ⟨rfl, State.Warmed39.refl s, rfl⟩ trivial
  refine ⟨n, _, h1, h2, h3, hpost _ _ _ _ _ _ ⟨Cond.after_iff.mpr rfl, Cond.after_iff.mpr (eq_i res_at (Term.int_eval (1)) rfl), trivial⟩ ⟨hq.1, hq.2.1, (hq.2.2.sift fun y hy => Or.inr (N y hy)).mono (by decide) (by decide)⟩⟩
theorem main_1_1 : Claimed_1_1 := comes_1 fun _ _ _ _ _ _ h hF => ⟨h.1, hF⟩
theorem main_1_2 : Claimed_1_2 := comes_1 fun _ _ _ _ _ _ h hF => ⟨h.2.1, hF⟩
end Jvm.Pilot.@@N@@
namespace Jvm.Pilot.@@N@@
open Jvm Jvm.ClassFile Sem Op Lib Jvm.Free Jvm.Stand Jvm.Pilot.@@N@@.Jvm.D
/-! MADE BY PROGRAM (witnessworld.py) out of the Statement's table words and the real class files: 16 classes; the members and pool entries that the words name. The judged class is class 1, her method 1. -/
namespace start1
open Jvm.ClassFile
def u (s : String) : CpInfo := .utf8 (stringToUtf16 s)
/-- a pool by its gaps: so many unusable entries, then the entry; so many at the end -/
def gap : Nat → List CpInfo → List CpInfo
  | 0, r => r
  | n + 1, r => .unusable :: gap n r
def poolList (es : List (Nat × CpInfo)) (last : Nat) : List CpInfo := es.foldr (fun e r => gap e.1 (e.2 :: r)) (gap last [])
def pool (es : List (Nat × CpInfo)) (last : Nat) : Array CpInfo := ⟨poolList es last⟩
def fileOf (pool : Array CpInfo) (this : Nat) (attrs : Array Attribute := #[]) (ms : Array MethodInfo := #[]) (fl : Nat := 33) (sup : Nat := 0) (ifs : Array Nat := #[]) (fds : Array FieldInfo := #[]) : ClassFile where
  minorVersion := 0
  majorVersion := 65
  constantPool := pool
  accessFlags := fl
  thisClass := this
  superClass := sup
  interfaces := ifs
  fields := fds
  methods := ms
  attributes := attrs
def plain (name : String) (sup : Option ClassId) : Class where
  name := name
  kind := .ordinary
  loader := none
  accessFlags := 33
  super := sup
  interfaces := #[]
  cf := none
  fields := #[]
  methods := #[]
  instanceTypes := #[]
  staticTypes := #[]
  resolved := #[]
  callSites := []
  init := .initialized
  statics := none
  mirror := none

def pool0 : Array CpInfo := pool [(5, u "<init>"), (0, u "()V"), (1, .class_ 10), (1, u "java/lang/Object")] 113

def k0c0 : Code := { maxStack := 0, maxLocals := 1, code := object_method_1_code, exceptionTable := #[], attributes := #[] }
def k0m0 : Method := { name := "<init>", desc := "()V", sig := { parameters := [], returnType := none }, accessFlags := 1, code := some k0c0 }
/-- java/lang/Object -/
def k0 : Class := { plain "java/lang/Object" none with
  accessFlags := 33
  interfaces := #[]
  cf := some (fileOf pool0 8 #[] #[{ accessFlags := 1, nameIndex := 5, descriptorIndex := 6, attributes := #[] }] 33 0 #[] #[])
  fields := #[]
  methods := #[k0m0]
  instanceTypes := #[]
  staticTypes := #[]
  resolved := Array.replicate 124 none
  statics := none }

def pool1 : Array CpInfo := pool [(2, .class_ 4), (1, u "java/lang/Object"), (0, u "<init>"), (0, u "()V"), (0, .class_ 8), (0, u "com/example/kembar/kembar/FingerprintIndex$Match"), (0, .methodref 7 10), (0, .nameAndType 5 11), (0, u "(II)V"), (0, .methodref 13 14), (0, .class_ 15), (0, .nameAndType 16 17), (0, u "java/lang/Integer"), (0, u "valueOf"), (0, u "(I)Ljava/lang/Integer;"), (0, .methodref 7 19), (0, .nameAndType 20 21), (0, u "equals"), (0, u "(Ljava/lang/Object;)Z"), (0, .class_ 23), (0, u "com/example/kembar/kembar/MatchEqualsPinLaw"), (2, u "law"), (0, u "(IIIII)Z")] 7

def k1m0 : Method := { name := "<init>", desc := "()V", sig := { parameters := [], returnType := none }, accessFlags := 1, code := none }
def k1c1 : Code := { maxStack := 4, maxLocals := 16, code := code, exceptionTable := #[], attributes := #[] }
def k1m1 : Method := { name := "law", desc := "(IIIII)Z", sig := { parameters := [.int, .int, .int, .int, .int], returnType := some .boolean }, accessFlags := 9, code := some k1c1 }
/-- com/example/kembar/kembar/MatchEqualsPinLaw -/
def k1 : Class := { plain "com/example/kembar/kembar/MatchEqualsPinLaw" (some 0) with
  accessFlags := 49
  interfaces := #[]
  cf := some (fileOf pool1 22 #[] #[{ accessFlags := 1, nameIndex := 5, descriptorIndex := 6, attributes := #[] }, { accessFlags := 9, nameIndex := 26, descriptorIndex := 27, attributes := #[] }] 49 2 #[] #[])
  fields := #[]
  methods := #[k1m0, k1m1]
  instanceTypes := #[]
  staticTypes := #[]
  resolved := Array.replicate 35 none
  statics := none }

def pool2 : Array CpInfo := pool [(1, .methodref 2 3), (0, .class_ 4), (0, .nameAndType 5 6), (0, u "java/lang/Object"), (0, u "<init>"), (0, u "()V"), (0, .fieldref 8 9), (0, .class_ 10), (0, .nameAndType 11 12), (0, u "com/example/kembar/kembar/FingerprintIndex$Match"), (0, u "number"), (0, u "I"), (0, .fieldref 8 14), (0, .nameAndType 15 12), (0, u "distance"), (4, u "(II)V"), (3, u "equals"), (0, u "(Ljava/lang/Object;)Z"), (7, .class_ 34), (0, u "com/example/kembar/kembar/FingerprintIndex")] 16

def k2c0 : Code := { maxStack := 2, maxLocals := 3, code := prog_7_method_1_code, exceptionTable := #[], attributes := #[] }
def k2m0 : Method := { name := "<init>", desc := "(II)V", sig := { parameters := [.int, .int], returnType := none }, accessFlags := 0, code := some k2c0 }
def k2c1 : Code := { maxStack := 2, maxLocals := 2, code := prog_7_method_4_code, exceptionTable := #[], attributes := #[] }
def k2m1 : Method := { name := "equals", desc := "(Ljava/lang/Object;)Z", sig := { parameters := [(.object "java/lang/Object")], returnType := some .boolean }, accessFlags := 1, code := some k2c1 }
/-- com/example/kembar/kembar/FingerprintIndex$Match -/
def k2 : Class := { plain "com/example/kembar/kembar/FingerprintIndex$Match" (some 0) with
  accessFlags := 49
  interfaces := #[]
  cf := some (fileOf pool2 8 #[.nestHost 33] #[{ accessFlags := 0, nameIndex := 5, descriptorIndex := 20, attributes := #[] }, { accessFlags := 1, nameIndex := 24, descriptorIndex := 25, attributes := #[] }] 49 2 #[] #[{ accessFlags := 18, nameIndex := 11, descriptorIndex := 12, attributes := #[] }, { accessFlags := 18, nameIndex := 15, descriptorIndex := 12, attributes := #[] }])
  fields := #[{ name := "number", type := .int, accessFlags := 18, slot := 0, constantValue := 0 }, { name := "distance", type := .int, accessFlags := 18, slot := 1, constantValue := 0 }]
  methods := #[k2m0, k2m1]
  instanceTypes := #[.int, .int]
  staticTypes := #[]
  resolved := Array.replicate 51 none
  statics := none }

def pool3 : Array CpInfo := pool [(1, .class_ 2), (0, u "java/io/Serializable"), (0, .class_ 4), (0, u "java/lang/Object")] 2

/-- java/io/Serializable -/
def k3 : Class := { plain "java/io/Serializable" (some 0) with
  accessFlags := 1537
  interfaces := #[]
  cf := some (fileOf pool3 1 #[] #[] 1537 3 #[] #[])
  fields := #[]
  methods := #[]
  instanceTypes := #[]
  staticTypes := #[]
  resolved := Array.replicate 7 none
  statics := none }

def pool4 : Array CpInfo := pool [(1, .methodref 2 3), (0, .class_ 4), (0, .nameAndType 5 6), (0, u "java/lang/Object"), (0, u "<init>"), (0, u "()V"), (1, .class_ 10), (1, u "java/lang/Number"), (2, .class_ 14), (0, u "java/io/Serializable"), (0, u "serialVersionUID"), (0, u "J")] 20

def k4c0 : Code := { maxStack := 1, maxLocals := 1, code := jdk_18_method_1_code, exceptionTable := #[], attributes := #[] }
def k4m0 : Method := { name := "<init>", desc := "()V", sig := { parameters := [], returnType := none }, accessFlags := 1, code := some k4c0 }
/-- java/lang/Number -/
def k4 : Class := { plain "java/lang/Number" (some 0) with
  accessFlags := 1057
  interfaces := #[3]
  cf := some (fileOf pool4 8 #[] #[{ accessFlags := 1, nameIndex := 5, descriptorIndex := 6, attributes := #[] }] 1057 2 #[13] #[{ accessFlags := 26, nameIndex := 15, descriptorIndex := 16, attributes := #[] }])
  fields := #[{ name := "serialVersionUID", type := .long, accessFlags := 26, slot := 0, constantValue := 0 }]
  methods := #[k4m0]
  instanceTypes := #[]
  staticTypes := #[.long]
  resolved := Array.replicate 37 none
  statics := none }

def pool5 : Array CpInfo := pool [(1, .class_ 2), (0, u "java/lang/Comparable"), (0, .class_ 4), (0, u "java/lang/Object")] 7

/-- java/lang/Comparable -/
def k5 : Class := { plain "java/lang/Comparable" (some 0) with
  accessFlags := 1537
  interfaces := #[]
  cf := some (fileOf pool5 1 #[] #[] 1537 3 #[] #[])
  fields := #[]
  methods := #[]
  instanceTypes := #[]
  staticTypes := #[]
  resolved := Array.replicate 12 none
  statics := none }

def pool6 : Array CpInfo := pool [(1, .class_ 2), (0, u "java/lang/constant/Constable"), (0, .class_ 4), (0, u "java/lang/Object")] 6

/-- java/lang/constant/Constable -/
def k6 : Class := { plain "java/lang/constant/Constable" (some 0) with
  accessFlags := 1537
  interfaces := #[]
  cf := some (fileOf pool6 1 #[] #[] 1537 3 #[] #[])
  fields := #[]
  methods := #[]
  instanceTypes := #[]
  staticTypes := #[]
  resolved := Array.replicate 11 none
  statics := none }

def pool7 : Array CpInfo := pool [(1, .class_ 2), (0, u "java/lang/constant/ConstantDesc"), (0, .class_ 4), (0, u "java/lang/Object")] 32

/-- java/lang/constant/ConstantDesc -/
def k7 : Class := { plain "java/lang/constant/ConstantDesc" (some 0) with
  accessFlags := 1537
  interfaces := #[]
  cf := some (fileOf pool7 1 #[] #[] 1537 3 #[] #[])
  fields := #[]
  methods := #[]
  instanceTypes := #[]
  staticTypes := #[]
  resolved := Array.replicate 37 none
  statics := none }

def pool8 : Array CpInfo := pool [(1, .class_ 2), (0, u "java/lang/Integer"), (16, u "digits"), (0, u "[C"), (46, u "<init>"), (17, u "DigitOnes"), (0, u "[B"), (2, u "DigitTens"), (10, .nameAndType 67 101), (0, u "()V"), (85, u "valueOf"), (0, u "(I)Ljava/lang/Integer;"), (0, .class_ 190), (0, u "java/lang/Integer$IntegerCache"), (0, .fieldref 189 192), (0, .nameAndType 193 194), (0, u "high"), (0, u "I"), (0, .fieldref 189 196), (0, .nameAndType 197 198), (0, u "cache"), (0, u "[Ljava/lang/Integer;"), (0, .methodref 1 200), (0, .nameAndType 67 201), (0, u "(I)V"), (0, .methodref 203 100), (0, .class_ 204), (0, u "java/lang/Number"), (0, .fieldref 1 206), (0, .nameAndType 207 194), (0, u "value"), (94, u "TYPE"), (0, u "Ljava/lang/Class;"), (0, .class_ 305), (0, u "java/lang/Comparable"), (0, .class_ 307), (0, u "java/lang/constant/Constable"), (0, .class_ 309), (0, u "java/lang/constant/ConstantDesc"), (0, u "MIN_VALUE"), (1, u "MAX_VALUE"), (3, u "SIZE"), (1, u "BYTES"), (1, u "serialVersionUID"), (0, u "J")] 131

def k8c0 : Code := { maxStack := 3, maxLocals := 1, code := jdk_33_method_22_code, exceptionTable := #[], attributes := #[] }
def k8m0 : Method := { name := "valueOf", desc := "(I)Ljava/lang/Integer;", sig := { parameters := [.int], returnType := some (.object "java/lang/Integer") }, accessFlags := 9, code := some k8c0 }
def k8c1 : Code := { maxStack := 2, maxLocals := 2, code := jdk_33_method_23_code, exceptionTable := #[], attributes := #[] }
def k8m1 : Method := { name := "<init>", desc := "(I)V", sig := { parameters := [.int], returnType := none }, accessFlags := 1, code := some k8c1 }
/-- java/lang/Integer -/
def k8 : Class := { plain "java/lang/Integer" (some 4) with
  accessFlags := 49
  interfaces := #[5, 6, 7]
  cf := some (fileOf pool8 1 #[.nestMembers #[189]] #[{ accessFlags := 9, nameIndex := 187, descriptorIndex := 188, attributes := #[] }, { accessFlags := 1, nameIndex := 67, descriptorIndex := 201, attributes := #[] }] 49 203 #[304, 306, 308] #[{ accessFlags := 25, nameIndex := 310, descriptorIndex := 194, attributes := #[] }, { accessFlags := 25, nameIndex := 312, descriptorIndex := 194, attributes := #[] }, { accessFlags := 25, nameIndex := 302, descriptorIndex := 303, attributes := #[] }, { accessFlags := 24, nameIndex := 19, descriptorIndex := 20, attributes := #[] }, { accessFlags := 24, nameIndex := 89, descriptorIndex := 86, attributes := #[] }, { accessFlags := 24, nameIndex := 85, descriptorIndex := 86, attributes := #[] }, { accessFlags := 18, nameIndex := 207, descriptorIndex := 194, attributes := #[] }, { accessFlags := 25, nameIndex := 316, descriptorIndex := 194, attributes := #[] }, { accessFlags := 25, nameIndex := 318, descriptorIndex := 194, attributes := #[] }, { accessFlags := 26, nameIndex := 320, descriptorIndex := 321, attributes := #[] }])
  fields := #[{ name := "MIN_VALUE", type := .int, accessFlags := 25, slot := 0, constantValue := 0 }, { name := "MAX_VALUE", type := .int, accessFlags := 25, slot := 1, constantValue := 0 }, { name := "TYPE", type := (.object "java/lang/Class"), accessFlags := 25, slot := 2, constantValue := 0 }, { name := "digits", type := (.array .char), accessFlags := 24, slot := 3, constantValue := 0 }, { name := "DigitTens", type := (.array .byte), accessFlags := 24, slot := 4, constantValue := 0 }, { name := "DigitOnes", type := (.array .byte), accessFlags := 24, slot := 5, constantValue := 0 }, { name := "value", type := .int, accessFlags := 18, slot := 0, constantValue := 0 }, { name := "SIZE", type := .int, accessFlags := 25, slot := 6, constantValue := 0 }, { name := "BYTES", type := .int, accessFlags := 25, slot := 7, constantValue := 0 }, { name := "serialVersionUID", type := .long, accessFlags := 26, slot := 8, constantValue := 0 }]
  methods := #[k8m0, k8m1]
  instanceTypes := #[.int]
  staticTypes := #[.int, .int, (.object "java/lang/Class"), (.array .char), (.array .byte), (.array .byte), .int, .int, .long]
  resolved := Array.replicate 453 none
  statics := none }

def pool9 : Array CpInfo := pool [(2, .class_ 4), (1, u "java/lang/Object"), (0, u "<init>"), (0, u "()V"), (0, .class_ 8), (0, u "java/lang/Integer"), (7, .class_ 18), (1, u "java/lang/Integer$IntegerCache"), (0, u "$assertionsDisabled"), (0, u "Z"), (26, u "high"), (0, u "I"), (8, u "archivedCache"), (0, u "[Ljava/lang/Integer;"), (12, u "cache"), (0, u "low")] 27

def k9m0 : Method := { name := "<init>", desc := "()V", sig := { parameters := [], returnType := none }, accessFlags := 2, code := none }
/-- java/lang/Integer$IntegerCache -/
def k9 : Class := { plain "java/lang/Integer$IntegerCache" (some 0) with
  accessFlags := 48
  interfaces := #[]
  cf := some (fileOf pool9 16 #[.nestHost 7] #[{ accessFlags := 2, nameIndex := 5, descriptorIndex := 6, attributes := #[] }] 48 2 #[] #[{ accessFlags := 24, nameIndex := 72, descriptorIndex := 48, attributes := #[] }, { accessFlags := 24, nameIndex := 47, descriptorIndex := 48, attributes := #[] }, { accessFlags := 24, nameIndex := 71, descriptorIndex := 58, attributes := #[] }, { accessFlags := 8, nameIndex := 57, descriptorIndex := 58, attributes := #[] }, { accessFlags := 4120, nameIndex := 19, descriptorIndex := 20, attributes := #[] }])
  fields := #[{ name := "low", type := .int, accessFlags := 24, slot := 0, constantValue := 0 }, { name := "high", type := .int, accessFlags := 24, slot := 1, constantValue := 0 }, { name := "cache", type := (.array (.object "java/lang/Integer")), accessFlags := 24, slot := 2, constantValue := 0 }, { name := "archivedCache", type := (.array (.object "java/lang/Integer")), accessFlags := 8, slot := 3, constantValue := 0 }, { name := "$assertionsDisabled", type := .boolean, accessFlags := 4120, slot := 4, constantValue := 0 }]
  methods := #[k9m0]
  instanceTypes := #[]
  staticTypes := #[.int, .int, (.array (.object "java/lang/Integer")), (.array (.object "java/lang/Integer")), .boolean]
  resolved := Array.replicate 100 none
  statics := some 0 }

def pool10 : Array CpInfo := pool [(1, u "java/lang/Cloneable"), (0, .class_ 1), (0, u "java/lang/Object"), (0, .class_ 3)] 3

/-- java/lang/Cloneable -/
def k10 : Class := { plain "java/lang/Cloneable" (some 0) with
  accessFlags := 1537
  interfaces := #[]
  cf := some (fileOf pool10 2 #[] #[] 1537 4 #[] #[])
  fields := #[]
  methods := #[]
  instanceTypes := #[]
  staticTypes := #[]
  resolved := Array.replicate 8 none
  statics := none }

/-- the primitive byte -/
def k11 : Class := { plain "byte" none with kind := .primitive 'B', accessFlags := 0x411 }
/-- [B -/
def k12 : Class := { plain "[B" (some 0) with kind := .array 11 .byte, interfaces := #[10, 3], accessFlags := 1041 }

/-- the primitive int -/
def k13 : Class := { plain "int" none with kind := .primitive 'I', accessFlags := 0x411 }
/-- [I -/
def k14 : Class := { plain "[I" (some 0) with kind := .array 13 .int, interfaces := #[10, 3], accessFlags := 1041 }

/-- [Ljava/lang/Integer; -/
def k15 : Class := { plain "[Ljava/lang/Integer;" (some 0) with kind := .array 8 (.object "java/lang/Integer"), interfaces := #[10, 3], accessFlags := 1041 }

def heap : Heap := #[{ cls := 9, slots := #[.int 0, .int 127, .ref 1, .null, .int 0], vm := .statics 9 },
  { cls := 15, slots := #[.ref 2, .ref 3, .ref 4, .ref 5, .ref 6, .ref 7, .ref 8, .ref 9, .ref 10, .ref 11, .ref 12, .ref 13, .ref 14, .ref 15, .ref 16, .ref 17, .ref 18, .ref 19, .ref 20, .ref 21, .ref 22, .ref 23, .ref 24, .ref 25, .ref 26, .ref 27, .ref 28, .ref 29, .ref 30, .ref 31, .ref 32, .ref 33, .ref 34, .ref 35, .ref 36, .ref 37, .ref 38, .ref 39, .ref 40, .ref 41, .ref 42, .ref 43, .ref 44, .ref 45, .ref 46, .ref 47, .ref 48, .ref 49, .ref 50, .ref 51, .ref 52, .ref 53, .ref 54, .ref 55, .ref 56, .ref 57, .ref 58, .ref 59, .ref 60, .ref 61, .ref 62, .ref 63, .ref 64, .ref 65, .ref 66, .ref 67, .ref 68, .ref 69, .ref 70, .ref 71, .ref 72, .ref 73, .ref 74, .ref 75, .ref 76, .ref 77, .ref 78, .ref 79, .ref 80, .ref 81, .ref 82, .ref 83, .ref 84, .ref 85, .ref 86, .ref 87, .ref 88, .ref 89, .ref 90, .ref 91, .ref 92, .ref 93, .ref 94, .ref 95, .ref 96, .ref 97, .ref 98, .ref 99, .ref 100, .ref 101, .ref 102, .ref 103, .ref 104, .ref 105, .ref 106, .ref 107, .ref 108, .ref 109, .ref 110, .ref 111, .ref 112, .ref 113, .ref 114, .ref 115, .ref 116, .ref 117, .ref 118, .ref 119, .ref 120, .ref 121, .ref 122, .ref 123, .ref 124, .ref 125, .ref 126, .ref 127, .ref 128, .ref 129, .ref 130, .ref 131, .ref 132, .ref 133, .ref 134, .ref 135, .ref 136, .ref 137, .ref 138, .ref 139, .ref 140, .ref 141, .ref 142, .ref 143, .ref 144, .ref 145, .ref 146, .ref 147, .ref 148, .ref 149, .ref 150, .ref 151, .ref 152, .ref 153, .ref 154, .ref 155, .ref 156, .ref 157, .ref 158, .ref 159, .ref 160, .ref 161, .ref 162, .ref 163, .ref 164, .ref 165, .ref 166, .ref 167, .ref 168, .ref 169, .ref 170, .ref 171, .ref 172, .ref 173, .ref 174, .ref 175, .ref 176, .ref 177, .ref 178, .ref 179, .ref 180, .ref 181, .ref 182, .ref 183, .ref 184, .ref 185, .ref 186, .ref 187, .ref 188, .ref 189, .ref 190, .ref 191, .ref 192, .ref 193, .ref 194, .ref 195, .ref 196, .ref 197, .ref 198, .ref 199, .ref 200, .ref 201, .ref 202, .ref 203, .ref 204, .ref 205, .ref 206, .ref 207, .ref 208, .ref 209, .ref 210, .ref 211, .ref 212, .ref 213, .ref 214, .ref 215, .ref 216, .ref 217, .ref 218, .ref 219, .ref 220, .ref 221, .ref 222, .ref 223, .ref 224, .ref 225, .ref 226, .ref 227, .ref 228, .ref 229, .ref 230, .ref 231, .ref 232, .ref 233, .ref 234, .ref 235, .ref 236, .ref 237, .ref 238, .ref 239, .ref 240, .ref 241, .ref 242, .ref 243, .ref 244, .ref 245, .ref 246, .ref 247, .ref 248, .ref 249, .ref 250, .ref 251, .ref 252, .ref 253, .ref 254, .ref 255, .ref 256, .ref 257], vm := .none },
  { cls := 8, slots := #[.int (-128)], vm := .none },
  { cls := 8, slots := #[.int (-127)], vm := .none },
  { cls := 8, slots := #[.int (-126)], vm := .none },
  { cls := 8, slots := #[.int (-125)], vm := .none },
  { cls := 8, slots := #[.int (-124)], vm := .none },
  { cls := 8, slots := #[.int (-123)], vm := .none },
  { cls := 8, slots := #[.int (-122)], vm := .none },
  { cls := 8, slots := #[.int (-121)], vm := .none },
  { cls := 8, slots := #[.int (-120)], vm := .none },
  { cls := 8, slots := #[.int (-119)], vm := .none },
  { cls := 8, slots := #[.int (-118)], vm := .none },
  { cls := 8, slots := #[.int (-117)], vm := .none },
  { cls := 8, slots := #[.int (-116)], vm := .none },
  { cls := 8, slots := #[.int (-115)], vm := .none },
  { cls := 8, slots := #[.int (-114)], vm := .none },
  { cls := 8, slots := #[.int (-113)], vm := .none },
  { cls := 8, slots := #[.int (-112)], vm := .none },
  { cls := 8, slots := #[.int (-111)], vm := .none },
  { cls := 8, slots := #[.int (-110)], vm := .none },
  { cls := 8, slots := #[.int (-109)], vm := .none },
  { cls := 8, slots := #[.int (-108)], vm := .none },
  { cls := 8, slots := #[.int (-107)], vm := .none },
  { cls := 8, slots := #[.int (-106)], vm := .none },
  { cls := 8, slots := #[.int (-105)], vm := .none },
  { cls := 8, slots := #[.int (-104)], vm := .none },
  { cls := 8, slots := #[.int (-103)], vm := .none },
  { cls := 8, slots := #[.int (-102)], vm := .none },
  { cls := 8, slots := #[.int (-101)], vm := .none },
  { cls := 8, slots := #[.int (-100)], vm := .none },
  { cls := 8, slots := #[.int (-99)], vm := .none },
  { cls := 8, slots := #[.int (-98)], vm := .none },
  { cls := 8, slots := #[.int (-97)], vm := .none },
  { cls := 8, slots := #[.int (-96)], vm := .none },
  { cls := 8, slots := #[.int (-95)], vm := .none },
  { cls := 8, slots := #[.int (-94)], vm := .none },
  { cls := 8, slots := #[.int (-93)], vm := .none },
  { cls := 8, slots := #[.int (-92)], vm := .none },
  { cls := 8, slots := #[.int (-91)], vm := .none },
  { cls := 8, slots := #[.int (-90)], vm := .none },
  { cls := 8, slots := #[.int (-89)], vm := .none },
  { cls := 8, slots := #[.int (-88)], vm := .none },
  { cls := 8, slots := #[.int (-87)], vm := .none },
  { cls := 8, slots := #[.int (-86)], vm := .none },
  { cls := 8, slots := #[.int (-85)], vm := .none },
  { cls := 8, slots := #[.int (-84)], vm := .none },
  { cls := 8, slots := #[.int (-83)], vm := .none },
  { cls := 8, slots := #[.int (-82)], vm := .none },
  { cls := 8, slots := #[.int (-81)], vm := .none },
  { cls := 8, slots := #[.int (-80)], vm := .none },
  { cls := 8, slots := #[.int (-79)], vm := .none },
  { cls := 8, slots := #[.int (-78)], vm := .none },
  { cls := 8, slots := #[.int (-77)], vm := .none },
  { cls := 8, slots := #[.int (-76)], vm := .none },
  { cls := 8, slots := #[.int (-75)], vm := .none },
  { cls := 8, slots := #[.int (-74)], vm := .none },
  { cls := 8, slots := #[.int (-73)], vm := .none },
  { cls := 8, slots := #[.int (-72)], vm := .none },
  { cls := 8, slots := #[.int (-71)], vm := .none },
  { cls := 8, slots := #[.int (-70)], vm := .none },
  { cls := 8, slots := #[.int (-69)], vm := .none },
  { cls := 8, slots := #[.int (-68)], vm := .none },
  { cls := 8, slots := #[.int (-67)], vm := .none },
  { cls := 8, slots := #[.int (-66)], vm := .none },
  { cls := 8, slots := #[.int (-65)], vm := .none },
  { cls := 8, slots := #[.int (-64)], vm := .none },
  { cls := 8, slots := #[.int (-63)], vm := .none },
  { cls := 8, slots := #[.int (-62)], vm := .none },
  { cls := 8, slots := #[.int (-61)], vm := .none },
  { cls := 8, slots := #[.int (-60)], vm := .none },
  { cls := 8, slots := #[.int (-59)], vm := .none },
  { cls := 8, slots := #[.int (-58)], vm := .none },
  { cls := 8, slots := #[.int (-57)], vm := .none },
  { cls := 8, slots := #[.int (-56)], vm := .none },
  { cls := 8, slots := #[.int (-55)], vm := .none },
  { cls := 8, slots := #[.int (-54)], vm := .none },
  { cls := 8, slots := #[.int (-53)], vm := .none },
  { cls := 8, slots := #[.int (-52)], vm := .none },
  { cls := 8, slots := #[.int (-51)], vm := .none },
  { cls := 8, slots := #[.int (-50)], vm := .none },
  { cls := 8, slots := #[.int (-49)], vm := .none },
  { cls := 8, slots := #[.int (-48)], vm := .none },
  { cls := 8, slots := #[.int (-47)], vm := .none },
  { cls := 8, slots := #[.int (-46)], vm := .none },
  { cls := 8, slots := #[.int (-45)], vm := .none },
  { cls := 8, slots := #[.int (-44)], vm := .none },
  { cls := 8, slots := #[.int (-43)], vm := .none },
  { cls := 8, slots := #[.int (-42)], vm := .none },
  { cls := 8, slots := #[.int (-41)], vm := .none },
  { cls := 8, slots := #[.int (-40)], vm := .none },
  { cls := 8, slots := #[.int (-39)], vm := .none },
  { cls := 8, slots := #[.int (-38)], vm := .none },
  { cls := 8, slots := #[.int (-37)], vm := .none },
  { cls := 8, slots := #[.int (-36)], vm := .none },
  { cls := 8, slots := #[.int (-35)], vm := .none },
  { cls := 8, slots := #[.int (-34)], vm := .none },
  { cls := 8, slots := #[.int (-33)], vm := .none },
  { cls := 8, slots := #[.int (-32)], vm := .none },
  { cls := 8, slots := #[.int (-31)], vm := .none },
  { cls := 8, slots := #[.int (-30)], vm := .none },
  { cls := 8, slots := #[.int (-29)], vm := .none },
  { cls := 8, slots := #[.int (-28)], vm := .none },
  { cls := 8, slots := #[.int (-27)], vm := .none },
  { cls := 8, slots := #[.int (-26)], vm := .none },
  { cls := 8, slots := #[.int (-25)], vm := .none },
  { cls := 8, slots := #[.int (-24)], vm := .none },
  { cls := 8, slots := #[.int (-23)], vm := .none },
  { cls := 8, slots := #[.int (-22)], vm := .none },
  { cls := 8, slots := #[.int (-21)], vm := .none },
  { cls := 8, slots := #[.int (-20)], vm := .none },
  { cls := 8, slots := #[.int (-19)], vm := .none },
  { cls := 8, slots := #[.int (-18)], vm := .none },
  { cls := 8, slots := #[.int (-17)], vm := .none },
  { cls := 8, slots := #[.int (-16)], vm := .none },
  { cls := 8, slots := #[.int (-15)], vm := .none },
  { cls := 8, slots := #[.int (-14)], vm := .none },
  { cls := 8, slots := #[.int (-13)], vm := .none },
  { cls := 8, slots := #[.int (-12)], vm := .none },
  { cls := 8, slots := #[.int (-11)], vm := .none },
  { cls := 8, slots := #[.int (-10)], vm := .none },
  { cls := 8, slots := #[.int (-9)], vm := .none },
  { cls := 8, slots := #[.int (-8)], vm := .none },
  { cls := 8, slots := #[.int (-7)], vm := .none },
  { cls := 8, slots := #[.int (-6)], vm := .none },
  { cls := 8, slots := #[.int (-5)], vm := .none },
  { cls := 8, slots := #[.int (-4)], vm := .none },
  { cls := 8, slots := #[.int (-3)], vm := .none },
  { cls := 8, slots := #[.int (-2)], vm := .none },
  { cls := 8, slots := #[.int (-1)], vm := .none },
  { cls := 8, slots := #[.int (0)], vm := .none },
  { cls := 8, slots := #[.int (1)], vm := .none },
  { cls := 8, slots := #[.int (2)], vm := .none },
  { cls := 8, slots := #[.int (3)], vm := .none },
  { cls := 8, slots := #[.int (4)], vm := .none },
  { cls := 8, slots := #[.int (5)], vm := .none },
  { cls := 8, slots := #[.int (6)], vm := .none },
  { cls := 8, slots := #[.int (7)], vm := .none },
  { cls := 8, slots := #[.int (8)], vm := .none },
  { cls := 8, slots := #[.int (9)], vm := .none },
  { cls := 8, slots := #[.int (10)], vm := .none },
  { cls := 8, slots := #[.int (11)], vm := .none },
  { cls := 8, slots := #[.int (12)], vm := .none },
  { cls := 8, slots := #[.int (13)], vm := .none },
  { cls := 8, slots := #[.int (14)], vm := .none },
  { cls := 8, slots := #[.int (15)], vm := .none },
  { cls := 8, slots := #[.int (16)], vm := .none },
  { cls := 8, slots := #[.int (17)], vm := .none },
  { cls := 8, slots := #[.int (18)], vm := .none },
  { cls := 8, slots := #[.int (19)], vm := .none },
  { cls := 8, slots := #[.int (20)], vm := .none },
  { cls := 8, slots := #[.int (21)], vm := .none },
  { cls := 8, slots := #[.int (22)], vm := .none },
  { cls := 8, slots := #[.int (23)], vm := .none },
  { cls := 8, slots := #[.int (24)], vm := .none },
  { cls := 8, slots := #[.int (25)], vm := .none },
  { cls := 8, slots := #[.int (26)], vm := .none },
  { cls := 8, slots := #[.int (27)], vm := .none },
  { cls := 8, slots := #[.int (28)], vm := .none },
  { cls := 8, slots := #[.int (29)], vm := .none },
  { cls := 8, slots := #[.int (30)], vm := .none },
  { cls := 8, slots := #[.int (31)], vm := .none },
  { cls := 8, slots := #[.int (32)], vm := .none },
  { cls := 8, slots := #[.int (33)], vm := .none },
  { cls := 8, slots := #[.int (34)], vm := .none },
  { cls := 8, slots := #[.int (35)], vm := .none },
  { cls := 8, slots := #[.int (36)], vm := .none },
  { cls := 8, slots := #[.int (37)], vm := .none },
  { cls := 8, slots := #[.int (38)], vm := .none },
  { cls := 8, slots := #[.int (39)], vm := .none },
  { cls := 8, slots := #[.int (40)], vm := .none },
  { cls := 8, slots := #[.int (41)], vm := .none },
  { cls := 8, slots := #[.int (42)], vm := .none },
  { cls := 8, slots := #[.int (43)], vm := .none },
  { cls := 8, slots := #[.int (44)], vm := .none },
  { cls := 8, slots := #[.int (45)], vm := .none },
  { cls := 8, slots := #[.int (46)], vm := .none },
  { cls := 8, slots := #[.int (47)], vm := .none },
  { cls := 8, slots := #[.int (48)], vm := .none },
  { cls := 8, slots := #[.int (49)], vm := .none },
  { cls := 8, slots := #[.int (50)], vm := .none },
  { cls := 8, slots := #[.int (51)], vm := .none },
  { cls := 8, slots := #[.int (52)], vm := .none },
  { cls := 8, slots := #[.int (53)], vm := .none },
  { cls := 8, slots := #[.int (54)], vm := .none },
  { cls := 8, slots := #[.int (55)], vm := .none },
  { cls := 8, slots := #[.int (56)], vm := .none },
  { cls := 8, slots := #[.int (57)], vm := .none },
  { cls := 8, slots := #[.int (58)], vm := .none },
  { cls := 8, slots := #[.int (59)], vm := .none },
  { cls := 8, slots := #[.int (60)], vm := .none },
  { cls := 8, slots := #[.int (61)], vm := .none },
  { cls := 8, slots := #[.int (62)], vm := .none },
  { cls := 8, slots := #[.int (63)], vm := .none },
  { cls := 8, slots := #[.int (64)], vm := .none },
  { cls := 8, slots := #[.int (65)], vm := .none },
  { cls := 8, slots := #[.int (66)], vm := .none },
  { cls := 8, slots := #[.int (67)], vm := .none },
  { cls := 8, slots := #[.int (68)], vm := .none },
  { cls := 8, slots := #[.int (69)], vm := .none },
  { cls := 8, slots := #[.int (70)], vm := .none },
  { cls := 8, slots := #[.int (71)], vm := .none },
  { cls := 8, slots := #[.int (72)], vm := .none },
  { cls := 8, slots := #[.int (73)], vm := .none },
  { cls := 8, slots := #[.int (74)], vm := .none },
  { cls := 8, slots := #[.int (75)], vm := .none },
  { cls := 8, slots := #[.int (76)], vm := .none },
  { cls := 8, slots := #[.int (77)], vm := .none },
  { cls := 8, slots := #[.int (78)], vm := .none },
  { cls := 8, slots := #[.int (79)], vm := .none },
  { cls := 8, slots := #[.int (80)], vm := .none },
  { cls := 8, slots := #[.int (81)], vm := .none },
  { cls := 8, slots := #[.int (82)], vm := .none },
  { cls := 8, slots := #[.int (83)], vm := .none },
  { cls := 8, slots := #[.int (84)], vm := .none },
  { cls := 8, slots := #[.int (85)], vm := .none },
  { cls := 8, slots := #[.int (86)], vm := .none },
  { cls := 8, slots := #[.int (87)], vm := .none },
  { cls := 8, slots := #[.int (88)], vm := .none },
  { cls := 8, slots := #[.int (89)], vm := .none },
  { cls := 8, slots := #[.int (90)], vm := .none },
  { cls := 8, slots := #[.int (91)], vm := .none },
  { cls := 8, slots := #[.int (92)], vm := .none },
  { cls := 8, slots := #[.int (93)], vm := .none },
  { cls := 8, slots := #[.int (94)], vm := .none },
  { cls := 8, slots := #[.int (95)], vm := .none },
  { cls := 8, slots := #[.int (96)], vm := .none },
  { cls := 8, slots := #[.int (97)], vm := .none },
  { cls := 8, slots := #[.int (98)], vm := .none },
  { cls := 8, slots := #[.int (99)], vm := .none },
  { cls := 8, slots := #[.int (100)], vm := .none },
  { cls := 8, slots := #[.int (101)], vm := .none },
  { cls := 8, slots := #[.int (102)], vm := .none },
  { cls := 8, slots := #[.int (103)], vm := .none },
  { cls := 8, slots := #[.int (104)], vm := .none },
  { cls := 8, slots := #[.int (105)], vm := .none },
  { cls := 8, slots := #[.int (106)], vm := .none },
  { cls := 8, slots := #[.int (107)], vm := .none },
  { cls := 8, slots := #[.int (108)], vm := .none },
  { cls := 8, slots := #[.int (109)], vm := .none },
  { cls := 8, slots := #[.int (110)], vm := .none },
  { cls := 8, slots := #[.int (111)], vm := .none },
  { cls := 8, slots := #[.int (112)], vm := .none },
  { cls := 8, slots := #[.int (113)], vm := .none },
  { cls := 8, slots := #[.int (114)], vm := .none },
  { cls := 8, slots := #[.int (115)], vm := .none },
  { cls := 8, slots := #[.int (116)], vm := .none },
  { cls := 8, slots := #[.int (117)], vm := .none },
  { cls := 8, slots := #[.int (118)], vm := .none },
  { cls := 8, slots := #[.int (119)], vm := .none },
  { cls := 8, slots := #[.int (120)], vm := .none },
  { cls := 8, slots := #[.int (121)], vm := .none },
  { cls := 8, slots := #[.int (122)], vm := .none },
  { cls := 8, slots := #[.int (123)], vm := .none },
  { cls := 8, slots := #[.int (124)], vm := .none },
  { cls := 8, slots := #[.int (125)], vm := .none },
  { cls := 8, slots := #[.int (126)], vm := .none },
  { cls := 8, slots := #[.int (127)], vm := .none }]
def classes : Array Class := #[k0, k1, k2, k3, k4, k5, k6, k7, k8, k9, k10, k11, k12, k13, k14, k15]
def interned : List (Array UInt16 × Addr) := []
def slotsUsed : Nat := 517
def theMethod : MethodId := ⟨1, 1⟩
def args0 : Array Value := #[.int 5, .int 6, .int 7, .int 8, .int 9]
def aboutOver (below : List Frame) : State where
  vm := { classes := classes, interned := interned.toArray }
  heap := heap
  slotsUsed := slotsUsed
  threads := #[{ frames := .invoking theMethod args0 :: below }]
def below0 : List Frame := [.native { method := ⟨0, 0⟩, args := #[] }]
def about1 : State := aboutOver below0
def p0 : Program := .bare "" "" ""
def e0 : Env := launch0.env 0 0 0
theorem w_frames : about1.frames = Frame.invoking theMethod args0 :: below0 := rfl
set_option maxRecDepth 65536 in
theorem w_args : argsFit about1.vm theMethod args0 = true := by decide +kernel
set_option maxRecDepth 65536 in
theorem w_heap : heapFits about1 = true := by decide +kernel
set_option maxRecDepth 65536 in
theorem w_runnable : about1.curStatus? = some .runnable := by decide +kernel
set_option maxRecDepth 65536 in
theorem w_alone : about1.alone = true := by decide +kernel
set_option maxRecDepth 65536 in
theorem w_named : about1.methodNamed? x = some theMethod := by decide +kernel
set_option maxRecDepth 65536 in
theorem w_hears : about1.hears theMethod below0 = true := by decide +kernel
set_option maxRecDepth 65536 in
theorem w_ripe : about1.ripe theMethod args0 below0 = true := by decide +kernel
theorem w_running : about1.status = .running := rfl
set_option maxRecDepth 65536 in
theorem w_room : about1.hasRoom e0.platform room_1 = true :=
  launch0.hasRoom_least _ room_1 (by decide +kernel) (by decide +kernel) (by decide +kernel) (by decide +kernel) (by decide +kernel) (by decide +kernel)
theorem allAtoms_all (ts : List Jvm.Cond) (a : Array Jvm.Value) (st : Jvm.State) : (allAtoms ts).before a st = ts.all (fun c => c.before a st) := by
  induction ts with
  | nil => rfl
  | cons c t ih =>
    show (Jvm.Cond.and c (allAtoms t)).before a st = _
    rw [Jvm.Cond.before_and, ih, List.all_cons]
def words1 : List Jvm.Cond := Jvm.Cond.code x code maxLocals ret :: tables_1
/-- a 'code' word, met by the world's own term for the bytes: nothing is compared byte by byte -/
theorem code_word {y : MethodName} {bytes : ByteArray} {mx : Nat} {rt : Option FieldType} {a : Array Value} {s : State} {m : MethodId} {meth : Method} {c : Code} (h1 : s.methodNamed? y = some m) (h2 : s.vm.method? m = some meth) (h3 : meth.code = some c) (h4 : c.code = bytes)
    (h5 : (c.maxLocals == mx && c.exceptionTable.isEmpty && decide (c.maxStack ≤ mostOperands) && decide (meth.sig.returnType = rt) && !meth.locks && decide (parseMethodDescriptor y.desc = some meth.sig)) = true) : (Jvm.Cond.code y bytes mx rt).before a s = true := by
  simp only [Bool.and_eq_true, beq_iff_eq, Bool.not_eq_true', decide_eq_true_eq] at h5
  obtain ⟨⟨⟨⟨⟨g1, g2⟩, g3⟩, g4⟩, g5⟩, g6⟩ := h5
  simp [Cond.before, Cond.holds, Cond.value, h1, h2, h3, h4, g1, g2, g3, g4, g5, g6]
def isCode : Jvm.Cond → Bool
  | .code _ _ _ _ => true
  | _ => false
theorem all_split {L : List Jvm.Cond} {P : Jvm.Cond → Bool} (h1 : L.all (fun c => isCode c || P c) = true) (h2 : ∀ c ∈ L.filter isCode, P c = true) : L.all P = true := by
  refine List.all_eq_true.mpr fun c hc => ?_
  have h := List.all_eq_true.mp h1 c hc
  rcases Bool.eq_false_or_eq_true (isCode c) with hi | hi
  · exact h2 c (List.mem_filter.mpr ⟨hc, hi⟩)
  · simpa [hi] using h
set_option maxRecDepth 65536 in
theorem w_c0 : (Jvm.Cond.code x code maxLocals ret).before args0 about1 = true := code_word (m := ⟨1, 1⟩) (meth := k1m1) (c := k1c1) (by decide +kernel) rfl rfl rfl (by decide +kernel)
set_option maxRecDepth 65536 in
theorem w_c1 : (Jvm.Cond.code ({ cls := "com/example/kembar/kembar/FingerprintIndex$Match", name := "<init>", desc := "(II)V" } : Jvm.MethodName) prog_7_method_1_code (3 : Nat) (Option.none : Option Jvm.ClassFile.FieldType)).before args0 about1 = true := code_word (m := ⟨2, 0⟩) (meth := k2m0) (c := k2c0) (by decide +kernel) rfl rfl rfl (by decide +kernel)
set_option maxRecDepth 65536 in
theorem w_c2 : (Jvm.Cond.code ({ cls := "java/lang/Object", name := "<init>", desc := "()V" } : Jvm.MethodName) object_method_1_code (1 : Nat) (Option.none : Option Jvm.ClassFile.FieldType)).before args0 about1 = true := code_word (m := ⟨0, 0⟩) (meth := k0m0) (c := k0c0) (by decide +kernel) rfl rfl rfl (by decide +kernel)
set_option maxRecDepth 65536 in
theorem w_c3 : (Jvm.Cond.code ({ cls := "com/example/kembar/kembar/FingerprintIndex$Match", name := "equals", desc := "(Ljava/lang/Object;)Z" } : Jvm.MethodName) prog_7_method_4_code (2 : Nat) (Option.some Jvm.ClassFile.FieldType.boolean)).before args0 about1 = true := code_word (m := ⟨2, 1⟩) (meth := k2m1) (c := k2c1) (by decide +kernel) rfl rfl rfl (by decide +kernel)
set_option maxRecDepth 65536 in
theorem w_c4 : (Jvm.Cond.code ({ cls := "java/lang/Integer", name := "valueOf", desc := "(I)Ljava/lang/Integer;" } : Jvm.MethodName) jdk_33_method_22_code (1 : Nat) (Option.some (Jvm.ClassFile.FieldType.object "java/lang/Integer"))).before args0 about1 = true := code_word (m := ⟨8, 0⟩) (meth := k8m0) (c := k8c0) (by decide +kernel) rfl rfl rfl (by decide +kernel)
set_option maxRecDepth 65536 in
theorem w_c5 : (Jvm.Cond.code ({ cls := "java/lang/Integer", name := "<init>", desc := "(I)V" } : Jvm.MethodName) jdk_33_method_23_code (2 : Nat) (Option.none : Option Jvm.ClassFile.FieldType)).before args0 about1 = true := code_word (m := ⟨8, 1⟩) (meth := k8m1) (c := k8c1) (by decide +kernel) rfl rfl rfl (by decide +kernel)
set_option maxRecDepth 65536 in
theorem w_c6 : (Jvm.Cond.code ({ cls := "java/lang/Number", name := "<init>", desc := "()V" } : Jvm.MethodName) jdk_18_method_1_code (1 : Nat) (Option.none : Option Jvm.ClassFile.FieldType)).before args0 about1 = true := code_word (m := ⟨4, 0⟩) (meth := k4m0) (c := k4c0) (by decide +kernel) rfl rfl rfl (by decide +kernel)
def codes1 : List Jvm.Cond := [Jvm.Cond.code x code maxLocals ret, Jvm.Cond.code ({ cls := "com/example/kembar/kembar/FingerprintIndex$Match", name := "<init>", desc := "(II)V" } : Jvm.MethodName) prog_7_method_1_code (3 : Nat) (Option.none : Option Jvm.ClassFile.FieldType), Jvm.Cond.code ({ cls := "java/lang/Object", name := "<init>", desc := "()V" } : Jvm.MethodName) object_method_1_code (1 : Nat) (Option.none : Option Jvm.ClassFile.FieldType), Jvm.Cond.code ({ cls := "com/example/kembar/kembar/FingerprintIndex$Match", name := "equals", desc := "(Ljava/lang/Object;)Z" } : Jvm.MethodName) prog_7_method_4_code (2 : Nat) (Option.some Jvm.ClassFile.FieldType.boolean), Jvm.Cond.code ({ cls := "java/lang/Integer", name := "valueOf", desc := "(I)Ljava/lang/Integer;" } : Jvm.MethodName) jdk_33_method_22_code (1 : Nat) (Option.some (Jvm.ClassFile.FieldType.object "java/lang/Integer")), Jvm.Cond.code ({ cls := "java/lang/Integer", name := "<init>", desc := "(I)V" } : Jvm.MethodName) jdk_33_method_23_code (2 : Nat) (Option.none : Option Jvm.ClassFile.FieldType), Jvm.Cond.code ({ cls := "java/lang/Number", name := "<init>", desc := "()V" } : Jvm.MethodName) jdk_18_method_1_code (1 : Nat) (Option.none : Option Jvm.ClassFile.FieldType)]
set_option maxRecDepth 65536 in
theorem codes_eq : words1.filter isCode = codes1 := rfl
theorem w_codes : ∀ c ∈ words1.filter isCode, c.before args0 about1 = true := by
  rw [codes_eq]
  intro c hc
  simp only [codes1, List.mem_cons, List.not_mem_nil, or_false] at hc
  rcases hc with rfl | rfl | rfl | rfl | rfl | rfl | rfl
  · exact w_c0
  · exact w_c1
  · exact w_c2
  · exact w_c3
  · exact w_c4
  · exact w_c5
  · exact w_c6
set_option maxRecDepth 65536 in
theorem w_t1 : (words1.take 24).all (fun c => isCode c || c.before args0 about1) = true := by decide +kernel
set_option maxRecDepth 65536 in
theorem w_t2 : (words1.drop 24).all (fun c => isCode c || c.before args0 about1) = true := by decide +kernel
theorem w_tables : (allAtoms (Jvm.Cond.code x code maxLocals ret :: tables_1)).before args0 about1 = true := by
  rw [allAtoms_all]
  show words1.all (fun c => c.before args0 about1) = true
  refine all_split ?_ w_codes
  rw [← List.take_append_drop 24 words1, List.all_append, w_t1, w_t2]
  rfl
set_option maxRecDepth 65536 in
theorem w_rest : rest_1_c.before args0 about1 = true := by decide +kernel
set_option maxRecDepth 65536 in
theorem w_case : (Jvm.Cond.and given_1 narrow_1).before args0 about1 = true := by decide +kernel
theorem w_applies : (headSpec (Jvm.Cond.code x code maxLocals ret :: tables_1) room_1).applies x e0.platform about1 = true :=
  (Spec.applies_iff w_frames).mpr ⟨w_running, w_runnable, w_alone, w_named, w_hears, w_ripe, w_room, w_tables⟩
theorem atStart : AtStart classFile x code maxLocals ret World_1 tables_1 room_1 Calls_1 rest_1 Pre_1 launch0 p0 e0 about1 theMethod args0 below0 :=
  ⟨lists_1, trivial, launch0.admits_env _ _ _, launch0.least_env, fairChoices_fair.cas, fairChoices_fair.clock, w_frames, w_args, w_heap, w_applies, trivial, w_rest, w_case⟩
end start1
theorem witness_1 : WitnessClaimed_1 := ⟨start1.p0, start1.e0, start1.about1, start1.theMethod, start1.args0, start1.below0, start1.atStart⟩
end Jvm.Pilot.@@N@@
