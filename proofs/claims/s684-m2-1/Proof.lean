import JvmDerived
import JvmDerived.Pilot.@@N@@Statement
import JvmDerived.Pilot.@@N@@Code
set_option linter.unusedVariables false
set_option linter.unusedSimpArgs false
namespace Jvm.RoadKit
open Sem ClassFile Op Lib Jvm.Stand Jvm.Free Jvm.LawKit
section New
variable {p : Program} {l : Launch} {e : Env} {R : Room} {s : State} {m : MethodId} {args : Array Value} {below : List Frame} {meth : Method} {c : Code} {T : State} {locs : List Loc} {cells slots : Nat}
theorem retI (X : Stand p l e R s m args below meth c T locs cells slots) (hx : p.tables.exec = Jvm.exec) {pc : Nat} {Ls : Array Slot} {z : Int32} {rest : List Value} (hret : meth.sig.returnType = some .int) (hd : decode c.code pc = .ok (.ireturn, 1)) {fs : List Frame}
    (hl : ∀ (f : JFrame) (acts : List Action), f.method = m → f.locked = none → f.entered = [] → (doReturn e (T.setTop f) acts (some (.int z))).1 = T.setFrames fs) : Steps p.tables e below (T.setTop (mkF m pc Ls (.int z :: rest))) (T.setFrames fs) := by
  have hm' : T.vm.method? m = some meth := X.method'
  have hn : narrow .int (.int z) = .int z := rfl
  show Steps p.tables e below (T.setTop { method := m, pc := pc, locals := Ls, stack := _ :: rest, locked := none }) _
  jvm_step X.here [X.here.top, hx, hd, hm', hret, hn]
  first | (intro acts; rw [hl _ acts rfl rfl rfl]) | rw [hl _ _ rfl rfl rfl]
  exact Steps.refl _
end New
end Jvm.RoadKit
namespace Jvm.Pilot.@@N@@
open Jvm Jvm.ClassFile Sem Op Lib Jvm.Free Jvm.Stand Jvm.LawKit Jvm.RoadKit Bundle Jvm.Pilot.@@N@@.Jvm.D
/-! the rest of a walk, from a state on: it returns, and what it leaves -/
def OwnGo (p : Program) (e : Env) (below : List Frame) (s : State) (Q : Option Value → Heap → List Loc → Prop) (K N : Nat) (U : State) : Prop :=
  ∃ t o, Steps p.tables e below U t ∧ t.status = .running ∧ Ended t below o ∧ ∃ v L, o = .returned v ∧ Q v t.heap L ∧ FrameEnd s o t L K N
section OwnKit
variable {p : Program} {l : Launch} {e : Env} {R : Room} {s : State} {m : MethodId} {args : Array Value} {below : List Frame} {meth : Method} {c : Code} {T : State} {locs : List Loc} {cells slots : Nat} {Q : Option Value → Heap → List Loc → Prop} {K N : Nat} {U U' : State} {h : Heap}
theorem own_on (st : ∀ t, Steps p.tables e below U' t → Steps p.tables e below U t) (k : OwnGo p e below s Q K N U') : OwnGo p e below s Q K N U := by
  obtain ⟨t, o, h1, r⟩ := k; exact ⟨t, o, st t h1, r⟩
theorem own_tr (st : Steps p.tables e below U U') (k : OwnGo p e below s Q K N U') : OwnGo p e below s Q K N U := own_on (fun _ q => st.trans q) k
theorem own_cast {g g' : JFrame} (q : g = g') (k : OwnGo p e below s Q K N (T.setTop g')) : OwnGo p e below s Q K N (T.setTop g) := q ▸ k
theorem own_end (X : Stand p l e R s m args below meth c T locs cells slots) (hlk : meth.locks = false) {v : Option Value} (hv : meth.sig.returnType = none → v = none) (eT : T.heap = h) (q : Q v h locs) (hk : cells ≤ K) (hn : slots ≤ N)
    (st : ∀ fs, (∀ (f : JFrame) (acts : List Action), f.method = m → f.locked = none → f.entered = [] → (doReturn e (T.setTop f) acts v).1 = T.setFrames fs) → Steps p.tables e below U (T.setFrames fs)) : OwnGo p e below s Q K N U := by
  obtain ⟨fs, hr, hrun, hended, hW, hsame⟩ := X.leave (v := v) hv hlk
  refine ⟨_, _, st fs hr, hrun, hended, v, locs, rfl, ?_, ⟨_, rfl⟩, hW, hsame.mono hk hn⟩
  have : (T.setFrames fs).heap = h := eT
  rw [this]; exact q
theorem own_retN (X : Stand p l e R s m args below meth c T locs cells slots) (hx : p.tables.exec = Jvm.exec) (hlk : meth.locks = false) {pc : Nat} {Ls : Array Slot} {z : Int32} {t : FieldType} {rest : List Value} (hret : meth.sig.returnType = some t) (ht : t = .boolean ∨ t = .byte ∨ t = .char ∨ t = .short)
    (hd : decode c.code pc = .ok (.ireturn, 1)) (eT : T.heap = h) (q : Q (some (.int (nar t z))) h locs) (hk : cells ≤ K) (hn : slots ≤ N) : OwnGo p e below s Q K N (T.setTop (mkF m pc Ls (.int z :: rest))) :=
  own_end X hlk (fun h => by rw [hret] at h; cases h) eT q hk hn fun fs hr => retN X hx hret ht hd hr
theorem own_retI (X : Stand p l e R s m args below meth c T locs cells slots) (hx : p.tables.exec = Jvm.exec) (hlk : meth.locks = false) {pc : Nat} {Ls : Array Slot} {z : Int32} {rest : List Value} (hret : meth.sig.returnType = some .int)
    (hd : decode c.code pc = .ok (.ireturn, 1)) (eT : T.heap = h) (q : Q (some (.int z)) h locs) (hk : cells ≤ K) (hn : slots ≤ N) : OwnGo p e below s Q K N (T.setTop (mkF m pc Ls (.int z :: rest))) :=
  own_end X hlk (fun h => by rw [hret] at h; cases h) eT q hk hn fun fs hr => retI X hx hret hd hr
theorem own_retA (X : Stand p l e R s m args below meth c T locs cells slots) (hx : p.tables.exec = Jvm.exec) (hlk : meth.locks = false) {pc : Nat} {Ls : Array Slot} {w : Value} {t : FieldType} {rest : List Value} (hret : meth.sig.returnType = some t) (ht : t.isReference = true) (hw : w.isRef = true)
    (hd : decode c.code pc = .ok (.areturn, 1)) (eT : T.heap = h) (q : Q (some w) h locs) (hk : cells ≤ K) (hn : slots ≤ N) : OwnGo p e below s Q K N (T.setTop (mkF m pc Ls (w :: rest))) :=
  own_end X hlk (fun h => by rw [hret] at h; cases h) eT q hk hn fun fs hr => retOut X hx hret (by rcases ref_cases hw with rfl | ⟨a, rfl⟩ <;> cases t <;> rfl) (Or.inr (Or.inr (Or.inr (Or.inr ⟨rfl, ht, hw⟩)))) hd hr
theorem own_retV (X : Stand p l e R s m args below meth c T locs cells slots) (hx : p.tables.exec = Jvm.exec) (hlk : meth.locks = false) {pc : Nat} {Ls : Array Slot} (hret : meth.sig.returnType = none)
    (hd : decode c.code pc = .ok (.return_, 1)) (eT : T.heap = h) (q : Q none h locs) (hk : cells ≤ K) (hn : slots ≤ N) : OwnGo p e below s Q K N (T.setTop (mkF m pc Ls [])) :=
  own_end X hlk (fun _ => rfl) eT q hk hn fun fs hr => X.returnOut hx hret hd hr
end OwnKit

theorem own_h0 : (31 : Int32) * 0 + 0 = 0 := by decide
theorem own_h1 (n d : Int32) : (31 : Int32) * (n + 1) + d - (31 * n + d) = 31 := by grind
theorem own_h2 (n d : Int32) : (31 : Int32) * n + (d + 1) - (31 * n + d) = 1 := by grind
theorem w0 {a0 : Array Value} {Z : State} (hw : ∀ d ∈ tables_1, d.before a0 Z = true) : ((Jvm.Cond.classLink "com/example/kembar/kembar/MatchHashCodePinLaw" (7 : Nat) "com/example/kembar/kembar/FingerprintIndex$Match") : Jvm.Cond).before a0 Z = true := hw _ (List.mem_of_getElem? (i := 0) rfl)
theorem w1 {a0 : Array Value} {Z : State} (hw : ∀ d ∈ tables_1, d.before a0 Z = true) : ((Jvm.Cond.instantiable "com/example/kembar/kembar/FingerprintIndex$Match" (2 : Nat)) : Jvm.Cond).before a0 Z = true := hw _ (List.mem_of_getElem? (i := 1) rfl)
theorem w2 {a0 : Array Value} {Z : State} (hw : ∀ d ∈ tables_1, d.before a0 Z = true) : ((Jvm.Cond.initialized "com/example/kembar/kembar/FingerprintIndex$Match") : Jvm.Cond).before a0 Z = true := hw _ (List.mem_of_getElem? (i := 2) rfl)
theorem w3 {a0 : Array Value} {Z : State} (hw : ∀ d ∈ tables_1, d.before a0 Z = true) : ((Jvm.Cond.methodLink "com/example/kembar/kembar/MatchHashCodePinLaw" (9 : Nat) ({ cls := "com/example/kembar/kembar/FingerprintIndex$Match", name := "<init>", desc := "(II)V" } : Jvm.MethodName)) : Jvm.Cond).before a0 Z = true := hw _ (List.mem_of_getElem? (i := 3) rfl)
theorem w4 {a0 : Array Value} {Z : State} (hw : ∀ d ∈ tables_1, d.before a0 Z = true) : ((Jvm.Cond.instanceMethod ({ cls := "com/example/kembar/kembar/FingerprintIndex$Match", name := "<init>", desc := "(II)V" } : Jvm.MethodName)) : Jvm.Cond).before a0 Z = true := hw _ (List.mem_of_getElem? (i := 4) rfl)
theorem w5 {a0 : Array Value} {Z : State} (hw : ∀ d ∈ tables_1, d.before a0 Z = true) : ((Jvm.Cond.code ({ cls := "com/example/kembar/kembar/FingerprintIndex$Match", name := "<init>", desc := "(II)V" } : Jvm.MethodName) prog_7_method_1_code (3 : Nat) (Option.none : Option Jvm.ClassFile.FieldType)) : Jvm.Cond).before a0 Z = true := hw _ (List.mem_of_getElem? (i := 5) rfl)
theorem w6 {a0 : Array Value} {Z : State} (hw : ∀ d ∈ tables_1, d.before a0 Z = true) : ((Jvm.Cond.methodLink "com/example/kembar/kembar/FingerprintIndex$Match" (1 : Nat) ({ cls := "java/lang/Object", name := "<init>", desc := "()V" } : Jvm.MethodName)) : Jvm.Cond).before a0 Z = true := hw _ (List.mem_of_getElem? (i := 6) rfl)
theorem w7 {a0 : Array Value} {Z : State} (hw : ∀ d ∈ tables_1, d.before a0 Z = true) : ((Jvm.Cond.instanceMethod ({ cls := "java/lang/Object", name := "<init>", desc := "()V" } : Jvm.MethodName)) : Jvm.Cond).before a0 Z = true := hw _ (List.mem_of_getElem? (i := 7) rfl)
theorem w8 {a0 : Array Value} {Z : State} (hw : ∀ d ∈ tables_1, d.before a0 Z = true) : ((Jvm.Cond.code ({ cls := "java/lang/Object", name := "<init>", desc := "()V" } : Jvm.MethodName) object_method_1_code (1 : Nat) (Option.none : Option Jvm.ClassFile.FieldType)) : Jvm.Cond).before a0 Z = true := hw _ (List.mem_of_getElem? (i := 8) rfl)
theorem w9 {a0 : Array Value} {Z : State} (hw : ∀ d ∈ tables_1, d.before a0 Z = true) : ((Jvm.Cond.fieldLink "com/example/kembar/kembar/FingerprintIndex$Match" (7 : Nat) "com/example/kembar/kembar/FingerprintIndex$Match" "number" "I") : Jvm.Cond).before a0 Z = true := hw _ (List.mem_of_getElem? (i := 9) rfl)
theorem w10 {a0 : Array Value} {Z : State} (hw : ∀ d ∈ tables_1, d.before a0 Z = true) : ((Jvm.Cond.laysFinal "com/example/kembar/kembar/FingerprintIndex$Match" "com/example/kembar/kembar/FingerprintIndex$Match" "number" "I") : Jvm.Cond).before a0 Z = true := hw _ (List.mem_of_getElem? (i := 10) rfl)
theorem w11 {a0 : Array Value} {Z : State} (hw : ∀ d ∈ tables_1, d.before a0 Z = true) : ((Jvm.Cond.fieldLink "com/example/kembar/kembar/FingerprintIndex$Match" (13 : Nat) "com/example/kembar/kembar/FingerprintIndex$Match" "distance" "I") : Jvm.Cond).before a0 Z = true := hw _ (List.mem_of_getElem? (i := 11) rfl)
theorem w12 {a0 : Array Value} {Z : State} (hw : ∀ d ∈ tables_1, d.before a0 Z = true) : ((Jvm.Cond.laysFinal "com/example/kembar/kembar/FingerprintIndex$Match" "com/example/kembar/kembar/FingerprintIndex$Match" "distance" "I") : Jvm.Cond).before a0 Z = true := hw _ (List.mem_of_getElem? (i := 12) rfl)
theorem w13 {a0 : Array Value} {Z : State} (hw : ∀ d ∈ tables_1, d.before a0 Z = true) : ((Jvm.Cond.methodLink "com/example/kembar/kembar/MatchHashCodePinLaw" (12 : Nat) ({ cls := "com/example/kembar/kembar/FingerprintIndex$Match", name := "hashCode", desc := "()I" } : Jvm.MethodName)) : Jvm.Cond).before a0 Z = true := hw _ (List.mem_of_getElem? (i := 13) rfl)
theorem w14 {a0 : Array Value} {Z : State} (hw : ∀ d ∈ tables_1, d.before a0 Z = true) : ((Jvm.Cond.declares ({ cls := "com/example/kembar/kembar/FingerprintIndex$Match", name := "hashCode", desc := "()I" } : Jvm.MethodName)) : Jvm.Cond).before a0 Z = true := hw _ (List.mem_of_getElem? (i := 14) rfl)
theorem w15 {a0 : Array Value} {Z : State} (hw : ∀ d ∈ tables_1, d.before a0 Z = true) : ((Jvm.Cond.instanceMethod ({ cls := "com/example/kembar/kembar/FingerprintIndex$Match", name := "hashCode", desc := "()I" } : Jvm.MethodName)) : Jvm.Cond).before a0 Z = true := hw _ (List.mem_of_getElem? (i := 15) rfl)
theorem w16 {a0 : Array Value} {Z : State} (hw : ∀ d ∈ tables_1, d.before a0 Z = true) : ((Jvm.Cond.selects "com/example/kembar/kembar/FingerprintIndex$Match" ({ cls := "com/example/kembar/kembar/FingerprintIndex$Match", name := "hashCode", desc := "()I" } : Jvm.MethodName) ({ cls := "com/example/kembar/kembar/FingerprintIndex$Match", name := "hashCode", desc := "()I" } : Jvm.MethodName)) : Jvm.Cond).before a0 Z = true := hw _ (List.mem_of_getElem? (i := 16) rfl)
theorem w17 {a0 : Array Value} {Z : State} (hw : ∀ d ∈ tables_1, d.before a0 Z = true) : ((Jvm.Cond.code ({ cls := "com/example/kembar/kembar/FingerprintIndex$Match", name := "hashCode", desc := "()I" } : Jvm.MethodName) prog_7_method_5_code (1 : Nat) (Option.some Jvm.ClassFile.FieldType.int)) : Jvm.Cond).before a0 Z = true := hw _ (List.mem_of_getElem? (i := 17) rfl)
theorem d1_0 : decode prog_7_method_1_code 0 = .ok (.aload_n 0, 1) := by decide +kernel
theorem d1_1 : decode prog_7_method_1_code 1 = .ok (.invokespecial 1, 3) := by decide +kernel
theorem d1_4 : decode prog_7_method_1_code 4 = .ok (.aload_n 0, 1) := by decide +kernel
theorem d1_5 : decode prog_7_method_1_code 5 = .ok (.iload_n 1, 1) := by decide +kernel
theorem d1_6 : decode prog_7_method_1_code 6 = .ok (.putfield 7, 3) := by decide +kernel
theorem d1_9 : decode prog_7_method_1_code 9 = .ok (.aload_n 0, 1) := by decide +kernel
theorem d1_10 : decode prog_7_method_1_code 10 = .ok (.iload_n 2, 1) := by decide +kernel
theorem d1_11 : decode prog_7_method_1_code 11 = .ok (.putfield 13, 3) := by decide +kernel
theorem d1_14 : decode prog_7_method_1_code 14 = .ok (.return_, 1) := by decide +kernel
theorem pn_0 : plainName "com/example/kembar/kembar/FingerprintIndex$Match" = true := by first | (simp [plainName, overriddenIn]; done) | decide +kernel
theorem d3_0 : decode prog_7_method_5_code 0 = .ok (.bipush 31, 2) := by decide +kernel
theorem d3_2 : decode prog_7_method_5_code 2 = .ok (.aload_n 0, 1) := by decide +kernel
theorem d3_3 : decode prog_7_method_5_code 3 = .ok (.getfield 7, 3) := by decide +kernel
theorem d3_6 : decode prog_7_method_5_code 6 = .ok (.imul, 1) := by decide +kernel
theorem d3_7 : decode prog_7_method_5_code 7 = .ok (.aload_n 0, 1) := by decide +kernel
theorem d3_8 : decode prog_7_method_5_code 8 = .ok (.getfield 13, 3) := by decide +kernel
theorem d3_11 : decode prog_7_method_5_code 11 = .ok (.iadd, 1) := by decide +kernel
theorem d3_12 : decode prog_7_method_5_code 12 = .ok (.ireturn, 1) := by decide +kernel
theorem pd_0 : parseMethodDescriptor "(II)V" = some ⟨[.int, .int], none⟩ := by decide +kernel
theorem pd_1 : parseMethodDescriptor "()I" = some ⟨[], some .int⟩ := by decide +kernel
theorem pn_1 : plainName "com/example/kembar/kembar/MatchHashCodePinLaw" = true := by first | (simp [plainName, overriddenIn]; done) | decide +kernel
theorem ef_1 (m : MethodId) (a : Addr) (n : Int32) (d : Int32)  : entryFrame m #[(.ref a), (.int n), (.int d)] 3 = mkF m 0 #[.val (.ref a), .val (.int n), .val (.int d)] [] := by first | (simp [entryFrame, mkF, argsToLocals, Value.category]; done) | rfl
def Q1 (Z : State) (a : Addr) (n : Int32) (d : Int32) (u : Value) (u' : Value) (h0 : Heap) (n0 : Nat) (v_ : Option Value) (h_ : Heap) (L_ : List Loc) : Prop := v_ = none ∧ Fr n0 L_ ∧ Keep h0 h_ [a] ∧ (Exa Z h_ a "com/example/kembar/kembar/FingerprintIndex$Match") ∧ (Fld Z h_ a "com/example/kembar/kembar/FingerprintIndex$Match" "number" "I" (.int n)) ∧ (Fld Z h_ a "com/example/kembar/kembar/FingerprintIndex$Match" "distance" "I" (.int d))
set_option maxRecDepth 65536 in
set_option maxHeartbeats 40000000 in
theorem rm1 (l : Launch) (Z : State) (a0 : Array Value) (hw : ∀ d ∈ tables_1, d.before a0 Z = true) (ws : List Jvm.Cond) (a : Addr) (n : Int32) (d : Int32) (u : Value) (u' : Value) (h0 : Heap) (n0 : Nat) (Z0 : n0 ≤ h0.size) (P0 : Exa Z h0 a "com/example/kembar/kembar/FingerprintIndex$Match") (P1 : Fld Z h0 a "com/example/kembar/kembar/FingerprintIndex$Match" "number" "I" u) (P2 : Fld Z h0 a "com/example/kembar/kembar/FingerprintIndex$Match" "distance" "I" u') (P3 : n0 ≤ a) :
    MetFree l (⟨"com/example/kembar/kembar/FingerprintIndex$Match", "<init>", "(II)V"⟩ : MethodName) (head1 (Jvm.Cond.code (⟨"com/example/kembar/kembar/FingerprintIndex$Match", "<init>", "(II)V"⟩ : MethodName) prog_7_method_1_code 3 none :: ws) ({ frames := 1, cells := 0, slots := 0, locals := 12 } : Room)) (fun A_ U => A_ = #[(.ref a), (.int n), (.int d)] ∧ Z.Warmed39 U.vm ∧ U.heap = h0) (fun _ _ _ _ _ => True) (fun _ U_ o_ U'_ => ∃ v_ L_, o_ = .returned v_ ∧ Q1 Z a n d u u' h0 n0 v_ U'_.heap L_ ∧ FrameEnd U_ o_ U'_ L_ ({ frames := 1, cells := 0, slots := 0, locals := 12 } : Room).cells ({ frames := 1, cells := 0, slots := 0, locals := 12 } : Room).slots) := by
  refine MetFree.of_bodySF (plainFor_of_name pn_0) hisR ?_
  intro p e s m args below meth c s₁ Bd hml0 hP hK
  obtain ⟨rfl, hZ, hh⟩ := hP
  have hx := Bd.exec
  have hby := Bd.bytes
  have hml : c.maxLocals = 3 := hml0
  have hown : s.vm.findClass "com/example/kembar/kembar/FingerprintIndex$Match" = some m.cls := findClass_of_methodNamed Bd.named
  have hnm := (name_of_methodNamed Bd.named Bd.method).1
  have hlk : meth.locks = false := Bd.notSynchronized
  have X0 : Stand p l e ({ frames := 1, cells := 0, slots := 0, locals := 12 } : Room) s m #[(.ref a), (.int n), (.int d)] below meth c s₁ [] 0 0 := Stand.of_body Bd
  have e0 : s₁.heap = h0 := by rw [← hh, Bd.state]; rfl
  have N0 := Fr.nil n0
  have K0 : Keep h0 h0 [a] := Keep.refl _ _
  refine own_cast (ef_1 m a n d) ?_
  show OwnGo p e below s (Q1 Z a n d u u' h0 n0) ({ frames := 1, cells := 0, slots := 0, locals := 12 } : Room).cells ({ frames := 1, cells := 0, slots := 0, locals := 12 } : Room).slots (s₁.setTop (mkF m 0 #[.val (.ref a), .val (.int n), .val (.int d)] []))
  refine own_on (fun t k => XS.aloadN X0.here hx rfl (hb hby d1_0) rfl rfl k) ?_
  show OwnGo p e below s _ _ _ (s₁.setTop (mkF m 1 #[.val (.ref a), .val (.int n), .val (.int d)] [(.ref a)]))
  obtain ⟨T1, X1, e1, st1⟩ := initO X0 hx hZ hown (w6 hw) (w7 hw) (w8 hw) e0 (g := (mkF m 1 #[.val (.ref a), .val (.int n), .val (.int d)] [(.ref a)])) rfl (by rw [hml]; rfl) rfl (hb hby d1_1) (by decide) (W := 0) (by show 2 * 0 + _ ≤ _; exact Nat.le_of_eq rfl) (by decide)
  refine own_on st1 ?_
  show OwnGo p e below s _ _ _ (T1.setTop (mkF m 4 #[.val (.ref a), .val (.int n), .val (.int d)] []))
  refine own_on (fun t k => XS.aloadN X1.here hx rfl (hb hby d1_4) rfl rfl k) ?_
  show OwnGo p e below s _ _ _ (T1.setTop (mkF m 5 #[.val (.ref a), .val (.int n), .val (.int d)] [(.ref a)]))
  refine own_on (fun t k => XS.iloadN X1.here hx rfl (hb hby d1_5) rfl k) ?_
  show OwnGo p e below s _ _ _ (T1.setTop (mkF m 6 #[.val (.ref a), .val (.int n), .val (.int d)] [(.int n), (.ref a)]))
  obtain ⟨T2, h2, X2, e2, W2, st2⟩ := putF X1 hx hZ hown (host := "") (Or.inl (w9 hw)) Via.refl e1 P1 P0 (Or.inr ⟨(w10 hw), rfl, hnm⟩) (w1 hw) (ty := .int) (by decide) rfl rfl (g := (mkF m 6 #[.val (.ref a), .val (.int n), .val (.int d)] [(.int n), (.ref a)])) rfl rfl (hb hby d1_6)
  have F2 := P1.same W2
  have N2 := Fr.snoc X2 N0 P3
  have Z2 : n0 ≤ h2.size := Nat.le_trans Z0 (Keep.of_wr W2).1
  have K2 : Keep h0 h2 [a] := K0.wr W2 (Or.inl (List.mem_of_getElem? (i := 0) rfl))
  refine own_on st2 ?_
  show OwnGo p e below s _ _ _ (T2.setTop (mkF m 9 #[.val (.ref a), .val (.int n), .val (.int d)] []))
  refine own_on (fun t k => XS.aloadN X2.here hx rfl (hb hby d1_9) rfl rfl k) ?_
  show OwnGo p e below s _ _ _ (T2.setTop (mkF m 10 #[.val (.ref a), .val (.int n), .val (.int d)] [(.ref a)]))
  refine own_on (fun t k => XS.iloadN X2.here hx rfl (hb hby d1_10) rfl k) ?_
  show OwnGo p e below s _ _ _ (T2.setTop (mkF m 11 #[.val (.ref a), .val (.int n), .val (.int d)] [(.int d), (.ref a)]))
  have f3 : Fld Z h2 a "com/example/kembar/kembar/FingerprintIndex$Match" "distance" "I" u' := P2.other W2 (Or.inr (slot_ne (Or.inr (w12 hw)) (Or.inr (w10 hw)) (by decide) (t := .int) (t' := .int) (by decide) (by decide)))
  have f4 : Exa Z h2 a "com/example/kembar/kembar/FingerprintIndex$Match" := P0.wr W2
  obtain ⟨T5, h5, X5, e5, W5, st5⟩ := putF X2 hx hZ hown (host := "") (Or.inl (w11 hw)) Via.refl e2 f3 f4 (Or.inr ⟨(w12 hw), rfl, hnm⟩) (w1 hw) (ty := .int) (by decide) rfl rfl (g := (mkF m 11 #[.val (.ref a), .val (.int n), .val (.int d)] [(.int d), (.ref a)])) rfl rfl (hb hby d1_11)
  have F5 := f3.same W5
  have N5 := Fr.snoc X5 N2 P3
  have Z5 : n0 ≤ h5.size := Nat.le_trans Z2 (Keep.of_wr W5).1
  have K5 : Keep h0 h5 [a] := K2.wr W5 (Or.inl (List.mem_of_getElem? (i := 0) rfl))
  refine own_on st5 ?_
  show OwnGo p e below s _ _ _ (T5.setTop (mkF m 14 #[.val (.ref a), .val (.int n), .val (.int d)] []))
  have f6 : Exa Z h5 a "com/example/kembar/kembar/FingerprintIndex$Match" := f4.wr W5
  have f7 : Fld Z h5 a "com/example/kembar/kembar/FingerprintIndex$Match" "number" "I" (.int n) := F2.other W5 (Or.inr (slot_ne (Or.inr (w10 hw)) (Or.inr (w12 hw)) (by decide) (t := .int) (t' := .int) (by decide) (by decide)))
  exact own_retV X5 hx hlk Bd.returns (hb hby d1_14) e5 ⟨rfl, N5, K5, f6, f7, F5⟩ (by decide) (by decide)
theorem ef_3 (m : MethodId) (a : Addr)  : entryFrame m #[(.ref a)] 1 = mkF m 0 #[.val (.ref a)] [] := by first | (simp [entryFrame, mkF, argsToLocals, Value.category]; done) | rfl
def Q3 (Z : State) (a : Addr) (n : Int32) (d : Int32) (h0 : Heap) (n0 : Nat) (v_ : Option Value) (h_ : Heap) (L_ : List Loc) : Prop := v_ = some (.int (((31 : Int32) * n) + d)) ∧ Fr n0 L_ ∧ h_ = h0
set_option maxRecDepth 65536 in
set_option maxHeartbeats 40000000 in
theorem rm3 (l : Launch) (Z : State) (a0 : Array Value) (hw : ∀ d ∈ tables_1, d.before a0 Z = true) (ws : List Jvm.Cond) (a : Addr) (n : Int32) (d : Int32) (h0 : Heap) (n0 : Nat) (Z0 : n0 ≤ h0.size) (P0 : Fld Z h0 a "com/example/kembar/kembar/FingerprintIndex$Match" "number" "I" (.int n)) (P1 : Fld Z h0 a "com/example/kembar/kembar/FingerprintIndex$Match" "distance" "I" (.int d)) (P2 : Exa Z h0 a "com/example/kembar/kembar/FingerprintIndex$Match") :
    MetFree l (⟨"com/example/kembar/kembar/FingerprintIndex$Match", "hashCode", "()I"⟩ : MethodName) (head1 (Jvm.Cond.code (⟨"com/example/kembar/kembar/FingerprintIndex$Match", "hashCode", "()I"⟩ : MethodName) prog_7_method_5_code 1 (some .int) :: ws) ({ frames := 0, cells := 0, slots := 0, locals := 0 } : Room)) (fun A_ U => A_ = #[(.ref a)] ∧ Z.Warmed39 U.vm ∧ U.heap = h0) (fun _ _ _ _ _ => True) (fun _ U_ o_ U'_ => ∃ v_ L_, o_ = .returned v_ ∧ Q3 Z a n d h0 n0 v_ U'_.heap L_ ∧ FrameEnd U_ o_ U'_ L_ ({ frames := 0, cells := 0, slots := 0, locals := 0 } : Room).cells ({ frames := 0, cells := 0, slots := 0, locals := 0 } : Room).slots) := by
  refine MetFree.of_bodySF (plainFor_of_name pn_0) hisR ?_
  intro p e s m args below meth c s₁ Bd hml0 hP hK
  obtain ⟨rfl, hZ, hh⟩ := hP
  have hx := Bd.exec
  have hby := Bd.bytes
  have hml : c.maxLocals = 1 := hml0
  have hown : s.vm.findClass "com/example/kembar/kembar/FingerprintIndex$Match" = some m.cls := findClass_of_methodNamed Bd.named
  have hnm := (name_of_methodNamed Bd.named Bd.method).1
  have hlk : meth.locks = false := Bd.notSynchronized
  have X0 : Stand p l e ({ frames := 0, cells := 0, slots := 0, locals := 0 } : Room) s m #[(.ref a)] below meth c s₁ [] 0 0 := Stand.of_body Bd
  have e0 : s₁.heap = h0 := by rw [← hh, Bd.state]; rfl
  have N0 := Fr.nil n0
  have K0 : Keep h0 h0 [] := Keep.refl _ _
  refine own_cast (ef_3 m a) ?_
  show OwnGo p e below s (Q3 Z a n d h0 n0) ({ frames := 0, cells := 0, slots := 0, locals := 0 } : Room).cells ({ frames := 0, cells := 0, slots := 0, locals := 0 } : Room).slots (s₁.setTop (mkF m 0 #[.val (.ref a)] []))
  refine own_on (fun t k => XS.bipush X0.here hx rfl (hb hby d3_0) k) ?_
  show OwnGo p e below s _ _ _ (s₁.setTop (mkF m 2 #[.val (.ref a)] [(.int (31 : Int32))]))
  refine own_on (fun t k => XS.aloadN X0.here hx rfl (hb hby d3_2) rfl rfl k) ?_
  show OwnGo p e below s _ _ _ (s₁.setTop (mkF m 3 #[.val (.ref a)] [(.ref a), (.int (31 : Int32))]))
  obtain ⟨T1, X1, e1, st1⟩ := getF X0 hx hZ hown (host := "") (Or.inl (w9 hw)) Via.refl e0 P0 (g := (mkF m 3 #[.val (.ref a)] [(.ref a), (.int (31 : Int32))])) rfl rfl (hb hby d3_3)
  refine own_on st1 ?_
  show OwnGo p e below s _ _ _ (T1.setTop (mkF m 6 #[.val (.ref a)] [(.int n), (.int (31 : Int32))]))
  refine own_on (fun t k => XS.imul X1.here hx rfl (hb hby d3_6) rfl k) ?_
  show OwnGo p e below s _ _ _ (T1.setTop (mkF m 7 #[.val (.ref a)] [(.int ((31 : Int32) * n))]))
  refine own_on (fun t k => XS.aloadN X1.here hx rfl (hb hby d3_7) rfl rfl k) ?_
  show OwnGo p e below s _ _ _ (T1.setTop (mkF m 8 #[.val (.ref a)] [(.ref a), (.int ((31 : Int32) * n))]))
  obtain ⟨T2, X2, e2, st2⟩ := getF X1 hx hZ hown (host := "") (Or.inl (w11 hw)) Via.refl e1 P1 (g := (mkF m 8 #[.val (.ref a)] [(.ref a), (.int ((31 : Int32) * n))])) rfl rfl (hb hby d3_8)
  refine own_on st2 ?_
  show OwnGo p e below s _ _ _ (T2.setTop (mkF m 11 #[.val (.ref a)] [(.int d), (.int ((31 : Int32) * n))]))
  refine own_on (fun t k => XS.iadd X2.here hx rfl (hb hby d3_11) rfl k) ?_
  show OwnGo p e below s _ _ _ (T2.setTop (mkF m 12 #[.val (.ref a)] [(.int (((31 : Int32) * n) + d))]))
  exact own_retI X2 hx hlk Bd.returns (hb hby d3_12) e2 ⟨rfl, N0, rfl⟩ (by decide) (by decide)
theorem ef_0 (m : MethodId) (n : Int32) (d : Int32)  : entryFrame m #[(.int n), (.int d)] maxLocals = mkF m 0 #[.val (.int n), .val (.int d), .unset, .unset, .unset, .unset, .unset, .unset, .unset, .unset] [] := by first | (simp [entryFrame, mkF, argsToLocals, Value.category, maxLocals]; done) | rfl
def Q0 (Z : State) (n : Int32) (d : Int32) (h0 : Heap) (n0 : Nat) (v_ : Option Value) (h_ : Heap) (L_ : List Loc) : Prop := v_ = some (.int (1 : Int32)) ∧ Fr n0 L_ ∧ Keep h0 h_ []
set_option maxRecDepth 65536 in
set_option maxHeartbeats 40000000 in
theorem rm0 (l : Launch) (Z : State) (a0 : Array Value) (hw : ∀ d ∈ tables_1, d.before a0 Z = true) (ws : List Jvm.Cond) (n : Int32) (d : Int32) (h0 : Heap) (n0 : Nat) (Z0 : n0 ≤ h0.size)  :
    MetFree l x (head1 (Jvm.Cond.code x code maxLocals ret :: ws) room_1) (fun A_ U => A_ = #[(.int n), (.int d)] ∧ Z.Warmed39 U.vm ∧ U.heap = h0) (fun _ _ _ _ _ => True) (fun _ U_ o_ U'_ => ∃ v_ L_, o_ = .returned v_ ∧ Q0 Z n d h0 n0 v_ U'_.heap L_ ∧ FrameEnd U_ o_ U'_ L_ room_1.cells room_1.slots) := by
  refine MetFree.of_bodySF (plainFor_of_name pn_1) hisR ?_
  intro p e s m args below meth c s₁ Bd hml0 hP hK
  obtain ⟨rfl, hZ, hh⟩ := hP
  have hx := Bd.exec
  have hby := Bd.bytes
  have hml : c.maxLocals = 10 := hml0
  have hown : s.vm.findClass "com/example/kembar/kembar/MatchHashCodePinLaw" = some m.cls := findClass_of_methodNamed Bd.named
  have hnm := (name_of_methodNamed Bd.named Bd.method).1
  have hlk : meth.locks = false := Bd.notSynchronized
  have X0 : Stand p l e room_1 s m #[(.int n), (.int d)] below meth c s₁ [] 0 0 := Stand.of_body Bd
  have e0 : s₁.heap = h0 := by rw [← hh, Bd.state]; rfl
  have N0 := Fr.nil n0
  have K0 : Keep h0 h0 [] := Keep.refl _ _
  refine own_cast (ef_0 m n d) ?_
  show OwnGo p e below s (Q0 Z n d h0 n0) room_1.cells room_1.slots (s₁.setTop (mkF m 0 #[.val (.int n), .val (.int d), .unset, .unset, .unset, .unset, .unset, .unset, .unset, .unset] []))
  obtain ⟨T1, h1, X1, e1, E1, A1, D1, u1, st1⟩ := newO X0 hx hZ hown (w0 hw) (w1 hw) (w2 hw) e0 (g := (mkF m 0 #[.val (.int n), .val (.int d), .unset, .unset, .unset, .unset, .unset, .unset, .unset, .unset] [])) rfl (hb hby at_0) (by decide) (by decide)
  obtain ⟨b1, g1⟩ : ∃ z, z = h0.size := ⟨_, rfl⟩
  rw [← g1] at A1 D1 st1
  have g2 : n0 ≤ b1 := Nat.le_trans Z0 (Nat.le_of_eq g1.symm)
  have z3 : h0.size ≤ b1 := Nat.le_trans K0.1 (Nat.le_of_eq g1.symm)
  have Z1 : n0 ≤ h1.size := Nat.le_trans Z0 E1.1
  have K1 : Keep h0 h1 [] := K0.ext E1
  have F1_number : Fld Z h1 b1 "com/example/kembar/kembar/FingerprintIndex$Match" "number" "I" (.int (0 : Int32)) := D1 (Or.inr (w10 hw)) (ty := .int) (by decide)
  have F1_distance : Fld Z h1 b1 "com/example/kembar/kembar/FingerprintIndex$Match" "distance" "I" (.int (0 : Int32)) := D1 (Or.inr (w12 hw)) (ty := .int) (by decide)
  refine own_on st1 ?_
  show OwnGo p e below s _ _ _ (T1.setTop (mkF m 3 #[.val (.int n), .val (.int d), .unset, .unset, .unset, .unset, .unset, .unset, .unset, .unset] [(.ref b1)]))
  refine own_on (fun t k => XS.dup X1.here hx rfl (hb hby at_3) rfl rfl k) ?_
  show OwnGo p e below s _ _ _ (T1.setTop (mkF m 4 #[.val (.int n), .val (.int d), .unset, .unset, .unset, .unset, .unset, .unset, .unset, .unset] [(.ref b1), (.ref b1)]))
  refine own_on (fun t k => XS.iconst X1.here hx rfl (hb hby at_4) k) ?_
  show OwnGo p e below s _ _ _ (T1.setTop (mkF m 5 #[.val (.int n), .val (.int d), .unset, .unset, .unset, .unset, .unset, .unset, .unset, .unset] [(.int (0 : Int32)), (.ref b1), (.ref b1)]))
  refine own_on (fun t k => XS.iconst X1.here hx rfl (hb hby at_5) k) ?_
  show OwnGo p e below s _ _ _ (T1.setTop (mkF m 6 #[.val (.int n), .val (.int d), .unset, .unset, .unset, .unset, .unset, .unset, .unset, .unset] [(.int (0 : Int32)), (.int (0 : Int32)), (.ref b1), (.ref b1)]))
  obtain ⟨_, _, ⟨T4, L4, k4, n4⟩, -, X4, ⟨Lc4, hQ4, l4, y4, z4⟩, st4⟩ := X1.specialBack hx (y := (⟨"com/example/kembar/kembar/FingerprintIndex$Match", "<init>", "(II)V"⟩ : MethodName)) rfl hown (mvT hZ (w3 hw)) (mvT hZ (w4 hw)) (mvT hZ (w5 hw)) (by decide) (backOf (W := 1) (rm1 l Z a0 hw [] b1 (0 : Int32) (0 : Int32) (.int (0 : Int32)) (.int (0 : Int32)) h1 n0 Z1 A1 F1_number F1_distance g2) hZ (w5 hw) (w2 hw) (by decide) (by decide)) (g := (mkF m 6 #[.val (.int n), .val (.int d), .unset, .unset, .unset, .unset, .unset, .unset, .unset, .unset] [(.int (0 : Int32)), (.int (0 : Int32)), (.ref b1), (.ref b1)])) rfl (by rw [hml]; rfl) (Steps.refl _) (a := b1) (argsL := [(.int (0 : Int32)), (.int (0 : Int32))]) (rest := [(.ref b1)]) (lenOf pd_0 rfl) rfl (by show 2 * 0 + _ ≤ _; exact Nat.le_of_eq rfl) (hb hby at_6) (fun _ _ => ⟨rfl, e1, (by decide : 1 + 0 ≤ _), (by decide : 2 + 0 ≤ _)⟩)
  dsimp only [Pt.U, Pt.locs, Pt.cells, Pt.slots] at X4 l4 y4 z4 st4 hQ4
  subst l4 y4 z4
  obtain ⟨rfl, N4q, K4q, c4_0, c4_1, c4_2⟩ := hQ4
  have N4 := Fr.app N0 N4q
  have Z4 : n0 ≤ T4.heap.size := Nat.le_trans Z1 K4q.1
  have K4 : Keep h0 T4.heap [] := K1.trans K4q (allS (P := fun x => x ∈ [] ∨ h0.size ≤ x) (Or.inr z3) all0)
  refine own_tr st4 ?_
  show OwnGo p e below s _ _ _ (T4.setTop (mkF m 9 #[.val (.int n), .val (.int d), .unset, .unset, .unset, .unset, .unset, .unset, .unset, .unset] [(.ref b1)]))
  refine own_on (fun t k => XS.astoreN X4.here hx rfl (hb hby at_9) rfl rfl (l' := #[.val (.int n), .val (.int d), .val (.ref b1), .unset, .unset, .unset, .unset, .unset, .unset, .unset]) rfl k) ?_
  show OwnGo p e below s _ _ _ (T4.setTop (mkF m 10 #[.val (.int n), .val (.int d), .val (.ref b1), .unset, .unset, .unset, .unset, .unset, .unset, .unset] []))
  obtain ⟨T5, h5, X5, e5, E5, A5, D5, u5, st5⟩ := newO X4 hx hZ hown (w0 hw) (w1 hw) (w2 hw) rfl (g := (mkF m 10 #[.val (.int n), .val (.int d), .val (.ref b1), .unset, .unset, .unset, .unset, .unset, .unset, .unset] [])) rfl (hb hby at_10) (by decide) (by decide)
  obtain ⟨b5, g5⟩ : ∃ z, z = T4.heap.size := ⟨_, rfl⟩
  rw [← g5] at A5 D5 st5
  have f6 : Exa Z T4.heap b1 "com/example/kembar/kembar/FingerprintIndex$Match" := A1.keep K4q
  have ne7 : b1 ≠ b5 := Nat.ne_of_lt (Nat.lt_of_lt_of_le f6.lt (Nat.le_of_eq g5.symm))
  have g8 : n0 ≤ b5 := Nat.le_trans Z4 (Nat.le_of_eq g5.symm)
  have z9 : h0.size ≤ b5 := Nat.le_trans K4.1 (Nat.le_of_eq g5.symm)
  have Z5 : n0 ≤ h5.size := Nat.le_trans Z4 E5.1
  have K5 : Keep h0 h5 [] := K4.ext E5
  have F5_number : Fld Z h5 b5 "com/example/kembar/kembar/FingerprintIndex$Match" "number" "I" (.int (0 : Int32)) := D5 (Or.inr (w10 hw)) (ty := .int) (by decide)
  have F5_distance : Fld Z h5 b5 "com/example/kembar/kembar/FingerprintIndex$Match" "distance" "I" (.int (0 : Int32)) := D5 (Or.inr (w12 hw)) (ty := .int) (by decide)
  refine own_on st5 ?_
  show OwnGo p e below s _ _ _ (T5.setTop (mkF m 13 #[.val (.int n), .val (.int d), .val (.ref b1), .unset, .unset, .unset, .unset, .unset, .unset, .unset] [(.ref b5)]))
  refine own_on (fun t k => XS.dup X5.here hx rfl (hb hby at_13) rfl rfl k) ?_
  show OwnGo p e below s _ _ _ (T5.setTop (mkF m 14 #[.val (.int n), .val (.int d), .val (.ref b1), .unset, .unset, .unset, .unset, .unset, .unset, .unset] [(.ref b5), (.ref b5)]))
  refine own_on (fun t k => XS.iloadN X5.here hx rfl (hb hby at_14) rfl k) ?_
  show OwnGo p e below s _ _ _ (T5.setTop (mkF m 15 #[.val (.int n), .val (.int d), .val (.ref b1), .unset, .unset, .unset, .unset, .unset, .unset, .unset] [(.int n), (.ref b5), (.ref b5)]))
  refine own_on (fun t k => XS.iloadN X5.here hx rfl (hb hby at_15) rfl k) ?_
  show OwnGo p e below s _ _ _ (T5.setTop (mkF m 16 #[.val (.int n), .val (.int d), .val (.ref b1), .unset, .unset, .unset, .unset, .unset, .unset, .unset] [(.int d), (.int n), (.ref b5), (.ref b5)]))
  obtain ⟨_, _, ⟨T10, L10, k10, n10⟩, -, X10, ⟨Lc10, hQ10, l10, y10, z10⟩, st10⟩ := X5.specialBack hx (y := (⟨"com/example/kembar/kembar/FingerprintIndex$Match", "<init>", "(II)V"⟩ : MethodName)) rfl hown (mvT hZ (w3 hw)) (mvT hZ (w4 hw)) (mvT hZ (w5 hw)) (by decide) (backOf (W := 1) (rm1 l Z a0 hw [] b5 n d (.int (0 : Int32)) (.int (0 : Int32)) h5 n0 Z5 A5 F5_number F5_distance g8) hZ (w5 hw) (w2 hw) (by decide) (by decide)) (g := (mkF m 16 #[.val (.int n), .val (.int d), .val (.ref b1), .unset, .unset, .unset, .unset, .unset, .unset, .unset] [(.int d), (.int n), (.ref b5), (.ref b5)])) rfl (by rw [hml]; rfl) (Steps.refl _) (a := b5) (argsL := [(.int n), (.int d)]) (rest := [(.ref b5)]) (lenOf pd_0 rfl) rfl (by show 2 * 0 + _ ≤ _; exact Nat.le_of_eq rfl) (hb hby at_16) (fun _ _ => ⟨rfl, e5, (by decide : 2 + 0 ≤ _), (by decide : 4 + 0 ≤ _)⟩)
  dsimp only [Pt.U, Pt.locs, Pt.cells, Pt.slots] at X10 l10 y10 z10 st10 hQ10
  subst l10 y10 z10
  obtain ⟨rfl, N10q, K10q, c10_0, c10_1, c10_2⟩ := hQ10
  have N10 := Fr.app N4 N10q
  have Z10 : n0 ≤ T10.heap.size := Nat.le_trans Z5 K10q.1
  have K10 : Keep h0 T10.heap [] := K5.trans K10q (allS (P := fun x => x ∈ [] ∨ h0.size ≤ x) (Or.inr z9) all0)
  refine own_tr st10 ?_
  show OwnGo p e below s _ _ _ (T10.setTop (mkF m 19 #[.val (.int n), .val (.int d), .val (.ref b1), .unset, .unset, .unset, .unset, .unset, .unset, .unset] [(.ref b5)]))
  refine own_on (fun t k => XS.astoreN X10.here hx rfl (hb hby at_19) rfl rfl (l' := #[.val (.int n), .val (.int d), .val (.ref b1), .val (.ref b5), .unset, .unset, .unset, .unset, .unset, .unset]) rfl k) ?_
  show OwnGo p e below s _ _ _ (T10.setTop (mkF m 20 #[.val (.int n), .val (.int d), .val (.ref b1), .val (.ref b5), .unset, .unset, .unset, .unset, .unset, .unset] []))
  obtain ⟨T11, h11, X11, e11, E11, A11, D11, u11, st11⟩ := newO X10 hx hZ hown (w0 hw) (w1 hw) (w2 hw) rfl (g := (mkF m 20 #[.val (.int n), .val (.int d), .val (.ref b1), .val (.ref b5), .unset, .unset, .unset, .unset, .unset, .unset] [])) rfl (hb hby at_20) (by decide) (by decide)
  obtain ⟨b11, g11⟩ : ∃ z, z = T10.heap.size := ⟨_, rfl⟩
  rw [← g11] at A11 D11 st11
  have f12 : Exa Z h5 b1 "com/example/kembar/kembar/FingerprintIndex$Match" := f6.ext E5
  have f13 : Exa Z T10.heap b1 "com/example/kembar/kembar/FingerprintIndex$Match" := f12.keep K10q
  have ne14 : b1 ≠ b11 := Nat.ne_of_lt (Nat.lt_of_lt_of_le f13.lt (Nat.le_of_eq g11.symm))
  have f15 : Exa Z T10.heap b5 "com/example/kembar/kembar/FingerprintIndex$Match" := A5.keep K10q
  have ne16 : b5 ≠ b11 := Nat.ne_of_lt (Nat.lt_of_lt_of_le f15.lt (Nat.le_of_eq g11.symm))
  have g17 : n0 ≤ b11 := Nat.le_trans Z10 (Nat.le_of_eq g11.symm)
  have z18 : h0.size ≤ b11 := Nat.le_trans K10.1 (Nat.le_of_eq g11.symm)
  have Z11 : n0 ≤ h11.size := Nat.le_trans Z10 E11.1
  have K11 : Keep h0 h11 [] := K10.ext E11
  have F11_number : Fld Z h11 b11 "com/example/kembar/kembar/FingerprintIndex$Match" "number" "I" (.int (0 : Int32)) := D11 (Or.inr (w10 hw)) (ty := .int) (by decide)
  have F11_distance : Fld Z h11 b11 "com/example/kembar/kembar/FingerprintIndex$Match" "distance" "I" (.int (0 : Int32)) := D11 (Or.inr (w12 hw)) (ty := .int) (by decide)
  refine own_on st11 ?_
  show OwnGo p e below s _ _ _ (T11.setTop (mkF m 23 #[.val (.int n), .val (.int d), .val (.ref b1), .val (.ref b5), .unset, .unset, .unset, .unset, .unset, .unset] [(.ref b11)]))
  refine own_on (fun t k => XS.dup X11.here hx rfl (hb hby at_23) rfl rfl k) ?_
  show OwnGo p e below s _ _ _ (T11.setTop (mkF m 24 #[.val (.int n), .val (.int d), .val (.ref b1), .val (.ref b5), .unset, .unset, .unset, .unset, .unset, .unset] [(.ref b11), (.ref b11)]))
  refine own_on (fun t k => XS.iloadN X11.here hx rfl (hb hby at_24) rfl k) ?_
  show OwnGo p e below s _ _ _ (T11.setTop (mkF m 25 #[.val (.int n), .val (.int d), .val (.ref b1), .val (.ref b5), .unset, .unset, .unset, .unset, .unset, .unset] [(.int n), (.ref b11), (.ref b11)]))
  refine own_on (fun t k => XS.iconst X11.here hx rfl (hb hby at_25) k) ?_
  show OwnGo p e below s _ _ _ (T11.setTop (mkF m 26 #[.val (.int n), .val (.int d), .val (.ref b1), .val (.ref b5), .unset, .unset, .unset, .unset, .unset, .unset] [(.int (1 : Int32)), (.int n), (.ref b11), (.ref b11)]))
  refine own_on (fun t k => XS.iadd X11.here hx rfl (hb hby at_26) rfl k) ?_
  show OwnGo p e below s _ _ _ (T11.setTop (mkF m 27 #[.val (.int n), .val (.int d), .val (.ref b1), .val (.ref b5), .unset, .unset, .unset, .unset, .unset, .unset] [(.int (n + (1 : Int32))), (.ref b11), (.ref b11)]))
  refine own_on (fun t k => XS.iloadN X11.here hx rfl (hb hby at_27) rfl k) ?_
  show OwnGo p e below s _ _ _ (T11.setTop (mkF m 28 #[.val (.int n), .val (.int d), .val (.ref b1), .val (.ref b5), .unset, .unset, .unset, .unset, .unset, .unset] [(.int d), (.int (n + (1 : Int32))), (.ref b11), (.ref b11)]))
  obtain ⟨_, _, ⟨T19, L19, k19, n19⟩, -, X19, ⟨Lc19, hQ19, l19, y19, z19⟩, st19⟩ := X11.specialBack hx (y := (⟨"com/example/kembar/kembar/FingerprintIndex$Match", "<init>", "(II)V"⟩ : MethodName)) rfl hown (mvT hZ (w3 hw)) (mvT hZ (w4 hw)) (mvT hZ (w5 hw)) (by decide) (backOf (W := 1) (rm1 l Z a0 hw [] b11 (n + (1 : Int32)) d (.int (0 : Int32)) (.int (0 : Int32)) h11 n0 Z11 A11 F11_number F11_distance g17) hZ (w5 hw) (w2 hw) (by decide) (by decide)) (g := (mkF m 28 #[.val (.int n), .val (.int d), .val (.ref b1), .val (.ref b5), .unset, .unset, .unset, .unset, .unset, .unset] [(.int d), (.int (n + (1 : Int32))), (.ref b11), (.ref b11)])) rfl (by rw [hml]; rfl) (Steps.refl _) (a := b11) (argsL := [(.int (n + (1 : Int32))), (.int d)]) (rest := [(.ref b11)]) (lenOf pd_0 rfl) rfl (by show 2 * 0 + _ ≤ _; exact Nat.le_of_eq rfl) (hb hby at_28) (fun _ _ => ⟨rfl, e11, (by decide : 3 + 0 ≤ _), (by decide : 6 + 0 ≤ _)⟩)
  dsimp only [Pt.U, Pt.locs, Pt.cells, Pt.slots] at X19 l19 y19 z19 st19 hQ19
  subst l19 y19 z19
  obtain ⟨rfl, N19q, K19q, c19_0, c19_1, c19_2⟩ := hQ19
  have N19 := Fr.app N10 N19q
  have Z19 : n0 ≤ T19.heap.size := Nat.le_trans Z11 K19q.1
  have K19 : Keep h0 T19.heap [] := K11.trans K19q (allS (P := fun x => x ∈ [] ∨ h0.size ≤ x) (Or.inr z18) all0)
  refine own_tr st19 ?_
  show OwnGo p e below s _ _ _ (T19.setTop (mkF m 31 #[.val (.int n), .val (.int d), .val (.ref b1), .val (.ref b5), .unset, .unset, .unset, .unset, .unset, .unset] [(.ref b11)]))
  refine own_on (fun t k => XS.astore X19.here hx rfl (hb hby at_31) rfl rfl (l' := #[.val (.int n), .val (.int d), .val (.ref b1), .val (.ref b5), .val (.ref b11), .unset, .unset, .unset, .unset, .unset]) rfl k) ?_
  show OwnGo p e below s _ _ _ (T19.setTop (mkF m 33 #[.val (.int n), .val (.int d), .val (.ref b1), .val (.ref b5), .val (.ref b11), .unset, .unset, .unset, .unset, .unset] []))
  obtain ⟨T20, h20, X20, e20, E20, A20, D20, u20, st20⟩ := newO X19 hx hZ hown (w0 hw) (w1 hw) (w2 hw) rfl (g := (mkF m 33 #[.val (.int n), .val (.int d), .val (.ref b1), .val (.ref b5), .val (.ref b11), .unset, .unset, .unset, .unset, .unset] [])) rfl (hb hby at_33) (by decide) (by decide)
  obtain ⟨b20, g20⟩ : ∃ z, z = T19.heap.size := ⟨_, rfl⟩
  rw [← g20] at A20 D20 st20
  have f21 : Exa Z h11 b1 "com/example/kembar/kembar/FingerprintIndex$Match" := f13.ext E11
  have f22 : Exa Z T19.heap b1 "com/example/kembar/kembar/FingerprintIndex$Match" := f21.keep K19q
  have ne23 : b1 ≠ b20 := Nat.ne_of_lt (Nat.lt_of_lt_of_le f22.lt (Nat.le_of_eq g20.symm))
  have f24 : Exa Z h11 b5 "com/example/kembar/kembar/FingerprintIndex$Match" := f15.ext E11
  have f25 : Exa Z T19.heap b5 "com/example/kembar/kembar/FingerprintIndex$Match" := f24.keep K19q
  have ne26 : b5 ≠ b20 := Nat.ne_of_lt (Nat.lt_of_lt_of_le f25.lt (Nat.le_of_eq g20.symm))
  have f27 : Exa Z T19.heap b11 "com/example/kembar/kembar/FingerprintIndex$Match" := A11.keep K19q
  have ne28 : b11 ≠ b20 := Nat.ne_of_lt (Nat.lt_of_lt_of_le f27.lt (Nat.le_of_eq g20.symm))
  have g29 : n0 ≤ b20 := Nat.le_trans Z19 (Nat.le_of_eq g20.symm)
  have z30 : h0.size ≤ b20 := Nat.le_trans K19.1 (Nat.le_of_eq g20.symm)
  have Z20 : n0 ≤ h20.size := Nat.le_trans Z19 E20.1
  have K20 : Keep h0 h20 [] := K19.ext E20
  have F20_number : Fld Z h20 b20 "com/example/kembar/kembar/FingerprintIndex$Match" "number" "I" (.int (0 : Int32)) := D20 (Or.inr (w10 hw)) (ty := .int) (by decide)
  have F20_distance : Fld Z h20 b20 "com/example/kembar/kembar/FingerprintIndex$Match" "distance" "I" (.int (0 : Int32)) := D20 (Or.inr (w12 hw)) (ty := .int) (by decide)
  refine own_on st20 ?_
  show OwnGo p e below s _ _ _ (T20.setTop (mkF m 36 #[.val (.int n), .val (.int d), .val (.ref b1), .val (.ref b5), .val (.ref b11), .unset, .unset, .unset, .unset, .unset] [(.ref b20)]))
  refine own_on (fun t k => XS.dup X20.here hx rfl (hb hby at_36) rfl rfl k) ?_
  show OwnGo p e below s _ _ _ (T20.setTop (mkF m 37 #[.val (.int n), .val (.int d), .val (.ref b1), .val (.ref b5), .val (.ref b11), .unset, .unset, .unset, .unset, .unset] [(.ref b20), (.ref b20)]))
  refine own_on (fun t k => XS.iloadN X20.here hx rfl (hb hby at_37) rfl k) ?_
  show OwnGo p e below s _ _ _ (T20.setTop (mkF m 38 #[.val (.int n), .val (.int d), .val (.ref b1), .val (.ref b5), .val (.ref b11), .unset, .unset, .unset, .unset, .unset] [(.int n), (.ref b20), (.ref b20)]))
  refine own_on (fun t k => XS.iloadN X20.here hx rfl (hb hby at_38) rfl k) ?_
  show OwnGo p e below s _ _ _ (T20.setTop (mkF m 39 #[.val (.int n), .val (.int d), .val (.ref b1), .val (.ref b5), .val (.ref b11), .unset, .unset, .unset, .unset, .unset] [(.int d), (.int n), (.ref b20), (.ref b20)]))
  refine own_on (fun t k => XS.iconst X20.here hx rfl (hb hby at_39) k) ?_
  show OwnGo p e below s _ _ _ (T20.setTop (mkF m 40 #[.val (.int n), .val (.int d), .val (.ref b1), .val (.ref b5), .val (.ref b11), .unset, .unset, .unset, .unset, .unset] [(.int (1 : Int32)), (.int d), (.int n), (.ref b20), (.ref b20)]))
  refine own_on (fun t k => XS.iadd X20.here hx rfl (hb hby at_40) rfl k) ?_
  show OwnGo p e below s _ _ _ (T20.setTop (mkF m 41 #[.val (.int n), .val (.int d), .val (.ref b1), .val (.ref b5), .val (.ref b11), .unset, .unset, .unset, .unset, .unset] [(.int (d + (1 : Int32))), (.int n), (.ref b20), (.ref b20)]))
  obtain ⟨_, _, ⟨T31, L31, k31, n31⟩, -, X31, ⟨Lc31, hQ31, l31, y31, z31⟩, st31⟩ := X20.specialBack hx (y := (⟨"com/example/kembar/kembar/FingerprintIndex$Match", "<init>", "(II)V"⟩ : MethodName)) rfl hown (mvT hZ (w3 hw)) (mvT hZ (w4 hw)) (mvT hZ (w5 hw)) (by decide) (backOf (W := 1) (rm1 l Z a0 hw [] b20 n (d + (1 : Int32)) (.int (0 : Int32)) (.int (0 : Int32)) h20 n0 Z20 A20 F20_number F20_distance g29) hZ (w5 hw) (w2 hw) (by decide) (by decide)) (g := (mkF m 41 #[.val (.int n), .val (.int d), .val (.ref b1), .val (.ref b5), .val (.ref b11), .unset, .unset, .unset, .unset, .unset] [(.int (d + (1 : Int32))), (.int n), (.ref b20), (.ref b20)])) rfl (by rw [hml]; rfl) (Steps.refl _) (a := b20) (argsL := [(.int n), (.int (d + (1 : Int32)))]) (rest := [(.ref b20)]) (lenOf pd_0 rfl) rfl (by show 2 * 0 + _ ≤ _; exact Nat.le_of_eq rfl) (hb hby at_41) (fun _ _ => ⟨rfl, e20, (by decide : 4 + 0 ≤ _), (by decide : 8 + 0 ≤ _)⟩)
  dsimp only [Pt.U, Pt.locs, Pt.cells, Pt.slots] at X31 l31 y31 z31 st31 hQ31
  subst l31 y31 z31
  obtain ⟨rfl, N31q, K31q, c31_0, c31_1, c31_2⟩ := hQ31
  have N31 := Fr.app N19 N31q
  have Z31 : n0 ≤ T31.heap.size := Nat.le_trans Z20 K31q.1
  have K31 : Keep h0 T31.heap [] := K20.trans K31q (allS (P := fun x => x ∈ [] ∨ h0.size ≤ x) (Or.inr z30) all0)
  refine own_tr st31 ?_
  show OwnGo p e below s _ _ _ (T31.setTop (mkF m 44 #[.val (.int n), .val (.int d), .val (.ref b1), .val (.ref b5), .val (.ref b11), .unset, .unset, .unset, .unset, .unset] [(.ref b20)]))
  refine own_on (fun t k => XS.astore X31.here hx rfl (hb hby at_44) rfl rfl (l' := #[.val (.int n), .val (.int d), .val (.ref b1), .val (.ref b5), .val (.ref b11), .val (.ref b20), .unset, .unset, .unset, .unset]) rfl k) ?_
  show OwnGo p e below s _ _ _ (T31.setTop (mkF m 46 #[.val (.int n), .val (.int d), .val (.ref b1), .val (.ref b5), .val (.ref b11), .val (.ref b20), .unset, .unset, .unset, .unset] []))
  refine own_on (fun t k => XS.aloadN X31.here hx rfl (hb hby at_46) rfl rfl k) ?_
  show OwnGo p e below s _ _ _ (T31.setTop (mkF m 47 #[.val (.int n), .val (.int d), .val (.ref b1), .val (.ref b5), .val (.ref b11), .val (.ref b20), .unset, .unset, .unset, .unset] [(.ref b5)]))
  have f32 : Fld Z h11 b5 "com/example/kembar/kembar/FingerprintIndex$Match" "number" "I" (.int n) := c10_1.ext E11
  have f33 : Fld Z T19.heap b5 "com/example/kembar/kembar/FingerprintIndex$Match" "number" "I" (.int n) := f32.keep K19q (ninS ne16 nin0)
  have f34 : Fld Z h20 b5 "com/example/kembar/kembar/FingerprintIndex$Match" "number" "I" (.int n) := f33.ext E20
  have f35 : Fld Z T31.heap b5 "com/example/kembar/kembar/FingerprintIndex$Match" "number" "I" (.int n) := f34.keep K31q (ninS ne26 nin0)
  have f36 : Fld Z h11 b5 "com/example/kembar/kembar/FingerprintIndex$Match" "distance" "I" (.int d) := c10_2.ext E11
  have f37 : Fld Z T19.heap b5 "com/example/kembar/kembar/FingerprintIndex$Match" "distance" "I" (.int d) := f36.keep K19q (ninS ne16 nin0)
  have f38 : Fld Z h20 b5 "com/example/kembar/kembar/FingerprintIndex$Match" "distance" "I" (.int d) := f37.ext E20
  have f39 : Fld Z T31.heap b5 "com/example/kembar/kembar/FingerprintIndex$Match" "distance" "I" (.int d) := f38.keep K31q (ninS ne26 nin0)
  have f40 : Exa Z h11 b5 "com/example/kembar/kembar/FingerprintIndex$Match" := c10_0.ext E11
  have f41 : Exa Z T19.heap b5 "com/example/kembar/kembar/FingerprintIndex$Match" := f40.keep K19q
  have f42 : Exa Z h20 b5 "com/example/kembar/kembar/FingerprintIndex$Match" := f41.ext E20
  have f43 : Exa Z T31.heap b5 "com/example/kembar/kembar/FingerprintIndex$Match" := f42.keep K31q
  obtain ⟨cq44, kq44, q44a, q44b, q44c⟩ := isOf hZ rfl f43
  obtain ⟨_, _, ⟨T44, L44, k44, n44⟩, -, X44, ⟨Lc44, hQ44, l44, y44, z44⟩, st44⟩ := X31.virtualBack hx (y := (⟨"com/example/kembar/kembar/FingerprintIndex$Match", "hashCode", "()I"⟩ : MethodName)) (z := (⟨"com/example/kembar/kembar/FingerprintIndex$Match", "hashCode", "()I"⟩ : MethodName)) hown (mvT hZ (w13 hw)) (mvT hZ (w14 hw)) (notFace_of_selects (args := #[]) (mvT hZ (w16 hw))) (mvT hZ (w16 hw)) (mvT hZ (w15 hw)) (by decide) (backOf (W := 0) (rm3 l Z a0 hw [] b5 n d T31.heap n0 Z31 f35 f39 f43) hZ (w17 hw) (w2 hw) (by decide) (by decide)) q44a q44c (g := (mkF m 47 #[.val (.int n), .val (.int d), .val (.ref b1), .val (.ref b5), .val (.ref b11), .val (.ref b20), .unset, .unset, .unset, .unset] [(.ref b5)])) rfl (by rw [hml]; rfl) (Steps.refl _) (argsL := []) (rest := []) (lenOf pd_1 rfl) rfl (by show 2 * 0 + _ ≤ _; exact Nat.le_of_eq rfl) (hb hby at_47) (fun _ _ => ⟨rfl, rfl, (by decide : 4 + 0 ≤ _), (by decide : 8 + 0 ≤ _)⟩)
  dsimp only [Pt.U, Pt.locs, Pt.cells, Pt.slots] at X44 l44 y44 z44 st44 hQ44
  subst l44 y44 z44
  obtain ⟨rfl, N44q, e44⟩ := hQ44
  have N44 := Fr.app N31 N44q
  refine own_tr st44 ?_
  show OwnGo p e below s _ _ _ (T44.setTop (mkF m 50 #[.val (.int n), .val (.int d), .val (.ref b1), .val (.ref b5), .val (.ref b11), .val (.ref b20), .unset, .unset, .unset, .unset] [(.int (((31 : Int32) * n) + d))]))
  refine own_on (fun t k => XS.istore X44.here hx rfl (hb hby at_50) rfl (l' := #[.val (.int n), .val (.int d), .val (.ref b1), .val (.ref b5), .val (.ref b11), .val (.ref b20), .val (.int (((31 : Int32) * n) + d)), .unset, .unset, .unset]) rfl k) ?_
  show OwnGo p e below s _ _ _ (T44.setTop (mkF m 52 #[.val (.int n), .val (.int d), .val (.ref b1), .val (.ref b5), .val (.ref b11), .val (.ref b20), .val (.int (((31 : Int32) * n) + d)), .unset, .unset, .unset] []))
  refine own_on (fun t k => XS.aloadN X44.here hx rfl (hb hby at_52) rfl rfl k) ?_
  show OwnGo p e below s _ _ _ (T44.setTop (mkF m 53 #[.val (.int n), .val (.int d), .val (.ref b1), .val (.ref b5), .val (.ref b11), .val (.ref b20), .val (.int (((31 : Int32) * n) + d)), .unset, .unset, .unset] [(.ref b1)]))
  have f45 : Fld Z h5 b1 "com/example/kembar/kembar/FingerprintIndex$Match" "number" "I" (.int (0 : Int32)) := c4_1.ext E5
  have f46 : Fld Z T10.heap b1 "com/example/kembar/kembar/FingerprintIndex$Match" "number" "I" (.int (0 : Int32)) := f45.keep K10q (ninS ne7 nin0)
  have f47 : Fld Z h11 b1 "com/example/kembar/kembar/FingerprintIndex$Match" "number" "I" (.int (0 : Int32)) := f46.ext E11
  have f48 : Fld Z T19.heap b1 "com/example/kembar/kembar/FingerprintIndex$Match" "number" "I" (.int (0 : Int32)) := f47.keep K19q (ninS ne14 nin0)
  have f49 : Fld Z h20 b1 "com/example/kembar/kembar/FingerprintIndex$Match" "number" "I" (.int (0 : Int32)) := f48.ext E20
  have f50 : Fld Z T31.heap b1 "com/example/kembar/kembar/FingerprintIndex$Match" "number" "I" (.int (0 : Int32)) := f49.keep K31q (ninS ne23 nin0)
  have f51 : Fld Z h5 b1 "com/example/kembar/kembar/FingerprintIndex$Match" "distance" "I" (.int (0 : Int32)) := c4_2.ext E5
  have f52 : Fld Z T10.heap b1 "com/example/kembar/kembar/FingerprintIndex$Match" "distance" "I" (.int (0 : Int32)) := f51.keep K10q (ninS ne7 nin0)
  have f53 : Fld Z h11 b1 "com/example/kembar/kembar/FingerprintIndex$Match" "distance" "I" (.int (0 : Int32)) := f52.ext E11
  have f54 : Fld Z T19.heap b1 "com/example/kembar/kembar/FingerprintIndex$Match" "distance" "I" (.int (0 : Int32)) := f53.keep K19q (ninS ne14 nin0)
  have f55 : Fld Z h20 b1 "com/example/kembar/kembar/FingerprintIndex$Match" "distance" "I" (.int (0 : Int32)) := f54.ext E20
  have f56 : Fld Z T31.heap b1 "com/example/kembar/kembar/FingerprintIndex$Match" "distance" "I" (.int (0 : Int32)) := f55.keep K31q (ninS ne23 nin0)
  have f57 : Exa Z h5 b1 "com/example/kembar/kembar/FingerprintIndex$Match" := c4_0.ext E5
  have f58 : Exa Z T10.heap b1 "com/example/kembar/kembar/FingerprintIndex$Match" := f57.keep K10q
  have f59 : Exa Z h11 b1 "com/example/kembar/kembar/FingerprintIndex$Match" := f58.ext E11
  have f60 : Exa Z T19.heap b1 "com/example/kembar/kembar/FingerprintIndex$Match" := f59.keep K19q
  have f61 : Exa Z h20 b1 "com/example/kembar/kembar/FingerprintIndex$Match" := f60.ext E20
  have f62 : Exa Z T31.heap b1 "com/example/kembar/kembar/FingerprintIndex$Match" := f61.keep K31q
  obtain ⟨cq63, kq63, q63a, q63b, q63c⟩ := isOf hZ e44 f62
  obtain ⟨_, _, ⟨T63, L63, k63, n63⟩, -, X63, ⟨Lc63, hQ63, l63, y63, z63⟩, st63⟩ := X44.virtualBack hx (y := (⟨"com/example/kembar/kembar/FingerprintIndex$Match", "hashCode", "()I"⟩ : MethodName)) (z := (⟨"com/example/kembar/kembar/FingerprintIndex$Match", "hashCode", "()I"⟩ : MethodName)) hown (mvT hZ (w13 hw)) (mvT hZ (w14 hw)) (notFace_of_selects (args := #[]) (mvT hZ (w16 hw))) (mvT hZ (w16 hw)) (mvT hZ (w15 hw)) (by decide) (backOf (W := 0) (rm3 l Z a0 hw [] b1 (0 : Int32) (0 : Int32) T31.heap n0 Z31 f50 f56 f62) hZ (w17 hw) (w2 hw) (by decide) (by decide)) q63a q63c (g := (mkF m 53 #[.val (.int n), .val (.int d), .val (.ref b1), .val (.ref b5), .val (.ref b11), .val (.ref b20), .val (.int (((31 : Int32) * n) + d)), .unset, .unset, .unset] [(.ref b1)])) rfl (by rw [hml]; rfl) (Steps.refl _) (argsL := []) (rest := []) (lenOf pd_1 rfl) rfl (by show 2 * 0 + _ ≤ _; exact Nat.le_of_eq rfl) (hb hby at_53) (fun _ _ => ⟨rfl, e44, (by decide : 4 + 0 ≤ _), (by decide : 8 + 0 ≤ _)⟩)
  dsimp only [Pt.U, Pt.locs, Pt.cells, Pt.slots] at X63 l63 y63 z63 st63 hQ63
  subst l63 y63 z63
  obtain ⟨rfl, N63q, e63⟩ := hQ63
  have N63 := Fr.app N44 N63q
  refine own_tr st63 ?_
  show OwnGo p e below s _ _ _ (T63.setTop (mkF m 56 #[.val (.int n), .val (.int d), .val (.ref b1), .val (.ref b5), .val (.ref b11), .val (.ref b20), .val (.int (((31 : Int32) * n) + d)), .unset, .unset, .unset] [(.int (((31 : Int32) * (0 : Int32)) + (0 : Int32)))]))
  refine own_on (fun t k => XS.ifNo X63.here hx rfl (hb hby at_56) rfl ((if0 _ _).trans (teq (own_h0 : (((31 : Int32) * (0 : Int32)) + (0 : Int32)) = (0 : Int32))).2) k) ?_
  show OwnGo p e below s _ _ _ (T63.setTop (mkF m 59 #[.val (.int n), .val (.int d), .val (.ref b1), .val (.ref b5), .val (.ref b11), .val (.ref b20), .val (.int (((31 : Int32) * n) + d)), .unset, .unset, .unset] []))
  refine own_on (fun t k => XS.iconst X63.here hx rfl (hb hby at_59) k) ?_
  show OwnGo p e below s _ _ _ (T63.setTop (mkF m 60 #[.val (.int n), .val (.int d), .val (.ref b1), .val (.ref b5), .val (.ref b11), .val (.ref b20), .val (.int (((31 : Int32) * n) + d)), .unset, .unset, .unset] [(.int (1 : Int32))]))
  refine own_on (fun t k => XS.goto X63.here hx rfl (pc0 := 60) (pc' := 64) rfl (hb hby at_60) (by decide) (by decide) k) ?_
  show OwnGo p e below s _ _ _ (T63.setTop (mkF m 64 #[.val (.int n), .val (.int d), .val (.ref b1), .val (.ref b5), .val (.ref b11), .val (.ref b20), .val (.int (((31 : Int32) * n) + d)), .unset, .unset, .unset] [(.int (1 : Int32))]))
  refine own_on (fun t k => XS.istore X63.here hx rfl (hb hby at_64) rfl (l' := #[.val (.int n), .val (.int d), .val (.ref b1), .val (.ref b5), .val (.ref b11), .val (.ref b20), .val (.int (((31 : Int32) * n) + d)), .val (.int (1 : Int32)), .unset, .unset]) rfl k) ?_
  show OwnGo p e below s _ _ _ (T63.setTop (mkF m 66 #[.val (.int n), .val (.int d), .val (.ref b1), .val (.ref b5), .val (.ref b11), .val (.ref b20), .val (.int (((31 : Int32) * n) + d)), .val (.int (1 : Int32)), .unset, .unset] []))
  refine own_on (fun t k => XS.aload X63.here hx rfl (hb hby at_66) rfl rfl k) ?_
  show OwnGo p e below s _ _ _ (T63.setTop (mkF m 68 #[.val (.int n), .val (.int d), .val (.ref b1), .val (.ref b5), .val (.ref b11), .val (.ref b20), .val (.int (((31 : Int32) * n) + d)), .val (.int (1 : Int32)), .unset, .unset] [(.ref b11)]))
  have f64 : Fld Z h20 b11 "com/example/kembar/kembar/FingerprintIndex$Match" "number" "I" (.int (n + (1 : Int32))) := c19_1.ext E20
  have f65 : Fld Z T31.heap b11 "com/example/kembar/kembar/FingerprintIndex$Match" "number" "I" (.int (n + (1 : Int32))) := f64.keep K31q (ninS ne28 nin0)
  have f66 : Fld Z h20 b11 "com/example/kembar/kembar/FingerprintIndex$Match" "distance" "I" (.int d) := c19_2.ext E20
  have f67 : Fld Z T31.heap b11 "com/example/kembar/kembar/FingerprintIndex$Match" "distance" "I" (.int d) := f66.keep K31q (ninS ne28 nin0)
  have f68 : Exa Z h20 b11 "com/example/kembar/kembar/FingerprintIndex$Match" := c19_0.ext E20
  have f69 : Exa Z T31.heap b11 "com/example/kembar/kembar/FingerprintIndex$Match" := f68.keep K31q
  obtain ⟨cq70, kq70, q70a, q70b, q70c⟩ := isOf hZ e63 f69
  obtain ⟨_, _, ⟨T70, L70, k70, n70⟩, -, X70, ⟨Lc70, hQ70, l70, y70, z70⟩, st70⟩ := X63.virtualBack hx (y := (⟨"com/example/kembar/kembar/FingerprintIndex$Match", "hashCode", "()I"⟩ : MethodName)) (z := (⟨"com/example/kembar/kembar/FingerprintIndex$Match", "hashCode", "()I"⟩ : MethodName)) hown (mvT hZ (w13 hw)) (mvT hZ (w14 hw)) (notFace_of_selects (args := #[]) (mvT hZ (w16 hw))) (mvT hZ (w16 hw)) (mvT hZ (w15 hw)) (by decide) (backOf (W := 0) (rm3 l Z a0 hw [] b11 (n + (1 : Int32)) d T31.heap n0 Z31 f65 f67 f69) hZ (w17 hw) (w2 hw) (by decide) (by decide)) q70a q70c (g := (mkF m 68 #[.val (.int n), .val (.int d), .val (.ref b1), .val (.ref b5), .val (.ref b11), .val (.ref b20), .val (.int (((31 : Int32) * n) + d)), .val (.int (1 : Int32)), .unset, .unset] [(.ref b11)])) rfl (by rw [hml]; rfl) (Steps.refl _) (argsL := []) (rest := []) (lenOf pd_1 rfl) rfl (by show 2 * 0 + _ ≤ _; exact Nat.le_of_eq rfl) (hb hby at_68) (fun _ _ => ⟨rfl, e63, (by decide : 4 + 0 ≤ _), (by decide : 8 + 0 ≤ _)⟩)
  dsimp only [Pt.U, Pt.locs, Pt.cells, Pt.slots] at X70 l70 y70 z70 st70 hQ70
  subst l70 y70 z70
  obtain ⟨rfl, N70q, e70⟩ := hQ70
  have N70 := Fr.app N63 N70q
  refine own_tr st70 ?_
  show OwnGo p e below s _ _ _ (T70.setTop (mkF m 71 #[.val (.int n), .val (.int d), .val (.ref b1), .val (.ref b5), .val (.ref b11), .val (.ref b20), .val (.int (((31 : Int32) * n) + d)), .val (.int (1 : Int32)), .unset, .unset] [(.int (((31 : Int32) * (n + (1 : Int32))) + d))]))
  refine own_on (fun t k => XS.iload X70.here hx rfl (hb hby at_71) rfl k) ?_
  show OwnGo p e below s _ _ _ (T70.setTop (mkF m 73 #[.val (.int n), .val (.int d), .val (.ref b1), .val (.ref b5), .val (.ref b11), .val (.ref b20), .val (.int (((31 : Int32) * n) + d)), .val (.int (1 : Int32)), .unset, .unset] [(.int (((31 : Int32) * n) + d)), (.int (((31 : Int32) * (n + (1 : Int32))) + d))]))
  refine own_on (fun t k => XS.isub X70.here hx rfl (hb hby at_73) rfl k) ?_
  show OwnGo p e below s _ _ _ (T70.setTop (mkF m 74 #[.val (.int n), .val (.int d), .val (.ref b1), .val (.ref b5), .val (.ref b11), .val (.ref b20), .val (.int (((31 : Int32) * n) + d)), .val (.int (1 : Int32)), .unset, .unset] [(.int ((((31 : Int32) * (n + (1 : Int32))) + d) - (((31 : Int32) * n) + d)))]))
  refine own_on (fun t k => XS.bipush X70.here hx rfl (hb hby at_74) k) ?_
  show OwnGo p e below s _ _ _ (T70.setTop (mkF m 76 #[.val (.int n), .val (.int d), .val (.ref b1), .val (.ref b5), .val (.ref b11), .val (.ref b20), .val (.int (((31 : Int32) * n) + d)), .val (.int (1 : Int32)), .unset, .unset] [(.int (31 : Int32)), (.int ((((31 : Int32) * (n + (1 : Int32))) + d) - (((31 : Int32) * n) + d)))]))
  refine own_on (fun t k => XS.icmpNo X70.here hx rfl (hb hby at_76) rfl (teq (own_h1 _ _ : ((((31 : Int32) * (n + (1 : Int32))) + d) - (((31 : Int32) * n) + d)) = (31 : Int32))).2 k) ?_
  show OwnGo p e below s _ _ _ (T70.setTop (mkF m 79 #[.val (.int n), .val (.int d), .val (.ref b1), .val (.ref b5), .val (.ref b11), .val (.ref b20), .val (.int (((31 : Int32) * n) + d)), .val (.int (1 : Int32)), .unset, .unset] []))
  refine own_on (fun t k => XS.iconst X70.here hx rfl (hb hby at_79) k) ?_
  show OwnGo p e below s _ _ _ (T70.setTop (mkF m 80 #[.val (.int n), .val (.int d), .val (.ref b1), .val (.ref b5), .val (.ref b11), .val (.ref b20), .val (.int (((31 : Int32) * n) + d)), .val (.int (1 : Int32)), .unset, .unset] [(.int (1 : Int32))]))
  refine own_on (fun t k => XS.goto X70.here hx rfl (pc0 := 80) (pc' := 84) rfl (hb hby at_80) (by decide) (by decide) k) ?_
  show OwnGo p e below s _ _ _ (T70.setTop (mkF m 84 #[.val (.int n), .val (.int d), .val (.ref b1), .val (.ref b5), .val (.ref b11), .val (.ref b20), .val (.int (((31 : Int32) * n) + d)), .val (.int (1 : Int32)), .unset, .unset] [(.int (1 : Int32))]))
  refine own_on (fun t k => XS.istore X70.here hx rfl (hb hby at_84) rfl (l' := #[.val (.int n), .val (.int d), .val (.ref b1), .val (.ref b5), .val (.ref b11), .val (.ref b20), .val (.int (((31 : Int32) * n) + d)), .val (.int (1 : Int32)), .val (.int (1 : Int32)), .unset]) rfl k) ?_
  show OwnGo p e below s _ _ _ (T70.setTop (mkF m 86 #[.val (.int n), .val (.int d), .val (.ref b1), .val (.ref b5), .val (.ref b11), .val (.ref b20), .val (.int (((31 : Int32) * n) + d)), .val (.int (1 : Int32)), .val (.int (1 : Int32)), .unset] []))
  refine own_on (fun t k => XS.aload X70.here hx rfl (hb hby at_86) rfl rfl k) ?_
  show OwnGo p e below s _ _ _ (T70.setTop (mkF m 88 #[.val (.int n), .val (.int d), .val (.ref b1), .val (.ref b5), .val (.ref b11), .val (.ref b20), .val (.int (((31 : Int32) * n) + d)), .val (.int (1 : Int32)), .val (.int (1 : Int32)), .unset] [(.ref b20)]))
  obtain ⟨cq71, kq71, q71a, q71b, q71c⟩ := isOf hZ e70 c31_0
  obtain ⟨_, _, ⟨T71, L71, k71, n71⟩, -, X71, ⟨Lc71, hQ71, l71, y71, z71⟩, st71⟩ := X70.virtualBack hx (y := (⟨"com/example/kembar/kembar/FingerprintIndex$Match", "hashCode", "()I"⟩ : MethodName)) (z := (⟨"com/example/kembar/kembar/FingerprintIndex$Match", "hashCode", "()I"⟩ : MethodName)) hown (mvT hZ (w13 hw)) (mvT hZ (w14 hw)) (notFace_of_selects (args := #[]) (mvT hZ (w16 hw))) (mvT hZ (w16 hw)) (mvT hZ (w15 hw)) (by decide) (backOf (W := 0) (rm3 l Z a0 hw [] b20 n (d + (1 : Int32)) T31.heap n0 Z31 c31_1 c31_2 c31_0) hZ (w17 hw) (w2 hw) (by decide) (by decide)) q71a q71c (g := (mkF m 88 #[.val (.int n), .val (.int d), .val (.ref b1), .val (.ref b5), .val (.ref b11), .val (.ref b20), .val (.int (((31 : Int32) * n) + d)), .val (.int (1 : Int32)), .val (.int (1 : Int32)), .unset] [(.ref b20)])) rfl (by rw [hml]; rfl) (Steps.refl _) (argsL := []) (rest := []) (lenOf pd_1 rfl) rfl (by show 2 * 0 + _ ≤ _; exact Nat.le_of_eq rfl) (hb hby at_88) (fun _ _ => ⟨rfl, e70, (by decide : 4 + 0 ≤ _), (by decide : 8 + 0 ≤ _)⟩)
  dsimp only [Pt.U, Pt.locs, Pt.cells, Pt.slots] at X71 l71 y71 z71 st71 hQ71
  subst l71 y71 z71
  obtain ⟨rfl, N71q, e71⟩ := hQ71
  have N71 := Fr.app N70 N71q
  refine own_tr st71 ?_
  show OwnGo p e below s _ _ _ (T71.setTop (mkF m 91 #[.val (.int n), .val (.int d), .val (.ref b1), .val (.ref b5), .val (.ref b11), .val (.ref b20), .val (.int (((31 : Int32) * n) + d)), .val (.int (1 : Int32)), .val (.int (1 : Int32)), .unset] [(.int (((31 : Int32) * n) + (d + (1 : Int32))))]))
  refine own_on (fun t k => XS.iload X71.here hx rfl (hb hby at_91) rfl k) ?_
  show OwnGo p e below s _ _ _ (T71.setTop (mkF m 93 #[.val (.int n), .val (.int d), .val (.ref b1), .val (.ref b5), .val (.ref b11), .val (.ref b20), .val (.int (((31 : Int32) * n) + d)), .val (.int (1 : Int32)), .val (.int (1 : Int32)), .unset] [(.int (((31 : Int32) * n) + d)), (.int (((31 : Int32) * n) + (d + (1 : Int32))))]))
  refine own_on (fun t k => XS.isub X71.here hx rfl (hb hby at_93) rfl k) ?_
  show OwnGo p e below s _ _ _ (T71.setTop (mkF m 94 #[.val (.int n), .val (.int d), .val (.ref b1), .val (.ref b5), .val (.ref b11), .val (.ref b20), .val (.int (((31 : Int32) * n) + d)), .val (.int (1 : Int32)), .val (.int (1 : Int32)), .unset] [(.int ((((31 : Int32) * n) + (d + (1 : Int32))) - (((31 : Int32) * n) + d)))]))
  refine own_on (fun t k => XS.iconst X71.here hx rfl (hb hby at_94) k) ?_
  show OwnGo p e below s _ _ _ (T71.setTop (mkF m 95 #[.val (.int n), .val (.int d), .val (.ref b1), .val (.ref b5), .val (.ref b11), .val (.ref b20), .val (.int (((31 : Int32) * n) + d)), .val (.int (1 : Int32)), .val (.int (1 : Int32)), .unset] [(.int (1 : Int32)), (.int ((((31 : Int32) * n) + (d + (1 : Int32))) - (((31 : Int32) * n) + d)))]))
  refine own_on (fun t k => XS.icmpNo X71.here hx rfl (hb hby at_95) rfl (teq (own_h2 _ _ : ((((31 : Int32) * n) + (d + (1 : Int32))) - (((31 : Int32) * n) + d)) = (1 : Int32))).2 k) ?_
  show OwnGo p e below s _ _ _ (T71.setTop (mkF m 98 #[.val (.int n), .val (.int d), .val (.ref b1), .val (.ref b5), .val (.ref b11), .val (.ref b20), .val (.int (((31 : Int32) * n) + d)), .val (.int (1 : Int32)), .val (.int (1 : Int32)), .unset] []))
  refine own_on (fun t k => XS.iconst X71.here hx rfl (hb hby at_98) k) ?_
  show OwnGo p e below s _ _ _ (T71.setTop (mkF m 99 #[.val (.int n), .val (.int d), .val (.ref b1), .val (.ref b5), .val (.ref b11), .val (.ref b20), .val (.int (((31 : Int32) * n) + d)), .val (.int (1 : Int32)), .val (.int (1 : Int32)), .unset] [(.int (1 : Int32))]))
  refine own_on (fun t k => XS.goto X71.here hx rfl (pc0 := 99) (pc' := 103) rfl (hb hby at_99) (by decide) (by decide) k) ?_
  show OwnGo p e below s _ _ _ (T71.setTop (mkF m 103 #[.val (.int n), .val (.int d), .val (.ref b1), .val (.ref b5), .val (.ref b11), .val (.ref b20), .val (.int (((31 : Int32) * n) + d)), .val (.int (1 : Int32)), .val (.int (1 : Int32)), .unset] [(.int (1 : Int32))]))
  refine own_on (fun t k => XS.istore X71.here hx rfl (hb hby at_103) rfl (l' := #[.val (.int n), .val (.int d), .val (.ref b1), .val (.ref b5), .val (.ref b11), .val (.ref b20), .val (.int (((31 : Int32) * n) + d)), .val (.int (1 : Int32)), .val (.int (1 : Int32)), .val (.int (1 : Int32))]) rfl k) ?_
  show OwnGo p e below s _ _ _ (T71.setTop (mkF m 105 #[.val (.int n), .val (.int d), .val (.ref b1), .val (.ref b5), .val (.ref b11), .val (.ref b20), .val (.int (((31 : Int32) * n) + d)), .val (.int (1 : Int32)), .val (.int (1 : Int32)), .val (.int (1 : Int32))] []))
  refine own_on (fun t k => XS.iload X71.here hx rfl (hb hby at_105) rfl k) ?_
  show OwnGo p e below s _ _ _ (T71.setTop (mkF m 107 #[.val (.int n), .val (.int d), .val (.ref b1), .val (.ref b5), .val (.ref b11), .val (.ref b20), .val (.int (((31 : Int32) * n) + d)), .val (.int (1 : Int32)), .val (.int (1 : Int32)), .val (.int (1 : Int32))] [(.int (1 : Int32))]))
  refine own_on (fun t k => XS.ifNo X71.here hx rfl (hb hby at_107) rfl ((if0 _ _).trans (feq (by decide : ¬ ((1 : Int32) = (0 : Int32)))).1) k) ?_
  show OwnGo p e below s _ _ _ (T71.setTop (mkF m 110 #[.val (.int n), .val (.int d), .val (.ref b1), .val (.ref b5), .val (.ref b11), .val (.ref b20), .val (.int (((31 : Int32) * n) + d)), .val (.int (1 : Int32)), .val (.int (1 : Int32)), .val (.int (1 : Int32))] []))
  refine own_on (fun t k => XS.iload X71.here hx rfl (hb hby at_110) rfl k) ?_
  show OwnGo p e below s _ _ _ (T71.setTop (mkF m 112 #[.val (.int n), .val (.int d), .val (.ref b1), .val (.ref b5), .val (.ref b11), .val (.ref b20), .val (.int (((31 : Int32) * n) + d)), .val (.int (1 : Int32)), .val (.int (1 : Int32)), .val (.int (1 : Int32))] [(.int (1 : Int32))]))
  refine own_on (fun t k => XS.ifNo X71.here hx rfl (hb hby at_112) rfl ((if0 _ _).trans (feq (by decide : ¬ ((1 : Int32) = (0 : Int32)))).1) k) ?_
  show OwnGo p e below s _ _ _ (T71.setTop (mkF m 115 #[.val (.int n), .val (.int d), .val (.ref b1), .val (.ref b5), .val (.ref b11), .val (.ref b20), .val (.int (((31 : Int32) * n) + d)), .val (.int (1 : Int32)), .val (.int (1 : Int32)), .val (.int (1 : Int32))] []))
  refine own_on (fun t k => XS.iload X71.here hx rfl (hb hby at_115) rfl k) ?_
  show OwnGo p e below s _ _ _ (T71.setTop (mkF m 117 #[.val (.int n), .val (.int d), .val (.ref b1), .val (.ref b5), .val (.ref b11), .val (.ref b20), .val (.int (((31 : Int32) * n) + d)), .val (.int (1 : Int32)), .val (.int (1 : Int32)), .val (.int (1 : Int32))] [(.int (1 : Int32))]))
  refine own_on (fun t k => XS.ifNo X71.here hx rfl (hb hby at_117) rfl ((if0 _ _).trans (feq (by decide : ¬ ((1 : Int32) = (0 : Int32)))).1) k) ?_
  show OwnGo p e below s _ _ _ (T71.setTop (mkF m 120 #[.val (.int n), .val (.int d), .val (.ref b1), .val (.ref b5), .val (.ref b11), .val (.ref b20), .val (.int (((31 : Int32) * n) + d)), .val (.int (1 : Int32)), .val (.int (1 : Int32)), .val (.int (1 : Int32))] []))
  refine own_on (fun t k => XS.iconst X71.here hx rfl (hb hby at_120) k) ?_
  show OwnGo p e below s _ _ _ (T71.setTop (mkF m 121 #[.val (.int n), .val (.int d), .val (.ref b1), .val (.ref b5), .val (.ref b11), .val (.ref b20), .val (.int (((31 : Int32) * n) + d)), .val (.int (1 : Int32)), .val (.int (1 : Int32)), .val (.int (1 : Int32))] [(.int (1 : Int32))]))
  refine own_on (fun t k => XS.goto X71.here hx rfl (pc0 := 121) (pc' := 125) rfl (hb hby at_121) (by decide) (by decide) k) ?_
  show OwnGo p e below s _ _ _ (T71.setTop (mkF m 125 #[.val (.int n), .val (.int d), .val (.ref b1), .val (.ref b5), .val (.ref b11), .val (.ref b20), .val (.int (((31 : Int32) * n) + d)), .val (.int (1 : Int32)), .val (.int (1 : Int32)), .val (.int (1 : Int32))] [(.int (1 : Int32))]))
  exact own_retN X71 hx hlk (t := .boolean) Bd.returns (by simp) (hb hby at_125) e71 ⟨rfl, N71, K31⟩ (by decide) (by decide)
set_option maxRecDepth 65536 in
set_option maxHeartbeats 40000000 in
theorem comes_1 {Post : Tables → Env → Array Value → State → Outcome → State → Prop} (hpost : ∀ tb e args s v u, (limb_1_1.after args s (.returned v) u = true ∧ limb_1_2.after args s (.returned v) u = true ∧ True) → FrameEnd s (.returned v) u (Jvm.fieldLocs frame_1_writes args s ++ Jvm.arrayLocs frame_1_arrays args s ++ Jvm.staticLocs frame_1_statics s) 16 128 → Post tb e args s (.returned v) u) :
    ArmFor flags0 classFile x code maxLocals ret World_1 tables_1 room_1 Calls_1 rest_1 Pre_1 Post := by
  intro l hfl _ _ p e ha hc hk s m args below hf hA hF happ hP
  obtain ⟨hcalls, hrest, hpre⟩ := hP
  obtain ⟨-, -, -, hnamed, -, -, -, hat⟩ := (Spec.applies_iff hf).mp happ
  obtain ⟨hg, hn⟩ := and_e (Cond.before_iff.mp (show (Jvm.Cond.and given_1 narrow_1).before args s = true from hpre))
  obtain ⟨gc, gr0⟩ := and_e hg
  obtain ⟨gi0, gr1⟩ := and_e gr0
  have gi1 := gr1
  obtain ⟨w_0, w_1, rfl⟩ : ∃ w_0 w_1 : Value, args = #[w_0, w_1] := by
    have hs : args.size = 2 := by simpa [Cond.value, given_1] using gc
    obtain ⟨L⟩ := args
    match L, hs with
    | [w_0, w_1], _ => exact ⟨w_0, w_1, rfl⟩
  have hw := fun d (hd : d ∈ tables_1) => atoms_spec (ws := Jvm.Cond.code x code maxLocals ret :: tables_1) hat d (List.mem_cons_of_mem _ hd)
  have hfit : Fit s := fun {y c} hc i hi => by
    obtain ⟨ha, rfl⟩ := Array.getElem?_eq_some_iff.mp hc
    have q := List.all_eq_true.mp ((Array.all_eq_true_iff_forall_mem.mp hF) _ (Array.getElem_mem ha)) i (List.mem_range.mpr hi)
    simpa [Array.getElem?_eq_getElem hi] using q
  obtain ⟨i0, ei0⟩ := is_v gi0
  obtain rfl : w_0 = (.int i0) := Option.some.inj ei0
  obtain ⟨i1, ei1⟩ := is_v gi1
  obtain rfl : w_1 = (.int i1) := Option.some.inj ei1
  obtain ⟨n, o, h1, h2, h3, _, L, rfl, ⟨rfl, N, _⟩, hq⟩ := rm0 l s _ hw tables_1 i0 i1  s.heap s.heap.size (Nat.le_refl _)  p e ha hc hk s m _ below hf ((Spec.applies_iff_loose hf).mp happ).1 ⟨rfl, State.Warmed39.refl s, rfl⟩ trivial
  refine ⟨n, _, h1, h2, h3, hpost _ _ _ _ _ _ ⟨Cond.after_iff.mpr rfl, Cond.after_iff.mpr (eq_i res_at (Term.int_eval (1)) rfl), trivial⟩ ⟨hq.1, hq.2.1, (hq.2.2.sift fun y hy => Or.inr (N y hy)).mono (by decide) (by decide)⟩⟩
theorem main_1_1 : Claimed_1_1 := comes_1 fun _ _ _ _ _ _ h hF => ⟨h.1, hF⟩
theorem main_1_2 : Claimed_1_2 := comes_1 fun _ _ _ _ _ _ h hF => ⟨h.2.1, hF⟩
end Jvm.Pilot.@@N@@
namespace Jvm.Pilot.@@N@@
open Jvm Jvm.ClassFile Sem Op Lib Jvm.Free Jvm.Stand Jvm.Pilot.@@N@@.Jvm.D
/-! MADE BY PROGRAM (witnessworld.py) out of the Statement's table words and the real class files: 9 classes; the members and pool entries that the words name. The judged class is class 1, her method 1. -/
namespace start1
open Jvm.ClassFile
def u (s : String) : CpInfo := .utf8 (stringToUtf16 s)
/-- a pool by its gaps: so many unusable entries, then the entry; so many at the end -/
def gap : Nat → List CpInfo → List CpInfo
  | 0, r => r
  | n + 1, r => .unusable :: gap n r
def poolList (es : List (Nat × CpInfo)) (last : Nat) : List CpInfo := es.foldr (fun e r => gap e.1 (e.2 :: r)) (gap last [])
def pool (es : List (Nat × CpInfo)) (last : Nat) : Array CpInfo := ⟨poolList es last⟩
def fileOf (pool : Array CpInfo) (this : Nat) (attrs : Array Attribute := #[]) (ms : Array MethodInfo := #[]) (fl : Nat := 33) (sup : Nat := 0) (ifs : Array Nat := #[]) (fds : Array FieldInfo := #[]) : ClassFile where
  minorVersion := 0
  majorVersion := 65
  constantPool := pool
  accessFlags := fl
  thisClass := this
  superClass := sup
  interfaces := ifs
  fields := fds
  methods := ms
  attributes := attrs
def plain (name : String) (sup : Option ClassId) : Class where
  name := name
  kind := .ordinary
  loader := none
  accessFlags := 33
  super := sup
  interfaces := #[]
  cf := none
  fields := #[]
  methods := #[]
  instanceTypes := #[]
  staticTypes := #[]
  resolved := #[]
  callSites := []
  init := .initialized
  statics := none
  mirror := none

def pool0 : Array CpInfo := pool [(5, u "<init>"), (0, u "()V"), (1, .class_ 10), (1, u "java/lang/Object")] 113

def k0c0 : Code := { maxStack := 0, maxLocals := 1, code := object_method_1_code, exceptionTable := #[], attributes := #[] }
def k0m0 : Method := { name := "<init>", desc := "()V", sig := { parameters := [], returnType := none }, accessFlags := 1, code := some k0c0 }
/-- java/lang/Object -/
def k0 : Class := { plain "java/lang/Object" none with
  accessFlags := 33
  interfaces := #[]
  cf := some (fileOf pool0 8 #[] #[{ accessFlags := 1, nameIndex := 5, descriptorIndex := 6, attributes := #[] }] 33 0 #[] #[])
  fields := #[]
  methods := #[k0m0]
  instanceTypes := #[]
  staticTypes := #[]
  resolved := Array.replicate 124 none
  statics := none }

def pool1 : Array CpInfo := pool [(2, .class_ 4), (1, u "java/lang/Object"), (0, u "<init>"), (0, u "()V"), (0, .class_ 8), (0, u "com/example/kembar/kembar/FingerprintIndex$Match"), (0, .methodref 7 10), (0, .nameAndType 5 11), (0, u "(II)V"), (0, .methodref 7 13), (0, .nameAndType 14 15), (0, u "hashCode"), (0, u "()I"), (0, .class_ 17), (0, u "com/example/kembar/kembar/MatchHashCodePinLaw"), (2, u "law"), (0, u "(II)Z")] 7

def k1m0 : Method := { name := "<init>", desc := "()V", sig := { parameters := [], returnType := none }, accessFlags := 1, code := none }
def k1c1 : Code := { maxStack := 5, maxLocals := 10, code := code, exceptionTable := #[], attributes := #[] }
def k1m1 : Method := { name := "law", desc := "(II)Z", sig := { parameters := [.int, .int], returnType := some .boolean }, accessFlags := 9, code := some k1c1 }
/-- com/example/kembar/kembar/MatchHashCodePinLaw -/
def k1 : Class := { plain "com/example/kembar/kembar/MatchHashCodePinLaw" (some 0) with
  accessFlags := 49
  interfaces := #[]
  cf := some (fileOf pool1 16 #[] #[{ accessFlags := 1, nameIndex := 5, descriptorIndex := 6, attributes := #[] }, { accessFlags := 9, nameIndex := 20, descriptorIndex := 21, attributes := #[] }] 49 2 #[] #[])
  fields := #[]
  methods := #[k1m0, k1m1]
  instanceTypes := #[]
  staticTypes := #[]
  resolved := Array.replicate 29 none
  statics := none }

def pool2 : Array CpInfo := pool [(1, .methodref 2 3), (0, .class_ 4), (0, .nameAndType 5 6), (0, u "java/lang/Object"), (0, u "<init>"), (0, u "()V"), (0, .fieldref 8 9), (0, .class_ 10), (0, .nameAndType 11 12), (0, u "com/example/kembar/kembar/FingerprintIndex$Match"), (0, u "number"), (0, u "I"), (0, .fieldref 8 14), (0, .nameAndType 15 12), (0, u "distance"), (4, u "(II)V"), (2, u "()I"), (3, u "hashCode"), (5, .class_ 34), (0, u "com/example/kembar/kembar/FingerprintIndex")] 16

def k2c0 : Code := { maxStack := 2, maxLocals := 3, code := prog_7_method_1_code, exceptionTable := #[], attributes := #[] }
def k2m0 : Method := { name := "<init>", desc := "(II)V", sig := { parameters := [.int, .int], returnType := none }, accessFlags := 0, code := some k2c0 }
def k2c1 : Code := { maxStack := 2, maxLocals := 1, code := prog_7_method_5_code, exceptionTable := #[], attributes := #[] }
def k2m1 : Method := { name := "hashCode", desc := "()I", sig := { parameters := [], returnType := some .int }, accessFlags := 1, code := some k2c1 }
/-- com/example/kembar/kembar/FingerprintIndex$Match -/
def k2 : Class := { plain "com/example/kembar/kembar/FingerprintIndex$Match" (some 0) with
  accessFlags := 49
  interfaces := #[]
  cf := some (fileOf pool2 8 #[.nestHost 33] #[{ accessFlags := 0, nameIndex := 5, descriptorIndex := 20, attributes := #[] }, { accessFlags := 1, nameIndex := 27, descriptorIndex := 23, attributes := #[] }] 49 2 #[] #[{ accessFlags := 18, nameIndex := 11, descriptorIndex := 12, attributes := #[] }, { accessFlags := 18, nameIndex := 15, descriptorIndex := 12, attributes := #[] }])
  fields := #[{ name := "number", type := .int, accessFlags := 18, slot := 0, constantValue := 0 }, { name := "distance", type := .int, accessFlags := 18, slot := 1, constantValue := 0 }]
  methods := #[k2m0, k2m1]
  instanceTypes := #[.int, .int]
  staticTypes := #[]
  resolved := Array.replicate 51 none
  statics := none }

def pool3 : Array CpInfo := pool [(1, u "java/lang/Cloneable"), (0, .class_ 1), (0, u "java/lang/Object"), (0, .class_ 3)] 3

/-- java/lang/Cloneable -/
def k3 : Class := { plain "java/lang/Cloneable" (some 0) with
  accessFlags := 1537
  interfaces := #[]
  cf := some (fileOf pool3 2 #[] #[] 1537 4 #[] #[])
  fields := #[]
  methods := #[]
  instanceTypes := #[]
  staticTypes := #[]
  resolved := Array.replicate 8 none
  statics := none }

def pool4 : Array CpInfo := pool [(1, u "java/io/Serializable"), (0, .class_ 1), (0, u "java/lang/Object"), (0, .class_ 3)] 3

/-- java/io/Serializable -/
def k4 : Class := { plain "java/io/Serializable" (some 0) with
  accessFlags := 1537
  interfaces := #[]
  cf := some (fileOf pool4 2 #[] #[] 1537 4 #[] #[])
  fields := #[]
  methods := #[]
  instanceTypes := #[]
  staticTypes := #[]
  resolved := Array.replicate 8 none
  statics := none }

/-- the primitive byte -/
def k5 : Class := { plain "byte" none with kind := .primitive 'B', accessFlags := 0x411 }
/-- [B -/
def k6 : Class := { plain "[B" (some 0) with kind := .array 5 .byte, interfaces := #[3, 4], accessFlags := 1041 }

/-- the primitive int -/
def k7 : Class := { plain "int" none with kind := .primitive 'I', accessFlags := 0x411 }
/-- [I -/
def k8 : Class := { plain "[I" (some 0) with kind := .array 7 .int, interfaces := #[3, 4], accessFlags := 1041 }

def heap : Heap := #[]
def classes : Array Class := #[k0, k1, k2, k3, k4, k5, k6, k7, k8]
def interned : List (Array UInt16 × Addr) := []
def slotsUsed : Nat := 0
def theMethod : MethodId := ⟨1, 1⟩
def args0 : Array Value := #[.int 5, .int 7]
def aboutOver (below : List Frame) : State where
  vm := { classes := classes, interned := interned.toArray }
  heap := heap
  slotsUsed := slotsUsed
  threads := #[{ frames := .invoking theMethod args0 :: below }]
def below0 : List Frame := [.native { method := ⟨0, 0⟩, args := #[] }]
def about1 : State := aboutOver below0
def p0 : Program := .bare "" "" ""
def e0 : Env := launch0.env 0 0 0
theorem w_frames : about1.frames = Frame.invoking theMethod args0 :: below0 := rfl
set_option maxRecDepth 65536 in
theorem w_args : argsFit about1.vm theMethod args0 = true := by decide +kernel
set_option maxRecDepth 65536 in
theorem w_heap : heapFits about1 = true := by decide +kernel
set_option maxRecDepth 65536 in
theorem w_runnable : about1.curStatus? = some .runnable := by decide +kernel
set_option maxRecDepth 65536 in
theorem w_alone : about1.alone = true := by decide +kernel
set_option maxRecDepth 65536 in
theorem w_named : about1.methodNamed? x = some theMethod := by decide +kernel
set_option maxRecDepth 65536 in
theorem w_hears : about1.hears theMethod below0 = true := by decide +kernel
set_option maxRecDepth 65536 in
theorem w_ripe : about1.ripe theMethod args0 below0 = true := by decide +kernel
theorem w_running : about1.status = .running := rfl
set_option maxRecDepth 65536 in
theorem w_room : about1.hasRoom e0.platform room_1 = true :=
  launch0.hasRoom_least _ room_1 (by decide +kernel) (by decide +kernel) (by decide +kernel) (by decide +kernel) (by decide +kernel) (by decide +kernel)
theorem allAtoms_all (ts : List Jvm.Cond) (a : Array Jvm.Value) (st : Jvm.State) : (allAtoms ts).before a st = ts.all (fun c => c.before a st) := by
  induction ts with
  | nil => rfl
  | cons c t ih =>
    show (Jvm.Cond.and c (allAtoms t)).before a st = _
    rw [Jvm.Cond.before_and, ih, List.all_cons]
def words1 : List Jvm.Cond := Jvm.Cond.code x code maxLocals ret :: tables_1
/-- a 'code' word, met by the world's own term for the bytes: nothing is compared byte by byte -/
theorem code_word {y : MethodName} {bytes : ByteArray} {mx : Nat} {rt : Option FieldType} {a : Array Value} {s : State} {m : MethodId} {meth : Method} {c : Code} (h1 : s.methodNamed? y = some m) (h2 : s.vm.method? m = some meth) (h3 : meth.code = some c) (h4 : c.code = bytes)
    (h5 : (c.maxLocals == mx && c.exceptionTable.isEmpty && decide (c.maxStack ≤ mostOperands) && decide (meth.sig.returnType = rt) && !meth.locks && decide (parseMethodDescriptor y.desc = some meth.sig)) = true) : (Jvm.Cond.code y bytes mx rt).before a s = true := by
  simp only [Bool.and_eq_true, beq_iff_eq, Bool.not_eq_true', decide_eq_true_eq] at h5
  obtain ⟨⟨⟨⟨⟨g1, g2⟩, g3⟩, g4⟩, g5⟩, g6⟩ := h5
  simp [Cond.before, Cond.holds, Cond.value, h1, h2, h3, h4, g1, g2, g3, g4, g5, g6]
def isCode : Jvm.Cond → Bool
  | .code _ _ _ _ => true
  | _ => false
theorem all_split {L : List Jvm.Cond} {P : Jvm.Cond → Bool} (h1 : L.all (fun c => isCode c || P c) = true) (h2 : ∀ c ∈ L.filter isCode, P c = true) : L.all P = true := by
  refine List.all_eq_true.mpr fun c hc => ?_
  have h := List.all_eq_true.mp h1 c hc
  rcases Bool.eq_false_or_eq_true (isCode c) with hi | hi
  · exact h2 c (List.mem_filter.mpr ⟨hc, hi⟩)
  · simpa [hi] using h
set_option maxRecDepth 65536 in
theorem w_c0 : (Jvm.Cond.code x code maxLocals ret).before args0 about1 = true := code_word (m := ⟨1, 1⟩) (meth := k1m1) (c := k1c1) (by decide +kernel) rfl rfl rfl (by decide +kernel)
set_option maxRecDepth 65536 in
theorem w_c1 : (Jvm.Cond.code ({ cls := "com/example/kembar/kembar/FingerprintIndex$Match", name := "<init>", desc := "(II)V" } : Jvm.MethodName) prog_7_method_1_code (3 : Nat) (Option.none : Option Jvm.ClassFile.FieldType)).before args0 about1 = true := code_word (m := ⟨2, 0⟩) (meth := k2m0) (c := k2c0) (by decide +kernel) rfl rfl rfl (by decide +kernel)
set_option maxRecDepth 65536 in
theorem w_c2 : (Jvm.Cond.code ({ cls := "java/lang/Object", name := "<init>", desc := "()V" } : Jvm.MethodName) object_method_1_code (1 : Nat) (Option.none : Option Jvm.ClassFile.FieldType)).before args0 about1 = true := code_word (m := ⟨0, 0⟩) (meth := k0m0) (c := k0c0) (by decide +kernel) rfl rfl rfl (by decide +kernel)
set_option maxRecDepth 65536 in
theorem w_c3 : (Jvm.Cond.code ({ cls := "com/example/kembar/kembar/FingerprintIndex$Match", name := "hashCode", desc := "()I" } : Jvm.MethodName) prog_7_method_5_code (1 : Nat) (Option.some Jvm.ClassFile.FieldType.int)).before args0 about1 = true := code_word (m := ⟨2, 1⟩) (meth := k2m1) (c := k2c1) (by decide +kernel) rfl rfl rfl (by decide +kernel)
def codes1 : List Jvm.Cond := [Jvm.Cond.code x code maxLocals ret, Jvm.Cond.code ({ cls := "com/example/kembar/kembar/FingerprintIndex$Match", name := "<init>", desc := "(II)V" } : Jvm.MethodName) prog_7_method_1_code (3 : Nat) (Option.none : Option Jvm.ClassFile.FieldType), Jvm.Cond.code ({ cls := "java/lang/Object", name := "<init>", desc := "()V" } : Jvm.MethodName) object_method_1_code (1 : Nat) (Option.none : Option Jvm.ClassFile.FieldType), Jvm.Cond.code ({ cls := "com/example/kembar/kembar/FingerprintIndex$Match", name := "hashCode", desc := "()I" } : Jvm.MethodName) prog_7_method_5_code (1 : Nat) (Option.some Jvm.ClassFile.FieldType.int)]
set_option maxRecDepth 65536 in
theorem codes_eq : words1.filter isCode = codes1 := rfl
theorem w_codes : ∀ c ∈ words1.filter isCode, c.before args0 about1 = true := by
  rw [codes_eq]
  intro c hc
  simp only [codes1, List.mem_cons, List.not_mem_nil, or_false] at hc
  rcases hc with rfl | rfl | rfl | rfl
  · exact w_c0
  · exact w_c1
  · exact w_c2
  · exact w_c3
set_option maxRecDepth 65536 in
theorem w_t1 : words1.all (fun c => isCode c || c.before args0 about1) = true := by decide +kernel
theorem w_tables : (allAtoms (Jvm.Cond.code x code maxLocals ret :: tables_1)).before args0 about1 = true := by
  rw [allAtoms_all]
  show words1.all (fun c => c.before args0 about1) = true
  refine all_split ?_ w_codes
  rw [w_t1]
set_option maxRecDepth 65536 in
theorem w_case : (Jvm.Cond.and given_1 narrow_1).before args0 about1 = true := by decide +kernel
theorem w_applies : (headSpec (Jvm.Cond.code x code maxLocals ret :: tables_1) room_1).applies x e0.platform about1 = true :=
  (Spec.applies_iff w_frames).mpr ⟨w_running, w_runnable, w_alone, w_named, w_hears, w_ripe, w_room, w_tables⟩
theorem atStart : AtStart classFile x code maxLocals ret World_1 tables_1 room_1 Calls_1 rest_1 Pre_1 launch0 p0 e0 about1 theMethod args0 below0 :=
  ⟨lists_1, trivial, launch0.admits_env _ _ _, launch0.least_env, fairChoices_fair.cas, fairChoices_fair.clock, w_frames, w_args, w_heap, w_applies, trivial, trivial, w_case⟩
end start1
theorem witness_1 : WitnessClaimed_1 := ⟨start1.p0, start1.e0, start1.about1, start1.theMethod, start1.args0, start1.below0, start1.atStart⟩
end Jvm.Pilot.@@N@@
