import JvmDerived
import JvmDerived.Pilot.@@N@@Statement
import JvmDerived.Pilot.@@N@@Code
set_option linter.unusedVariables false
set_option linter.unusedSimpArgs false
namespace Jvm.RoadKit
open Sem ClassFile Op Lib Jvm.Stand Jvm.Free Jvm.LawKit
section New
variable {p : Program} {l : Launch} {e : Env} {R : Room} {s : State} {m : MethodId} {args : Array Value} {below : List Frame} {meth : Method} {c : Code} {T : State} {locs : List Loc} {cells slots : Nat}
theorem retI (X : Stand p l e R s m args below meth c T locs cells slots) (hx : p.tables.exec = Jvm.exec) {pc : Nat} {Ls : Array Slot} {z : Int32} {rest : List Value} (hret : meth.sig.returnType = some .int) (hd : decode c.code pc = .ok (.ireturn, 1)) {fs : List Frame}
    (hl : ∀ (f : JFrame) (acts : List Action), f.method = m → f.locked = none → f.entered = [] → (doReturn e (T.setTop f) acts (some (.int z))).1 = T.setFrames fs) : Steps p.tables e below (T.setTop (mkF m pc Ls (.int z :: rest))) (T.setFrames fs) := by
  have hm' : T.vm.method? m = some meth := X.method'
  have hn : narrow .int (.int z) = .int z := rfl
  show Steps p.tables e below (T.setTop { method := m, pc := pc, locals := Ls, stack := _ :: rest, locked := none }) _
  jvm_step X.here [X.here.top, hx, hd, hm', hret, hn]
  first | (intro acts; rw [hl _ acts rfl rfl rfl]) | rw [hl _ _ rfl rfl rfl]
  exact Steps.refl _
end New
end Jvm.RoadKit
namespace Jvm.Pilot.@@N@@
open Jvm Jvm.ClassFile Sem Op Lib Jvm.Free Jvm.Stand Jvm.LawKit Jvm.RoadKit Bundle Jvm.Pilot.@@N@@.Jvm.D
/-! the rest of a walk, from a state on: it returns, and what it leaves -/
def OwnGo (p : Program) (e : Env) (below : List Frame) (s : State) (Q : Option Value → Heap → List Loc → Prop) (K N : Nat) (U : State) : Prop :=
  ∃ t o, Steps p.tables e below U t ∧ t.status = .running ∧ Ended t below o ∧ ∃ v L, o = .returned v ∧ Q v t.heap L ∧ FrameEnd s o t L K N
section OwnKit
variable {p : Program} {l : Launch} {e : Env} {R : Room} {s : State} {m : MethodId} {args : Array Value} {below : List Frame} {meth : Method} {c : Code} {T : State} {locs : List Loc} {cells slots : Nat} {Q : Option Value → Heap → List Loc → Prop} {K N : Nat} {U U' : State} {h : Heap}
theorem own_on (st : ∀ t, Steps p.tables e below U' t → Steps p.tables e below U t) (k : OwnGo p e below s Q K N U') : OwnGo p e below s Q K N U := by
  obtain ⟨t, o, h1, r⟩ := k; exact ⟨t, o, st t h1, r⟩
theorem own_tr (st : Steps p.tables e below U U') (k : OwnGo p e below s Q K N U') : OwnGo p e below s Q K N U := own_on (fun _ q => st.trans q) k
theorem own_cast {g g' : JFrame} (q : g = g') (k : OwnGo p e below s Q K N (T.setTop g')) : OwnGo p e below s Q K N (T.setTop g) := q ▸ k
theorem own_end (X : Stand p l e R s m args below meth c T locs cells slots) (hlk : meth.locks = false) {v : Option Value} (hv : meth.sig.returnType = none → v = none) (eT : T.heap = h) (q : Q v h locs) (hk : cells ≤ K) (hn : slots ≤ N)
    (st : ∀ fs, (∀ (f : JFrame) (acts : List Action), f.method = m → f.locked = none → f.entered = [] → (doReturn e (T.setTop f) acts v).1 = T.setFrames fs) → Steps p.tables e below U (T.setFrames fs)) : OwnGo p e below s Q K N U := by
  obtain ⟨fs, hr, hrun, hended, hW, hsame⟩ := X.leave (v := v) hv hlk
  refine ⟨_, _, st fs hr, hrun, hended, v, locs, rfl, ?_, ⟨_, rfl⟩, hW, hsame.mono hk hn⟩
  have : (T.setFrames fs).heap = h := eT
  rw [this]; exact q
theorem own_retN (X : Stand p l e R s m args below meth c T locs cells slots) (hx : p.tables.exec = Jvm.exec) (hlk : meth.locks = false) {pc : Nat} {Ls : Array Slot} {z : Int32} {t : FieldType} {rest : List Value} (hret : meth.sig.returnType = some t) (ht : t = .boolean ∨ t = .byte ∨ t = .char ∨ t = .short)
    (hd : decode c.code pc = .ok (.ireturn, 1)) (eT : T.heap = h) (q : Q (some (.int (nar t z))) h locs) (hk : cells ≤ K) (hn : slots ≤ N) : OwnGo p e below s Q K N (T.setTop (mkF m pc Ls (.int z :: rest))) :=
  own_end X hlk (fun h => by rw [hret] at h; cases h) eT q hk hn fun fs hr => retN X hx hret ht hd hr
theorem own_retI (X : Stand p l e R s m args below meth c T locs cells slots) (hx : p.tables.exec = Jvm.exec) (hlk : meth.locks = false) {pc : Nat} {Ls : Array Slot} {z : Int32} {rest : List Value} (hret : meth.sig.returnType = some .int)
    (hd : decode c.code pc = .ok (.ireturn, 1)) (eT : T.heap = h) (q : Q (some (.int z)) h locs) (hk : cells ≤ K) (hn : slots ≤ N) : OwnGo p e below s Q K N (T.setTop (mkF m pc Ls (.int z :: rest))) :=
  own_end X hlk (fun h => by rw [hret] at h; cases h) eT q hk hn fun fs hr => retI X hx hret hd hr
theorem own_retA (X : Stand p l e R s m args below meth c T locs cells slots) (hx : p.tables.exec = Jvm.exec) (hlk : meth.locks = false) {pc : Nat} {Ls : Array Slot} {w : Value} {t : FieldType} {rest : List Value} (hret : meth.sig.returnType = some t) (ht : t.isReference = true) (hw : w.isRef = true)
    (hd : decode c.code pc = .ok (.areturn, 1)) (eT : T.heap = h) (q : Q (some w) h locs) (hk : cells ≤ K) (hn : slots ≤ N) : OwnGo p e below s Q K N (T.setTop (mkF m pc Ls (w :: rest))) :=
  own_end X hlk (fun h => by rw [hret] at h; cases h) eT q hk hn fun fs hr => retOut X hx hret (by rcases ref_cases hw with rfl | ⟨a, rfl⟩ <;> cases t <;> rfl) (Or.inr (Or.inr (Or.inr (Or.inr ⟨rfl, ht, hw⟩)))) hd hr
theorem own_retV (X : Stand p l e R s m args below meth c T locs cells slots) (hx : p.tables.exec = Jvm.exec) (hlk : meth.locks = false) {pc : Nat} {Ls : Array Slot} (hret : meth.sig.returnType = none)
    (hd : decode c.code pc = .ok (.return_, 1)) (eT : T.heap = h) (q : Q none h locs) (hk : cells ≤ K) (hn : slots ≤ N) : OwnGo p e below s Q K N (T.setTop (mkF m pc Ls [])) :=
  own_end X hlk (fun _ => rfl) eT q hk hn fun fs hr => X.returnOut hx hret hd hr
end OwnKit

section OwnSwitch
variable {p : Program} {l : Launch} {e : Env} {R : Room} {s : State} {m : MethodId} {args : Array Value} {below : List Frame} {meth : Method} {c : Code} {T : State} {locs : List Loc} {cells slots : Nat}
set_option maxHeartbeats 1000000 in
theorem own_lookup1 (X : Stand p l e R s m args below meth c T locs cells slots) (hx : p.tables.exec = Jvm.exec) {g : JFrame} (hg : g.method = m) {d a1 a2 b1 b2 : Int} {ln pc0 pc' : Nat} {k : Int32} {rest : List Value} {target : State} (hpc : g.pc = pc0) (hd : decode c.code g.pc = .ok (.lookupswitch d #[(a1, a2), (b1, b2)], ln)) (hs : g.stack = .int k :: rest)
    (hlt : a1 < b1) (h1 : a1 = k.toInt) (ho : 0 ≤ (pc0 : Int) + a2) (hp : ((pc0 : Int) + a2).toNat = pc')
    (hr : Steps p.tables e below (T.setTop { g with pc := pc', stack := rest }) target) : Steps p.tables e below (T.setTop g) target := by
  subst hg hpc hp
  jvm_step X.here [X.here.top, hx, hd, hs, h1, ho]
  exact ⟨by omega, hr⟩
theorem own_lookup2 (X : Stand p l e R s m args below meth c T locs cells slots) (hx : p.tables.exec = Jvm.exec) {g : JFrame} (hg : g.method = m) {d a1 a2 b1 b2 : Int} {ln pc0 pc' : Nat} {k : Int32} {rest : List Value} {target : State} (hpc : g.pc = pc0) (hd : decode c.code g.pc = .ok (.lookupswitch d #[(a1, a2), (b1, b2)], ln)) (hs : g.stack = .int k :: rest)
    (hlt : a1 < b1) (h1 : ¬ a1 = k.toInt) (h2 : b1 = k.toInt) (ho : 0 ≤ (pc0 : Int) + b2) (hp : ((pc0 : Int) + b2).toNat = pc')
    (hr : Steps p.tables e below (T.setTop { g with pc := pc', stack := rest }) target) : Steps p.tables e below (T.setTop g) target := by
  subst hg hpc hp
  jvm_step X.here [X.here.top, hx, hd, hs, h1, h2, ho]
  exact ⟨by omega, hr⟩
end OwnSwitch
theorem own_eqi {t : Term} {args : Array Value} {s : State} {n : Int32} (h : (Cond.eq t (.int n)).value args s none s [] = some true) : t.eval args s none [] s = some (.int n) := by
  simp only [Cond.value, Term.eval] at h
  cases ht : t.eval args s none [] s with
  | none => simp [ht] at h
  | some x => cases x <;> simp [ht] at h ⊢; exact h
theorem own_two {s : State} {args : Array Value} {t : Term} {a : Addr} {cl : Cell} {z0 z1 : Int32} (hf : Fit s) (A : Arr s s.heap a cl .int) (ev : t.eval args s none [] s = some (.ref a)) (h3 : (Cond.eq (.length t) (.int 2)).value args s none s [] = some true)
    (h0 : (Cond.eq (.elem t (.int 0)) (.int z0)).value args s none s [] = some true) (h1 : (Cond.eq (.elem t (.int 1)) (.int z1)).value args s none s [] = some true) : Arv s s.heap a cl.cls .int 2 [.int z0, .int z1] (.int 0) := by
  obtain ⟨e1, e2⟩ := Jvm.Free.IntBox.length_fwd (Cond.before_iff.mpr h3) ev A.1 A.2.1 A.2.2
  exact Arv.start hf A e1 e2 (by decide) rfl ⟨(elem_in (own_eqi h0) ev (Term.int_eval 0) A.1).2, (elem_in (own_eqi h1) ev (Term.int_eval 1) A.1).2, trivial⟩
theorem w0 {a0 : Array Value} {Z : State} (hw : ∀ d ∈ tables_1, d.before a0 Z = true) : ((Jvm.Cond.fieldLink "com/example/orderly_lock/orderlylock/RestartLeasesKindPinLaw" (13 : Nat) "com/example/orderly_lock/orderlylock/LockTable$LeaseTies" "END_TOGETHER" "Lcom/example/orderly_lock/orderlylock/LockTable$LeaseTies;") : Jvm.Cond).before a0 Z = true := hw _ (List.mem_of_getElem? (i := 0) rfl)
theorem w1 {a0 : Array Value} {Z : State} (hw : ∀ d ∈ tables_1, d.before a0 Z = true) : ((Jvm.Cond.initialized "com/example/orderly_lock/orderlylock/LockTable$LeaseTies") : Jvm.Cond).before a0 Z = true := hw _ (List.mem_of_getElem? (i := 1) rfl)
theorem w2 {a0 : Array Value} {Z : State} (hw : ∀ d ∈ tables_1, d.before a0 Z = true) : ((Jvm.Cond.laysStatic "com/example/orderly_lock/orderlylock/LockTable$LeaseTies" "END_TOGETHER" "Lcom/example/orderly_lock/orderlylock/LockTable$LeaseTies;") : Jvm.Cond).before a0 Z = true := hw _ (List.mem_of_getElem? (i := 2) rfl)
theorem w3 {a0 : Array Value} {Z : State} (hw : ∀ d ∈ tables_1, d.before a0 Z = true) : ((Jvm.Cond.fieldLink "com/example/orderly_lock/orderlylock/RestartLeasesKindPinLaw" (22 : Nat) "com/example/orderly_lock/orderlylock/Operation$Kind" "RESTART_LEASES" "Lcom/example/orderly_lock/orderlylock/Operation$Kind;") : Jvm.Cond).before a0 Z = true := hw _ (List.mem_of_getElem? (i := 3) rfl)
theorem w4 {a0 : Array Value} {Z : State} (hw : ∀ d ∈ tables_1, d.before a0 Z = true) : ((Jvm.Cond.initialized "com/example/orderly_lock/orderlylock/Operation$Kind") : Jvm.Cond).before a0 Z = true := hw _ (List.mem_of_getElem? (i := 4) rfl)
theorem w5 {a0 : Array Value} {Z : State} (hw : ∀ d ∈ tables_1, d.before a0 Z = true) : ((Jvm.Cond.laysStatic "com/example/orderly_lock/orderlylock/Operation$Kind" "RESTART_LEASES" "Lcom/example/orderly_lock/orderlylock/Operation$Kind;") : Jvm.Cond).before a0 Z = true := hw _ (List.mem_of_getElem? (i := 5) rfl)
theorem w6 {a0 : Array Value} {Z : State} (hw : ∀ d ∈ tables_1, d.before a0 Z = true) : ((Jvm.Cond.classLink "com/example/orderly_lock/orderlylock/RestartLeasesKindPinLaw" (25 : Nat) "com/example/orderly_lock/orderlylock/Operation$RestartLeases") : Jvm.Cond).before a0 Z = true := hw _ (List.mem_of_getElem? (i := 6) rfl)
theorem w7 {a0 : Array Value} {Z : State} (hw : ∀ d ∈ tables_1, d.before a0 Z = true) : ((Jvm.Cond.instantiable "com/example/orderly_lock/orderlylock/Operation$RestartLeases" (1 : Nat)) : Jvm.Cond).before a0 Z = true := hw _ (List.mem_of_getElem? (i := 7) rfl)
theorem w8 {a0 : Array Value} {Z : State} (hw : ∀ d ∈ tables_1, d.before a0 Z = true) : ((Jvm.Cond.initialized "com/example/orderly_lock/orderlylock/Operation$RestartLeases") : Jvm.Cond).before a0 Z = true := hw _ (List.mem_of_getElem? (i := 8) rfl)
theorem w9 {a0 : Array Value} {Z : State} (hw : ∀ d ∈ tables_1, d.before a0 Z = true) : ((Jvm.Cond.methodLink "com/example/orderly_lock/orderlylock/RestartLeasesKindPinLaw" (27 : Nat) ({ cls := "com/example/orderly_lock/orderlylock/Operation$RestartLeases", name := "<init>", desc := "(Lcom/example/orderly_lock/orderlylock/LockTable$LeaseTies;)V" } : Jvm.MethodName)) : Jvm.Cond).before a0 Z = true := hw _ (List.mem_of_getElem? (i := 9) rfl)
theorem w10 {a0 : Array Value} {Z : State} (hw : ∀ d ∈ tables_1, d.before a0 Z = true) : ((Jvm.Cond.instanceMethod ({ cls := "com/example/orderly_lock/orderlylock/Operation$RestartLeases", name := "<init>", desc := "(Lcom/example/orderly_lock/orderlylock/LockTable$LeaseTies;)V" } : Jvm.MethodName)) : Jvm.Cond).before a0 Z = true := hw _ (List.mem_of_getElem? (i := 10) rfl)
theorem w11 {a0 : Array Value} {Z : State} (hw : ∀ d ∈ tables_1, d.before a0 Z = true) : ((Jvm.Cond.code ({ cls := "com/example/orderly_lock/orderlylock/Operation$RestartLeases", name := "<init>", desc := "(Lcom/example/orderly_lock/orderlylock/LockTable$LeaseTies;)V" } : Jvm.MethodName) prog_40_method_2_code (2 : Nat) (Option.none : Option Jvm.ClassFile.FieldType)) : Jvm.Cond).before a0 Z = true := hw _ (List.mem_of_getElem? (i := 11) rfl)
theorem w12 {a0 : Array Value} {Z : State} (hw : ∀ d ∈ tables_1, d.before a0 Z = true) : ((Jvm.Cond.methodLink "com/example/orderly_lock/orderlylock/Operation$RestartLeases" (1 : Nat) ({ cls := "java/lang/Record", name := "<init>", desc := "()V" } : Jvm.MethodName)) : Jvm.Cond).before a0 Z = true := hw _ (List.mem_of_getElem? (i := 12) rfl)
theorem w13 {a0 : Array Value} {Z : State} (hw : ∀ d ∈ tables_1, d.before a0 Z = true) : ((Jvm.Cond.instanceMethod ({ cls := "java/lang/Record", name := "<init>", desc := "()V" } : Jvm.MethodName)) : Jvm.Cond).before a0 Z = true := hw _ (List.mem_of_getElem? (i := 13) rfl)
theorem w15 {a0 : Array Value} {Z : State} (hw : ∀ d ∈ tables_1, d.before a0 Z = true) : ((Jvm.Cond.initialized "java/lang/Record") : Jvm.Cond).before a0 Z = true := hw _ (List.mem_of_getElem? (i := 15) rfl)
theorem w16 {a0 : Array Value} {Z : State} (hw : ∀ d ∈ tables_1, d.before a0 Z = true) : ((Jvm.Cond.code ({ cls := "java/lang/Record", name := "<init>", desc := "()V" } : Jvm.MethodName) jdk_30_method_1_code (1 : Nat) (Option.none : Option Jvm.ClassFile.FieldType)) : Jvm.Cond).before a0 Z = true := hw _ (List.mem_of_getElem? (i := 16) rfl)
theorem w17 {a0 : Array Value} {Z : State} (hw : ∀ d ∈ tables_1, d.before a0 Z = true) : ((Jvm.Cond.methodLink "java/lang/Record" (1 : Nat) ({ cls := "java/lang/Object", name := "<init>", desc := "()V" } : Jvm.MethodName)) : Jvm.Cond).before a0 Z = true := hw _ (List.mem_of_getElem? (i := 17) rfl)
theorem w18 {a0 : Array Value} {Z : State} (hw : ∀ d ∈ tables_1, d.before a0 Z = true) : ((Jvm.Cond.instanceMethod ({ cls := "java/lang/Object", name := "<init>", desc := "()V" } : Jvm.MethodName)) : Jvm.Cond).before a0 Z = true := hw _ (List.mem_of_getElem? (i := 18) rfl)
theorem w19 {a0 : Array Value} {Z : State} (hw : ∀ d ∈ tables_1, d.before a0 Z = true) : ((Jvm.Cond.code ({ cls := "java/lang/Object", name := "<init>", desc := "()V" } : Jvm.MethodName) object_method_1_code (1 : Nat) (Option.none : Option Jvm.ClassFile.FieldType)) : Jvm.Cond).before a0 Z = true := hw _ (List.mem_of_getElem? (i := 19) rfl)
theorem w20 {a0 : Array Value} {Z : State} (hw : ∀ d ∈ tables_1, d.before a0 Z = true) : ((Jvm.Cond.fieldLink "com/example/orderly_lock/orderlylock/Operation$RestartLeases" (7 : Nat) "com/example/orderly_lock/orderlylock/Operation$RestartLeases" "ties" "Lcom/example/orderly_lock/orderlylock/LockTable$LeaseTies;") : Jvm.Cond).before a0 Z = true := hw _ (List.mem_of_getElem? (i := 20) rfl)
theorem w21 {a0 : Array Value} {Z : State} (hw : ∀ d ∈ tables_1, d.before a0 Z = true) : ((Jvm.Cond.laysFinal "com/example/orderly_lock/orderlylock/Operation$RestartLeases" "com/example/orderly_lock/orderlylock/Operation$RestartLeases" "ties" "Lcom/example/orderly_lock/orderlylock/LockTable$LeaseTies;") : Jvm.Cond).before a0 Z = true := hw _ (List.mem_of_getElem? (i := 21) rfl)
theorem w22 {a0 : Array Value} {Z : State} (hw : ∀ d ∈ tables_1, d.before a0 Z = true) : ((Jvm.Cond.methodLink "com/example/orderly_lock/orderlylock/RestartLeasesKindPinLaw" (30 : Nat) ({ cls := "com/example/orderly_lock/orderlylock/Operation$RestartLeases", name := "kind", desc := "()Lcom/example/orderly_lock/orderlylock/Operation$Kind;" } : Jvm.MethodName)) : Jvm.Cond).before a0 Z = true := hw _ (List.mem_of_getElem? (i := 22) rfl)
theorem w23 {a0 : Array Value} {Z : State} (hw : ∀ d ∈ tables_1, d.before a0 Z = true) : ((Jvm.Cond.declares ({ cls := "com/example/orderly_lock/orderlylock/Operation$RestartLeases", name := "kind", desc := "()Lcom/example/orderly_lock/orderlylock/Operation$Kind;" } : Jvm.MethodName)) : Jvm.Cond).before a0 Z = true := hw _ (List.mem_of_getElem? (i := 23) rfl)
theorem w24 {a0 : Array Value} {Z : State} (hw : ∀ d ∈ tables_1, d.before a0 Z = true) : ((Jvm.Cond.instanceMethod ({ cls := "com/example/orderly_lock/orderlylock/Operation$RestartLeases", name := "kind", desc := "()Lcom/example/orderly_lock/orderlylock/Operation$Kind;" } : Jvm.MethodName)) : Jvm.Cond).before a0 Z = true := hw _ (List.mem_of_getElem? (i := 24) rfl)
theorem w25 {a0 : Array Value} {Z : State} (hw : ∀ d ∈ tables_1, d.before a0 Z = true) : ((Jvm.Cond.selects "com/example/orderly_lock/orderlylock/Operation$RestartLeases" ({ cls := "com/example/orderly_lock/orderlylock/Operation$RestartLeases", name := "kind", desc := "()Lcom/example/orderly_lock/orderlylock/Operation$Kind;" } : Jvm.MethodName) ({ cls := "com/example/orderly_lock/orderlylock/Operation$RestartLeases", name := "kind", desc := "()Lcom/example/orderly_lock/orderlylock/Operation$Kind;" } : Jvm.MethodName)) : Jvm.Cond).before a0 Z = true := hw _ (List.mem_of_getElem? (i := 25) rfl)
theorem w26 {a0 : Array Value} {Z : State} (hw : ∀ d ∈ tables_1, d.before a0 Z = true) : ((Jvm.Cond.code ({ cls := "com/example/orderly_lock/orderlylock/Operation$RestartLeases", name := "kind", desc := "()Lcom/example/orderly_lock/orderlylock/Operation$Kind;" } : Jvm.MethodName) prog_40_method_3_code (1 : Nat) (Option.some (Jvm.ClassFile.FieldType.object "com/example/orderly_lock/orderlylock/Operation$Kind"))) : Jvm.Cond).before a0 Z = true := hw _ (List.mem_of_getElem? (i := 26) rfl)
theorem w27 {a0 : Array Value} {Z : State} (hw : ∀ d ∈ tables_1, d.before a0 Z = true) : ((Jvm.Cond.fieldLink "com/example/orderly_lock/orderlylock/Operation$RestartLeases" (21 : Nat) "com/example/orderly_lock/orderlylock/Operation$1" "$SwitchMap$com$example$orderly_lock$orderlylock$LockTable$LeaseTies" "[I") : Jvm.Cond).before a0 Z = true := hw _ (List.mem_of_getElem? (i := 27) rfl)
theorem w28 {a0 : Array Value} {Z : State} (hw : ∀ d ∈ tables_1, d.before a0 Z = true) : ((Jvm.Cond.initialized "com/example/orderly_lock/orderlylock/Operation$1") : Jvm.Cond).before a0 Z = true := hw _ (List.mem_of_getElem? (i := 28) rfl)
theorem w29 {a0 : Array Value} {Z : State} (hw : ∀ d ∈ tables_1, d.before a0 Z = true) : ((Jvm.Cond.laysStatic "com/example/orderly_lock/orderlylock/Operation$1" "$SwitchMap$com$example$orderly_lock$orderlylock$LockTable$LeaseTies" "[I") : Jvm.Cond).before a0 Z = true := hw _ (List.mem_of_getElem? (i := 29) rfl)
theorem w30 {a0 : Array Value} {Z : State} (hw : ∀ d ∈ tables_1, d.before a0 Z = true) : ((Jvm.Cond.methodLink "com/example/orderly_lock/orderlylock/Operation$RestartLeases" (27 : Nat) ({ cls := "com/example/orderly_lock/orderlylock/LockTable$LeaseTies", name := "ordinal", desc := "()I" } : Jvm.MethodName)) : Jvm.Cond).before a0 Z = true := hw _ (List.mem_of_getElem? (i := 30) rfl)
theorem w31 {a0 : Array Value} {Z : State} (hw : ∀ d ∈ tables_1, d.before a0 Z = true) : ((Jvm.Cond.sameMethod "com/example/orderly_lock/orderlylock/LockTable$LeaseTies" "java/lang/Enum" "ordinal" "()I") : Jvm.Cond).before a0 Z = true := hw _ (List.mem_of_getElem? (i := 31) rfl)
theorem w32 {a0 : Array Value} {Z : State} (hw : ∀ d ∈ tables_1, d.before a0 Z = true) : ((Jvm.Cond.declares ({ cls := "java/lang/Enum", name := "ordinal", desc := "()I" } : Jvm.MethodName)) : Jvm.Cond).before a0 Z = true := hw _ (List.mem_of_getElem? (i := 32) rfl)
theorem w33 {a0 : Array Value} {Z : State} (hw : ∀ d ∈ tables_1, d.before a0 Z = true) : ((Jvm.Cond.instanceMethod ({ cls := "java/lang/Enum", name := "ordinal", desc := "()I" } : Jvm.MethodName)) : Jvm.Cond).before a0 Z = true := hw _ (List.mem_of_getElem? (i := 33) rfl)
theorem w34 {a0 : Array Value} {Z : State} (hw : ∀ d ∈ tables_1, d.before a0 Z = true) : ((Jvm.Cond.selects "com/example/orderly_lock/orderlylock/LockTable$LeaseTies" ({ cls := "com/example/orderly_lock/orderlylock/LockTable$LeaseTies", name := "ordinal", desc := "()I" } : Jvm.MethodName) ({ cls := "java/lang/Enum", name := "ordinal", desc := "()I" } : Jvm.MethodName)) : Jvm.Cond).before a0 Z = true := hw _ (List.mem_of_getElem? (i := 34) rfl)
theorem w35 {a0 : Array Value} {Z : State} (hw : ∀ d ∈ tables_1, d.before a0 Z = true) : ((Jvm.Cond.initialized "java/lang/Enum") : Jvm.Cond).before a0 Z = true := hw _ (List.mem_of_getElem? (i := 35) rfl)
theorem w36 {a0 : Array Value} {Z : State} (hw : ∀ d ∈ tables_1, d.before a0 Z = true) : ((Jvm.Cond.code ({ cls := "java/lang/Enum", name := "ordinal", desc := "()I" } : Jvm.MethodName) jdk_37_method_2_code (1 : Nat) (Option.some Jvm.ClassFile.FieldType.int)) : Jvm.Cond).before a0 Z = true := hw _ (List.mem_of_getElem? (i := 36) rfl)
theorem w37 {a0 : Array Value} {Z : State} (hw : ∀ d ∈ tables_1, d.before a0 Z = true) : ((Jvm.Cond.fieldLink "java/lang/Enum" (7 : Nat) "java/lang/Enum" "ordinal" "I") : Jvm.Cond).before a0 Z = true := hw _ (List.mem_of_getElem? (i := 37) rfl)
theorem w39 {a0 : Array Value} {Z : State} (hw : ∀ d ∈ tables_1, d.before a0 Z = true) : ((Jvm.Cond.fieldLink "com/example/orderly_lock/orderlylock/Operation$RestartLeases" (36 : Nat) "com/example/orderly_lock/orderlylock/Operation$Kind" "RESTART_LEASES" "Lcom/example/orderly_lock/orderlylock/Operation$Kind;") : Jvm.Cond).before a0 Z = true := hw _ (List.mem_of_getElem? (i := 39) rfl)
theorem w40 {a0 : Array Value} {Z : State} (hw : ∀ d ∈ tables_1, d.before a0 Z = true) : ((Jvm.Cond.methodLink "com/example/orderly_lock/orderlylock/RestartLeasesKindPinLaw" (34 : Nat) ({ cls := "com/example/orderly_lock/orderlylock/Operation$Kind", name := "readOnly", desc := "()Z" } : Jvm.MethodName)) : Jvm.Cond).before a0 Z = true := hw _ (List.mem_of_getElem? (i := 40) rfl)
theorem w41 {a0 : Array Value} {Z : State} (hw : ∀ d ∈ tables_1, d.before a0 Z = true) : ((Jvm.Cond.declares ({ cls := "com/example/orderly_lock/orderlylock/Operation$Kind", name := "readOnly", desc := "()Z" } : Jvm.MethodName)) : Jvm.Cond).before a0 Z = true := hw _ (List.mem_of_getElem? (i := 41) rfl)
theorem w42 {a0 : Array Value} {Z : State} (hw : ∀ d ∈ tables_1, d.before a0 Z = true) : ((Jvm.Cond.instanceMethod ({ cls := "com/example/orderly_lock/orderlylock/Operation$Kind", name := "readOnly", desc := "()Z" } : Jvm.MethodName)) : Jvm.Cond).before a0 Z = true := hw _ (List.mem_of_getElem? (i := 42) rfl)
theorem w43 {a0 : Array Value} {Z : State} (hw : ∀ d ∈ tables_1, d.before a0 Z = true) : ((Jvm.Cond.selects "com/example/orderly_lock/orderlylock/Operation$Kind" ({ cls := "com/example/orderly_lock/orderlylock/Operation$Kind", name := "readOnly", desc := "()Z" } : Jvm.MethodName) ({ cls := "com/example/orderly_lock/orderlylock/Operation$Kind", name := "readOnly", desc := "()Z" } : Jvm.MethodName)) : Jvm.Cond).before a0 Z = true := hw _ (List.mem_of_getElem? (i := 43) rfl)
theorem w44 {a0 : Array Value} {Z : State} (hw : ∀ d ∈ tables_1, d.before a0 Z = true) : ((Jvm.Cond.code ({ cls := "com/example/orderly_lock/orderlylock/Operation$Kind", name := "readOnly", desc := "()Z" } : Jvm.MethodName) prog_33_method_4_code (1 : Nat) (Option.some Jvm.ClassFile.FieldType.boolean)) : Jvm.Cond).before a0 Z = true := hw _ (List.mem_of_getElem? (i := 44) rfl)
theorem w45 {a0 : Array Value} {Z : State} (hw : ∀ d ∈ tables_1, d.before a0 Z = true) : ((Jvm.Cond.fieldLink "com/example/orderly_lock/orderlylock/Operation$Kind" (81 : Nat) "com/example/orderly_lock/orderlylock/Operation$Kind" "readOnly" "Z") : Jvm.Cond).before a0 Z = true := hw _ (List.mem_of_getElem? (i := 45) rfl)
theorem w47 {a0 : Array Value} {Z : State} (hw : ∀ d ∈ tables_1, d.before a0 Z = true) : ((Jvm.Cond.fieldLink "com/example/orderly_lock/orderlylock/RestartLeasesKindPinLaw" (7 : Nat) "com/example/orderly_lock/orderlylock/LockTable$LeaseTies" "END_IN_TURN" "Lcom/example/orderly_lock/orderlylock/LockTable$LeaseTies;") : Jvm.Cond).before a0 Z = true := hw _ (List.mem_of_getElem? (i := 47) rfl)
theorem w48 {a0 : Array Value} {Z : State} (hw : ∀ d ∈ tables_1, d.before a0 Z = true) : ((Jvm.Cond.laysStatic "com/example/orderly_lock/orderlylock/LockTable$LeaseTies" "END_IN_TURN" "Lcom/example/orderly_lock/orderlylock/LockTable$LeaseTies;") : Jvm.Cond).before a0 Z = true := hw _ (List.mem_of_getElem? (i := 48) rfl)
theorem w49 {a0 : Array Value} {Z : State} (hw : ∀ d ∈ tables_1, d.before a0 Z = true) : ((Jvm.Cond.fieldLink "com/example/orderly_lock/orderlylock/RestartLeasesKindPinLaw" (16 : Nat) "com/example/orderly_lock/orderlylock/Operation$Kind" "RESTART_LEASES_ENDING_TIES_IN_TURN" "Lcom/example/orderly_lock/orderlylock/Operation$Kind;") : Jvm.Cond).before a0 Z = true := hw _ (List.mem_of_getElem? (i := 49) rfl)
theorem w50 {a0 : Array Value} {Z : State} (hw : ∀ d ∈ tables_1, d.before a0 Z = true) : ((Jvm.Cond.laysStatic "com/example/orderly_lock/orderlylock/Operation$Kind" "RESTART_LEASES_ENDING_TIES_IN_TURN" "Lcom/example/orderly_lock/orderlylock/Operation$Kind;") : Jvm.Cond).before a0 Z = true := hw _ (List.mem_of_getElem? (i := 50) rfl)
theorem w51 {a0 : Array Value} {Z : State} (hw : ∀ d ∈ tables_1, d.before a0 Z = true) : ((Jvm.Cond.fieldLink "com/example/orderly_lock/orderlylock/Operation$RestartLeases" (42 : Nat) "com/example/orderly_lock/orderlylock/Operation$Kind" "RESTART_LEASES_ENDING_TIES_IN_TURN" "Lcom/example/orderly_lock/orderlylock/Operation$Kind;") : Jvm.Cond).before a0 Z = true := hw _ (List.mem_of_getElem? (i := 51) rfl)
theorem d2_0 : decode jdk_30_method_1_code 0 = .ok (.aload_n 0, 1) := by decide +kernel
theorem d2_1 : decode jdk_30_method_1_code 1 = .ok (.invokespecial 1, 3) := by decide +kernel
theorem d2_4 : decode jdk_30_method_1_code 4 = .ok (.return_, 1) := by decide +kernel
theorem pn_0 : plainName "java/lang/Record" = true := by first | (simp [plainName, overriddenIn]; done) | decide +kernel
theorem d1_0 : decode prog_40_method_2_code 0 = .ok (.aload_n 0, 1) := by decide +kernel
theorem d1_1 : decode prog_40_method_2_code 1 = .ok (.invokespecial 1, 3) := by decide +kernel
theorem pd_0 : parseMethodDescriptor "()V" = some ⟨[], none⟩ := by decide +kernel
theorem d1_4 : decode prog_40_method_2_code 4 = .ok (.aload_n 0, 1) := by decide +kernel
theorem d1_5 : decode prog_40_method_2_code 5 = .ok (.aload_n 1, 1) := by decide +kernel
theorem d1_6 : decode prog_40_method_2_code 6 = .ok (.putfield 7, 3) := by decide +kernel
theorem d1_9 : decode prog_40_method_2_code 9 = .ok (.return_, 1) := by decide +kernel
theorem pn_1 : plainName "com/example/orderly_lock/orderlylock/Operation$RestartLeases" = true := by first | (simp [plainName, overriddenIn]; done) | decide +kernel
theorem d5_0 : decode jdk_37_method_2_code 0 = .ok (.aload_n 0, 1) := by decide +kernel
theorem d5_1 : decode jdk_37_method_2_code 1 = .ok (.getfield 7, 3) := by decide +kernel
theorem d5_4 : decode jdk_37_method_2_code 4 = .ok (.ireturn, 1) := by decide +kernel
theorem pn_2 : plainName "java/lang/Enum" = true := by first | (simp [plainName, overriddenIn]; done) | decide +kernel
theorem d6_0 : decode prog_33_method_4_code 0 = .ok (.aload_n 0, 1) := by decide +kernel
theorem d6_1 : decode prog_33_method_4_code 1 = .ok (.getfield 81, 3) := by decide +kernel
theorem d6_4 : decode prog_33_method_4_code 4 = .ok (.ireturn, 1) := by decide +kernel
theorem pn_3 : plainName "com/example/orderly_lock/orderlylock/Operation$Kind" = true := by first | (simp [plainName, overriddenIn]; done) | decide +kernel
theorem d4_0 : decode prog_40_method_3_code 0 = .ok (.getstatic 21, 3) := by decide +kernel
theorem d4_3 : decode prog_40_method_3_code 3 = .ok (.aload_n 0, 1) := by decide +kernel
theorem d4_4 : decode prog_40_method_3_code 4 = .ok (.getfield 7, 3) := by decide +kernel
theorem d4_7 : decode prog_40_method_3_code 7 = .ok (.invokevirtual 27, 3) := by decide +kernel
theorem pd_1 : parseMethodDescriptor "()I" = some ⟨[], some .int⟩ := by decide +kernel
theorem d4_10 : decode prog_40_method_3_code 10 = .ok (.iaload, 1) := by decide +kernel
theorem d4_11 : decode prog_40_method_3_code 11 = .ok (.lookupswitch 25 #[(1, 35), (2, 41)], 25) := by decide +kernel
theorem d4_46 : decode prog_40_method_3_code 46 = .ok (.getstatic 36, 3) := by decide +kernel
theorem d4_49 : decode prog_40_method_3_code 49 = .ok (.goto 6, 3) := by decide +kernel
theorem d4_55 : decode prog_40_method_3_code 55 = .ok (.areturn, 1) := by decide +kernel
theorem d4_52 : decode prog_40_method_3_code 52 = .ok (.getstatic 42, 3) := by decide +kernel
theorem pd_2 : parseMethodDescriptor "(Lcom/example/orderly_lock/orderlylock/LockTable$LeaseTies;)V" = some ⟨[(.object "com/example/orderly_lock/orderlylock/LockTable$LeaseTies")], none⟩ := by decide +kernel
theorem pd_3 : parseMethodDescriptor "()Lcom/example/orderly_lock/orderlylock/Operation$Kind;" = some ⟨[], some (.object "com/example/orderly_lock/orderlylock/Operation$Kind")⟩ := by decide +kernel
theorem pd_4 : parseMethodDescriptor "()Z" = some ⟨[], some .boolean⟩ := by decide +kernel
theorem pn_4 : plainName "com/example/orderly_lock/orderlylock/RestartLeasesKindPinLaw" = true := by first | (simp [plainName, overriddenIn]; done) | decide +kernel
theorem ef_2 (m : MethodId) (a : Addr)  : entryFrame m #[(.ref a)] 1 = mkF m 0 #[.val (.ref a)] [] := by first | (simp [entryFrame, mkF, argsToLocals, Value.category]; done) | rfl
def Q2 (Z : State) (a : Addr) (h0 : Heap) (n0 : Nat) (v_ : Option Value) (h_ : Heap) (L_ : List Loc) : Prop := v_ = none ∧ Fr n0 L_ ∧ h_ = h0
set_option maxRecDepth 65536 in
set_option maxHeartbeats 40000000 in
theorem rm2 (l : Launch) (Z : State) (a0 : Array Value) (hw : ∀ d ∈ tables_1, d.before a0 Z = true) (ws : List Jvm.Cond) (a : Addr) (h0 : Heap) (n0 : Nat) (Z0 : n0 ≤ h0.size)  :
    MetFree l (⟨"java/lang/Record", "<init>", "()V"⟩ : MethodName) (head1 (Jvm.Cond.code (⟨"java/lang/Record", "<init>", "()V"⟩ : MethodName) jdk_30_method_1_code 1 none :: ws) ({ frames := 1, cells := 0, slots := 0, locals := 12 } : Room)) (fun A_ U => A_ = #[(.ref a)] ∧ Z.Warmed39 U.vm ∧ U.heap = h0) (fun _ _ _ _ _ => True) (fun _ U_ o_ U'_ => ∃ v_ L_, o_ = .returned v_ ∧ Q2 Z a h0 n0 v_ U'_.heap L_ ∧ FrameEnd U_ o_ U'_ L_ ({ frames := 1, cells := 0, slots := 0, locals := 12 } : Room).cells ({ frames := 1, cells := 0, slots := 0, locals := 12 } : Room).slots) := by
  refine MetFree.of_bodySF (plainFor_of_name pn_0) hisR ?_
  intro p e s m args below meth c s₁ Bd hml0 hP hK
  obtain ⟨rfl, hZ, hh⟩ := hP
  have hx := Bd.exec
  have hby := Bd.bytes
  have hml : c.maxLocals = 1 := hml0
  have hown : s.vm.findClass "java/lang/Record" = some m.cls := findClass_of_methodNamed Bd.named
  have hnm := (name_of_methodNamed Bd.named Bd.method).1
  have hlk : meth.locks = false := Bd.notSynchronized
  have X0 : Stand p l e ({ frames := 1, cells := 0, slots := 0, locals := 12 } : Room) s m #[(.ref a)] below meth c s₁ [] 0 0 := Stand.of_body Bd
  have e0 : s₁.heap = h0 := by rw [← hh, Bd.state]; rfl
  have N0 := Fr.nil n0
  have K0 : Keep h0 h0 [] := Keep.refl _ _
  refine own_cast (ef_2 m a) ?_
  show OwnGo p e below s (Q2 Z a h0 n0) ({ frames := 1, cells := 0, slots := 0, locals := 12 } : Room).cells ({ frames := 1, cells := 0, slots := 0, locals := 12 } : Room).slots (s₁.setTop (mkF m 0 #[.val (.ref a)] []))
  refine own_on (fun t k => XS.aloadN X0.here hx rfl (hb hby d2_0) rfl rfl k) ?_
  show OwnGo p e below s _ _ _ (s₁.setTop (mkF m 1 #[.val (.ref a)] [(.ref a)]))
  obtain ⟨T1, X1, e1, st1⟩ := initO X0 hx hZ hown (w17 hw) (w18 hw) (w19 hw) e0 (g := (mkF m 1 #[.val (.ref a)] [(.ref a)])) rfl (by rw [hml]; rfl) rfl (hb hby d2_1) (by decide) (W := 0) (by show 2 * 0 + _ ≤ _; exact Nat.le_of_eq rfl) (by decide)
  refine own_on st1 ?_
  show OwnGo p e below s _ _ _ (T1.setTop (mkF m 4 #[.val (.ref a)] []))
  exact own_retV X1 hx hlk Bd.returns (hb hby d2_4) e1 ⟨rfl, N0, rfl⟩ (by decide) (by decide)
theorem ef_1 (m : MethodId) (a : Addr) (t : Addr)  : entryFrame m #[(.ref a), (.ref t)] 2 = mkF m 0 #[.val (.ref a), .val (.ref t)] [] := by first | (simp [entryFrame, mkF, argsToLocals, Value.category]; done) | rfl
def Q1 (Z : State) (a : Addr) (t : Addr) (u : Value) (h0 : Heap) (n0 : Nat) (v_ : Option Value) (h_ : Heap) (L_ : List Loc) : Prop := v_ = none ∧ Fr n0 L_ ∧ Keep h0 h_ [a] ∧ (Exa Z h_ a "com/example/orderly_lock/orderlylock/Operation$RestartLeases") ∧ (Fld Z h_ a "com/example/orderly_lock/orderlylock/Operation$RestartLeases" "ties" "Lcom/example/orderly_lock/orderlylock/LockTable$LeaseTies;" (.ref t))
set_option maxRecDepth 65536 in
set_option maxHeartbeats 40000000 in
theorem rm1 (l : Launch) (Z : State) (a0 : Array Value) (hw : ∀ d ∈ tables_1, d.before a0 Z = true) (ws : List Jvm.Cond) (a : Addr) (t : Addr) (u : Value) (h0 : Heap) (n0 : Nat) (Z0 : n0 ≤ h0.size) (P0 : Exa Z h0 a "com/example/orderly_lock/orderlylock/Operation$RestartLeases") (P1 : Fld Z h0 a "com/example/orderly_lock/orderlylock/Operation$RestartLeases" "ties" "Lcom/example/orderly_lock/orderlylock/LockTable$LeaseTies;" u) (P2 : n0 ≤ a) :
    MetFree l (⟨"com/example/orderly_lock/orderlylock/Operation$RestartLeases", "<init>", "(Lcom/example/orderly_lock/orderlylock/LockTable$LeaseTies;)V"⟩ : MethodName) (head1 (Jvm.Cond.code (⟨"com/example/orderly_lock/orderlylock/Operation$RestartLeases", "<init>", "(Lcom/example/orderly_lock/orderlylock/LockTable$LeaseTies;)V"⟩ : MethodName) prog_40_method_2_code 2 none :: ws) ({ frames := 2, cells := 0, slots := 0, locals := 24 } : Room)) (fun A_ U => A_ = #[(.ref a), (.ref t)] ∧ Z.Warmed39 U.vm ∧ U.heap = h0) (fun _ _ _ _ _ => True) (fun _ U_ o_ U'_ => ∃ v_ L_, o_ = .returned v_ ∧ Q1 Z a t u h0 n0 v_ U'_.heap L_ ∧ FrameEnd U_ o_ U'_ L_ ({ frames := 2, cells := 0, slots := 0, locals := 24 } : Room).cells ({ frames := 2, cells := 0, slots := 0, locals := 24 } : Room).slots) := by
  refine MetFree.of_bodySF (plainFor_of_name pn_1) hisR ?_
  intro p e s m args below meth c s₁ Bd hml0 hP hK
  obtain ⟨rfl, hZ, hh⟩ := hP
  have hx := Bd.exec
  have hby := Bd.bytes
  have hml : c.maxLocals = 2 := hml0
  have hown : s.vm.findClass "com/example/orderly_lock/orderlylock/Operation$RestartLeases" = some m.cls := findClass_of_methodNamed Bd.named
  have hnm := (name_of_methodNamed Bd.named Bd.method).1
  have hlk : meth.locks = false := Bd.notSynchronized
  have X0 : Stand p l e ({ frames := 2, cells := 0, slots := 0, locals := 24 } : Room) s m #[(.ref a), (.ref t)] below meth c s₁ [] 0 0 := Stand.of_body Bd
  have e0 : s₁.heap = h0 := by rw [← hh, Bd.state]; rfl
  have N0 := Fr.nil n0
  have K0 : Keep h0 h0 [a] := Keep.refl _ _
  refine own_cast (ef_1 m a t) ?_
  show OwnGo p e below s (Q1 Z a t u h0 n0) ({ frames := 2, cells := 0, slots := 0, locals := 24 } : Room).cells ({ frames := 2, cells := 0, slots := 0, locals := 24 } : Room).slots (s₁.setTop (mkF m 0 #[.val (.ref a), .val (.ref t)] []))
  refine own_on (fun t k => XS.aloadN X0.here hx rfl (hb hby d1_0) rfl rfl k) ?_
  show OwnGo p e below s _ _ _ (s₁.setTop (mkF m 1 #[.val (.ref a), .val (.ref t)] [(.ref a)]))
  obtain ⟨_, _, ⟨T1, L1, k1, n1⟩, -, X1, ⟨Lc1, hQ1, l1, y1, z1⟩, st1⟩ := X0.specialBack hx (y := (⟨"java/lang/Record", "<init>", "()V"⟩ : MethodName)) rfl hown (mvT hZ (w12 hw)) (mvT hZ (w13 hw)) (mvT hZ (w16 hw)) (by decide) (backOf (W := 0) (rm2 l Z a0 hw [] a h0 n0 Z0 ) hZ (w16 hw) (w15 hw) (by decide) (by decide)) (g := (mkF m 1 #[.val (.ref a), .val (.ref t)] [(.ref a)])) rfl (by rw [hml]; rfl) (Steps.refl _) (a := a) (argsL := []) (rest := []) (lenOf pd_0 rfl) rfl (by show 2 * 0 + _ ≤ _; exact Nat.le_of_eq rfl) (hb hby d1_1) (fun _ _ => ⟨rfl, e0, (by decide : 0 + 0 ≤ _), (by decide : 0 + 0 ≤ _)⟩)
  dsimp only [Pt.U, Pt.locs, Pt.cells, Pt.slots] at X1 l1 y1 z1 st1 hQ1
  subst l1 y1 z1
  obtain ⟨rfl, N1q, e1⟩ := hQ1
  have N1 := Fr.app N0 N1q
  refine own_tr st1 ?_
  show OwnGo p e below s _ _ _ (T1.setTop (mkF m 4 #[.val (.ref a), .val (.ref t)] []))
  refine own_on (fun t k => XS.aloadN X1.here hx rfl (hb hby d1_4) rfl rfl k) ?_
  show OwnGo p e below s _ _ _ (T1.setTop (mkF m 5 #[.val (.ref a), .val (.ref t)] [(.ref a)]))
  refine own_on (fun t k => XS.aloadN X1.here hx rfl (hb hby d1_5) rfl rfl k) ?_
  show OwnGo p e below s _ _ _ (T1.setTop (mkF m 6 #[.val (.ref a), .val (.ref t)] [(.ref t), (.ref a)]))
  obtain ⟨T2, h2, X2, e2, W2, st2⟩ := putF X1 hx hZ hown (host := "") (Or.inl (w20 hw)) Via.refl e1 P1 P0 (Or.inr ⟨(w21 hw), rfl, hnm⟩) (w7 hw) (ty := (.object "com/example/orderly_lock/orderlylock/LockTable$LeaseTies")) (by decide) rfl rfl (g := (mkF m 6 #[.val (.ref a), .val (.ref t)] [(.ref t), (.ref a)])) rfl rfl (hb hby d1_6)
  have F2 := P1.same W2
  have N2 := Fr.snoc X2 N1 P2
  have Z2 : n0 ≤ h2.size := Nat.le_trans Z0 (Keep.of_wr W2).1
  have K2 : Keep h0 h2 [a] := K0.wr W2 (Or.inl (List.mem_of_getElem? (i := 0) rfl))
  refine own_on st2 ?_
  show OwnGo p e below s _ _ _ (T2.setTop (mkF m 9 #[.val (.ref a), .val (.ref t)] []))
  have f3 : Exa Z h2 a "com/example/orderly_lock/orderlylock/Operation$RestartLeases" := P0.wr W2
  exact own_retV X2 hx hlk Bd.returns (hb hby d1_9) e2 ⟨rfl, N2, K2, f3, F2⟩ (by decide) (by decide)
theorem ef_5 (m : MethodId) (a : Addr)  : entryFrame m #[(.ref a)] 1 = mkF m 0 #[.val (.ref a)] [] := by first | (simp [entryFrame, mkF, argsToLocals, Value.category]; done) | rfl
def Q5 (Z : State) (a : Addr) (o : Int32) (h0 : Heap) (n0 : Nat) (v_ : Option Value) (h_ : Heap) (L_ : List Loc) : Prop := v_ = some (.int o) ∧ Fr n0 L_ ∧ h_ = h0
set_option maxRecDepth 65536 in
set_option maxHeartbeats 40000000 in
theorem rm5 (l : Launch) (Z : State) (a0 : Array Value) (hw : ∀ d ∈ tables_1, d.before a0 Z = true) (ws : List Jvm.Cond) (a : Addr) (o : Int32) (h0 : Heap) (n0 : Nat) (Z0 : n0 ≤ h0.size) (P0 : Fld Z h0 a "java/lang/Enum" "ordinal" "I" (.int o)) :
    MetFree l (⟨"java/lang/Enum", "ordinal", "()I"⟩ : MethodName) (head1 (Jvm.Cond.code (⟨"java/lang/Enum", "ordinal", "()I"⟩ : MethodName) jdk_37_method_2_code 1 (some .int) :: ws) ({ frames := 0, cells := 0, slots := 0, locals := 0 } : Room)) (fun A_ U => A_ = #[(.ref a)] ∧ Z.Warmed39 U.vm ∧ U.heap = h0) (fun _ _ _ _ _ => True) (fun _ U_ o_ U'_ => ∃ v_ L_, o_ = .returned v_ ∧ Q5 Z a o h0 n0 v_ U'_.heap L_ ∧ FrameEnd U_ o_ U'_ L_ ({ frames := 0, cells := 0, slots := 0, locals := 0 } : Room).cells ({ frames := 0, cells := 0, slots := 0, locals := 0 } : Room).slots) := by
  refine MetFree.of_bodySF (plainFor_of_name pn_2) hisR ?_
  intro p e s m args below meth c s₁ Bd hml0 hP hK
  obtain ⟨rfl, hZ, hh⟩ := hP
  have hx := Bd.exec
  have hby := Bd.bytes
  have hml : c.maxLocals = 1 := hml0
  have hown : s.vm.findClass "java/lang/Enum" = some m.cls := findClass_of_methodNamed Bd.named
  have hnm := (name_of_methodNamed Bd.named Bd.method).1
  have hlk : meth.locks = false := Bd.notSynchronized
  have X0 : Stand p l e ({ frames := 0, cells := 0, slots := 0, locals := 0 } : Room) s m #[(.ref a)] below meth c s₁ [] 0 0 := Stand.of_body Bd
  have e0 : s₁.heap = h0 := by rw [← hh, Bd.state]; rfl
  have N0 := Fr.nil n0
  have K0 : Keep h0 h0 [] := Keep.refl _ _
  refine own_cast (ef_5 m a) ?_
  show OwnGo p e below s (Q5 Z a o h0 n0) ({ frames := 0, cells := 0, slots := 0, locals := 0 } : Room).cells ({ frames := 0, cells := 0, slots := 0, locals := 0 } : Room).slots (s₁.setTop (mkF m 0 #[.val (.ref a)] []))
  refine own_on (fun t k => XS.aloadN X0.here hx rfl (hb hby d5_0) rfl rfl k) ?_
  show OwnGo p e below s _ _ _ (s₁.setTop (mkF m 1 #[.val (.ref a)] [(.ref a)]))
  obtain ⟨T1, X1, e1, st1⟩ := getF X0 hx hZ hown (host := "") (Or.inl (w37 hw)) Via.refl e0 P0 (g := (mkF m 1 #[.val (.ref a)] [(.ref a)])) rfl rfl (hb hby d5_1)
  refine own_on st1 ?_
  show OwnGo p e below s _ _ _ (T1.setTop (mkF m 4 #[.val (.ref a)] [(.int o)]))
  exact own_retI X1 hx hlk Bd.returns (hb hby d5_4) e1 ⟨rfl, N0, rfl⟩ (by decide) (by decide)
theorem ef_6 (m : MethodId) (a : Addr)  : entryFrame m #[(.ref a)] 1 = mkF m 0 #[.val (.ref a)] [] := by first | (simp [entryFrame, mkF, argsToLocals, Value.category]; done) | rfl
def Q6 (Z : State) (a : Addr) (h0 : Heap) (n0 : Nat) (v_ : Option Value) (h_ : Heap) (L_ : List Loc) : Prop := v_ = some (.int (0 : Int32)) ∧ Fr n0 L_ ∧ h_ = h0
set_option maxRecDepth 65536 in
set_option maxHeartbeats 40000000 in
theorem rm6 (l : Launch) (Z : State) (a0 : Array Value) (hw : ∀ d ∈ tables_1, d.before a0 Z = true) (ws : List Jvm.Cond) (a : Addr) (h0 : Heap) (n0 : Nat) (Z0 : n0 ≤ h0.size) (P0 : Fld Z h0 a "com/example/orderly_lock/orderlylock/Operation$Kind" "readOnly" "Z" (.int (0 : Int32))) :
    MetFree l (⟨"com/example/orderly_lock/orderlylock/Operation$Kind", "readOnly", "()Z"⟩ : MethodName) (head1 (Jvm.Cond.code (⟨"com/example/orderly_lock/orderlylock/Operation$Kind", "readOnly", "()Z"⟩ : MethodName) prog_33_method_4_code 1 (some .boolean) :: ws) ({ frames := 0, cells := 0, slots := 0, locals := 0 } : Room)) (fun A_ U => A_ = #[(.ref a)] ∧ Z.Warmed39 U.vm ∧ U.heap = h0) (fun _ _ _ _ _ => True) (fun _ U_ o_ U'_ => ∃ v_ L_, o_ = .returned v_ ∧ Q6 Z a h0 n0 v_ U'_.heap L_ ∧ FrameEnd U_ o_ U'_ L_ ({ frames := 0, cells := 0, slots := 0, locals := 0 } : Room).cells ({ frames := 0, cells := 0, slots := 0, locals := 0 } : Room).slots) := by
  refine MetFree.of_bodySF (plainFor_of_name pn_3) hisR ?_
  intro p e s m args below meth c s₁ Bd hml0 hP hK
  obtain ⟨rfl, hZ, hh⟩ := hP
  have hx := Bd.exec
  have hby := Bd.bytes
  have hml : c.maxLocals = 1 := hml0
  have hown : s.vm.findClass "com/example/orderly_lock/orderlylock/Operation$Kind" = some m.cls := findClass_of_methodNamed Bd.named
  have hnm := (name_of_methodNamed Bd.named Bd.method).1
  have hlk : meth.locks = false := Bd.notSynchronized
  have X0 : Stand p l e ({ frames := 0, cells := 0, slots := 0, locals := 0 } : Room) s m #[(.ref a)] below meth c s₁ [] 0 0 := Stand.of_body Bd
  have e0 : s₁.heap = h0 := by rw [← hh, Bd.state]; rfl
  have N0 := Fr.nil n0
  have K0 : Keep h0 h0 [] := Keep.refl _ _
  refine own_cast (ef_6 m a) ?_
  show OwnGo p e below s (Q6 Z a h0 n0) ({ frames := 0, cells := 0, slots := 0, locals := 0 } : Room).cells ({ frames := 0, cells := 0, slots := 0, locals := 0 } : Room).slots (s₁.setTop (mkF m 0 #[.val (.ref a)] []))
  refine own_on (fun t k => XS.aloadN X0.here hx rfl (hb hby d6_0) rfl rfl k) ?_
  show OwnGo p e below s _ _ _ (s₁.setTop (mkF m 1 #[.val (.ref a)] [(.ref a)]))
  obtain ⟨T1, X1, e1, st1⟩ := getF X0 hx hZ hown (host := "") (Or.inl (w45 hw)) Via.refl e0 P0 (g := (mkF m 1 #[.val (.ref a)] [(.ref a)])) rfl rfl (hb hby d6_1)
  refine own_on st1 ?_
  show OwnGo p e below s _ _ _ (T1.setTop (mkF m 4 #[.val (.ref a)] [(.int (0 : Int32))]))
  exact own_retN X1 hx hlk (t := .boolean) Bd.returns (by simp) (hb hby d6_4) e1 ⟨rfl, N0, rfl⟩ (by decide) (by decide)
theorem ef_k0 (m : MethodId) (a : Addr)  : entryFrame m #[(.ref a)] 1 = mkF m 0 #[.val (.ref a)] [] := by first | (simp [entryFrame, mkF, argsToLocals, Value.category]; done) | rfl
def Qk0 (Z : State) (a : Addr) (t : Addr) (sm : Addr) (ks : ClassId) (kx : Addr) (h0 : Heap) (n0 : Nat) (v_ : Option Value) (h_ : Heap) (L_ : List Loc) : Prop := v_ = some (.ref kx) ∧ Fr n0 L_ ∧ h_ = h0
set_option maxRecDepth 65536 in
set_option maxHeartbeats 40000000 in
theorem rmk0 (l : Launch) (Z : State) (a0 : Array Value) (hw : ∀ d ∈ tables_1, d.before a0 Z = true) (ws : List Jvm.Cond) (a : Addr) (t : Addr) (sm : Addr) (ks : ClassId) (kx : Addr) (h0 : Heap) (n0 : Nat) (Z0 : n0 ≤ h0.size) (P0 : Old Z n0 h0) (P1 : Exa Z h0 a "com/example/orderly_lock/orderlylock/Operation$RestartLeases") (P2 : Fld Z h0 a "com/example/orderly_lock/orderlylock/Operation$RestartLeases" "ties" "Lcom/example/orderly_lock/orderlylock/LockTable$LeaseTies;" (.ref t)) (P3 : Exa Z h0 t "com/example/orderly_lock/orderlylock/LockTable$LeaseTies") (P4 : Fld Z h0 t "java/lang/Enum" "ordinal" "I" (.int (0 : Int32))) (P5 : Sta Z Z.heap "com/example/orderly_lock/orderlylock/Operation$1" "$SwitchMap$com$example$orderly_lock$orderlylock$LockTable$LeaseTies" "[I" (.ref sm)) (P6 : Arv Z Z.heap sm ks .int (2 : Int32) [(.int (1 : Int32)), (.int (2 : Int32))] (.int (0 : Int32))) (P7 : Sta Z Z.heap "com/example/orderly_lock/orderlylock/Operation$Kind" "RESTART_LEASES" "Lcom/example/orderly_lock/orderlylock/Operation$Kind;" (.ref kx)) :
    MetFree l (⟨"com/example/orderly_lock/orderlylock/Operation$RestartLeases", "kind", "()Lcom/example/orderly_lock/orderlylock/Operation$Kind;"⟩ : MethodName) (head1 (Jvm.Cond.code (⟨"com/example/orderly_lock/orderlylock/Operation$RestartLeases", "kind", "()Lcom/example/orderly_lock/orderlylock/Operation$Kind;"⟩ : MethodName) prog_40_method_3_code 1 (some (.object "com/example/orderly_lock/orderlylock/Operation$Kind")) :: ws) ({ frames := 1, cells := 0, slots := 0, locals := 13 } : Room)) (fun A_ U => A_ = #[(.ref a)] ∧ Z.Warmed39 U.vm ∧ U.heap = h0) (fun _ _ _ _ _ => True) (fun _ U_ o_ U'_ => ∃ v_ L_, o_ = .returned v_ ∧ Qk0 Z a t sm ks kx h0 n0 v_ U'_.heap L_ ∧ FrameEnd U_ o_ U'_ L_ ({ frames := 1, cells := 0, slots := 0, locals := 13 } : Room).cells ({ frames := 1, cells := 0, slots := 0, locals := 13 } : Room).slots) := by
  refine MetFree.of_bodySF (plainFor_of_name pn_1) hisR ?_
  intro p e s m args below meth c s₁ Bd hml0 hP hK
  obtain ⟨rfl, hZ, hh⟩ := hP
  have hx := Bd.exec
  have hby := Bd.bytes
  have hml : c.maxLocals = 1 := hml0
  have hown : s.vm.findClass "com/example/orderly_lock/orderlylock/Operation$RestartLeases" = some m.cls := findClass_of_methodNamed Bd.named
  have hnm := (name_of_methodNamed Bd.named Bd.method).1
  have hlk : meth.locks = false := Bd.notSynchronized
  have X0 : Stand p l e ({ frames := 1, cells := 0, slots := 0, locals := 13 } : Room) s m #[(.ref a)] below meth c s₁ [] 0 0 := Stand.of_body Bd
  have e0 : s₁.heap = h0 := by rw [← hh, Bd.state]; rfl
  have N0 := Fr.nil n0
  have K0 : Keep h0 h0 [] := Keep.refl _ _
  refine own_cast (ef_k0 m a) ?_
  show OwnGo p e below s (Qk0 Z a t sm ks kx h0 n0) ({ frames := 1, cells := 0, slots := 0, locals := 13 } : Room).cells ({ frames := 1, cells := 0, slots := 0, locals := 13 } : Room).slots (s₁.setTop (mkF m 0 #[.val (.ref a)] []))
  obtain ⟨T1, X1, e1, st1⟩ := getS2 X0 hx hZ hown (host := "") (Or.inl (w27 hw)) Via.refl e0 (P5.ext P0.2) (g := (mkF m 0 #[.val (.ref a)] [])) rfl (hb hby d4_0)
  refine own_on st1 ?_
  show OwnGo p e below s _ _ _ (T1.setTop (mkF m 3 #[.val (.ref a)] [(.ref sm)]))
  refine own_on (fun t k => XS.aloadN X1.here hx rfl (hb hby d4_3) rfl rfl k) ?_
  show OwnGo p e below s _ _ _ (T1.setTop (mkF m 4 #[.val (.ref a)] [(.ref a), (.ref sm)]))
  obtain ⟨T2, X2, e2, st2⟩ := getF X1 hx hZ hown (host := "") (Or.inl (w20 hw)) Via.refl e1 P2 (g := (mkF m 4 #[.val (.ref a)] [(.ref a), (.ref sm)])) rfl rfl (hb hby d4_4)
  refine own_on st2 ?_
  show OwnGo p e below s _ _ _ (T2.setTop (mkF m 7 #[.val (.ref a)] [(.ref t), (.ref sm)]))
  obtain ⟨cq3, kq3, q3a, q3b, q3c⟩ := isOf hZ e2 P3
  obtain ⟨_, _, ⟨T3, L3, k3, n3⟩, -, X3, ⟨Lc3, hQ3, l3, y3, z3⟩, st3⟩ := X2.virtualBackUp hx (x := (⟨"com/example/orderly_lock/orderlylock/LockTable$LeaseTies", "ordinal", "()I"⟩ : MethodName)) (y := (⟨"java/lang/Enum", "ordinal", "()I"⟩ : MethodName)) hown (mvT hZ (w30 hw)) (mvT hZ (w31 hw)) (mvT hZ (w32 hw)) (by decide) (mvT hZ (w34 hw)) (mvT hZ (w33 hw)) (backOf (W := 1) (rm5 l Z a0 hw [] t (0 : Int32) h0 n0 Z0 P4) hZ (w36 hw) (w35 hw) (by decide) (by decide)) q3a q3c (g := (mkF m 7 #[.val (.ref a)] [(.ref t), (.ref sm)])) rfl (by rw [hml]; rfl) (Steps.refl _) (argsL := []) (rest := [(.ref sm)]) (lenOf pd_1 rfl) rfl (by show 2 * 0 + _ ≤ _; exact Nat.le_of_eq rfl) (hb hby d4_7) (fun _ _ => ⟨rfl, e2, (by decide : 0 + 0 ≤ _), (by decide : 0 + 0 ≤ _)⟩)
  dsimp only [Pt.U, Pt.locs, Pt.cells, Pt.slots] at X3 l3 y3 z3 st3 hQ3
  subst l3 y3 z3
  obtain ⟨rfl, N3q, e3⟩ := hQ3
  have N3 := Fr.app N0 N3q
  refine own_tr st3 ?_
  show OwnGo p e below s _ _ _ (T3.setTop (mkF m 10 #[.val (.ref a)] [(.int (0 : Int32)), (.ref sm)]))
  have f4 : Arv Z h0 sm ks .int (2 : Int32) [(.int (1 : Int32)), (.int (2 : Int32))] (.int (0 : Int32)) := P6.ext P0.2
  obtain ⟨cl5, Ar5, q5, S5, M5, H5, G5⟩ := f4
  have hin5 : ¬ ((0 : Int32) < 0 ∨ cl5.slots.size ≤ ((0 : Int32)).toNatClampNeg) := inb_of S5 ⟨by decide, by decide⟩
  have hat5 : cl5.slots[((0 : Int32)).toNatClampNeg]? = some (.int (1 : Int32)) := Has.at H5 hin5 rfl
  refine own_on (X3.iaload hx (j := (0 : Int32)) (v := (.int (1 : Int32))) (by rw [e3]; exact Ar5.1) (State.isArrayOf_alike hZ.alike Ar5.2.1) Ar5.2.2 hin5 hat5 (g := (mkF m 10 #[.val (.ref a)] [(.int (0 : Int32)), (.ref sm)])) rfl rfl (hb hby d4_10)) ?_
  show OwnGo p e below s _ _ _ (T3.setTop (mkF m 11 #[.val (.ref a)] [(.int (1 : Int32))]))
  refine own_on (fun t k => own_lookup1 (pc0 := 11) (pc' := 46) X3 hx rfl rfl (hb hby d4_11) rfl (by decide) (by decide) (by decide) (by decide) k) ?_
  show OwnGo p e below s _ _ _ (T3.setTop (mkF m 46 #[.val (.ref a)] []))
  obtain ⟨T6, X6, e6, st6⟩ := getS2 X3 hx hZ hown (host := "") (Or.inl (w39 hw)) Via.refl e3 (P7.ext P0.2) (g := (mkF m 46 #[.val (.ref a)] [])) rfl (hb hby d4_46)
  refine own_on st6 ?_
  show OwnGo p e below s _ _ _ (T6.setTop (mkF m 49 #[.val (.ref a)] [(.ref kx)]))
  refine own_on (fun t k => XS.goto X6.here hx rfl (pc0 := 49) (pc' := 55) rfl (hb hby d4_49) (by decide) (by decide) k) ?_
  show OwnGo p e below s _ _ _ (T6.setTop (mkF m 55 #[.val (.ref a)] [(.ref kx)]))
  exact own_retA X6 hx hlk Bd.returns rfl rfl (hb hby d4_55) e6 ⟨rfl, N3, rfl⟩ (by decide) (by decide)
theorem ef_k1 (m : MethodId) (a : Addr)  : entryFrame m #[(.ref a)] 1 = mkF m 0 #[.val (.ref a)] [] := by first | (simp [entryFrame, mkF, argsToLocals, Value.category]; done) | rfl
def Qk1 (Z : State) (a : Addr) (t : Addr) (sm : Addr) (ks : ClassId) (kx : Addr) (h0 : Heap) (n0 : Nat) (v_ : Option Value) (h_ : Heap) (L_ : List Loc) : Prop := v_ = some (.ref kx) ∧ Fr n0 L_ ∧ h_ = h0
set_option maxRecDepth 65536 in
set_option maxHeartbeats 40000000 in
theorem rmk1 (l : Launch) (Z : State) (a0 : Array Value) (hw : ∀ d ∈ tables_1, d.before a0 Z = true) (ws : List Jvm.Cond) (a : Addr) (t : Addr) (sm : Addr) (ks : ClassId) (kx : Addr) (h0 : Heap) (n0 : Nat) (Z0 : n0 ≤ h0.size) (P0 : Old Z n0 h0) (P1 : Exa Z h0 a "com/example/orderly_lock/orderlylock/Operation$RestartLeases") (P2 : Fld Z h0 a "com/example/orderly_lock/orderlylock/Operation$RestartLeases" "ties" "Lcom/example/orderly_lock/orderlylock/LockTable$LeaseTies;" (.ref t)) (P3 : Exa Z h0 t "com/example/orderly_lock/orderlylock/LockTable$LeaseTies") (P4 : Fld Z h0 t "java/lang/Enum" "ordinal" "I" (.int (1 : Int32))) (P5 : Sta Z Z.heap "com/example/orderly_lock/orderlylock/Operation$1" "$SwitchMap$com$example$orderly_lock$orderlylock$LockTable$LeaseTies" "[I" (.ref sm)) (P6 : Arv Z Z.heap sm ks .int (2 : Int32) [(.int (1 : Int32)), (.int (2 : Int32))] (.int (0 : Int32))) (P7 : Sta Z Z.heap "com/example/orderly_lock/orderlylock/Operation$Kind" "RESTART_LEASES_ENDING_TIES_IN_TURN" "Lcom/example/orderly_lock/orderlylock/Operation$Kind;" (.ref kx)) :
    MetFree l (⟨"com/example/orderly_lock/orderlylock/Operation$RestartLeases", "kind", "()Lcom/example/orderly_lock/orderlylock/Operation$Kind;"⟩ : MethodName) (head1 (Jvm.Cond.code (⟨"com/example/orderly_lock/orderlylock/Operation$RestartLeases", "kind", "()Lcom/example/orderly_lock/orderlylock/Operation$Kind;"⟩ : MethodName) prog_40_method_3_code 1 (some (.object "com/example/orderly_lock/orderlylock/Operation$Kind")) :: ws) ({ frames := 1, cells := 0, slots := 0, locals := 13 } : Room)) (fun A_ U => A_ = #[(.ref a)] ∧ Z.Warmed39 U.vm ∧ U.heap = h0) (fun _ _ _ _ _ => True) (fun _ U_ o_ U'_ => ∃ v_ L_, o_ = .returned v_ ∧ Qk1 Z a t sm ks kx h0 n0 v_ U'_.heap L_ ∧ FrameEnd U_ o_ U'_ L_ ({ frames := 1, cells := 0, slots := 0, locals := 13 } : Room).cells ({ frames := 1, cells := 0, slots := 0, locals := 13 } : Room).slots) := by
  refine MetFree.of_bodySF (plainFor_of_name pn_1) hisR ?_
  intro p e s m args below meth c s₁ Bd hml0 hP hK
  obtain ⟨rfl, hZ, hh⟩ := hP
  have hx := Bd.exec
  have hby := Bd.bytes
  have hml : c.maxLocals = 1 := hml0
  have hown : s.vm.findClass "com/example/orderly_lock/orderlylock/Operation$RestartLeases" = some m.cls := findClass_of_methodNamed Bd.named
  have hnm := (name_of_methodNamed Bd.named Bd.method).1
  have hlk : meth.locks = false := Bd.notSynchronized
  have X0 : Stand p l e ({ frames := 1, cells := 0, slots := 0, locals := 13 } : Room) s m #[(.ref a)] below meth c s₁ [] 0 0 := Stand.of_body Bd
  have e0 : s₁.heap = h0 := by rw [← hh, Bd.state]; rfl
  have N0 := Fr.nil n0
  have K0 : Keep h0 h0 [] := Keep.refl _ _
  refine own_cast (ef_k1 m a) ?_
  show OwnGo p e below s (Qk1 Z a t sm ks kx h0 n0) ({ frames := 1, cells := 0, slots := 0, locals := 13 } : Room).cells ({ frames := 1, cells := 0, slots := 0, locals := 13 } : Room).slots (s₁.setTop (mkF m 0 #[.val (.ref a)] []))
  obtain ⟨T1, X1, e1, st1⟩ := getS2 X0 hx hZ hown (host := "") (Or.inl (w27 hw)) Via.refl e0 (P5.ext P0.2) (g := (mkF m 0 #[.val (.ref a)] [])) rfl (hb hby d4_0)
  refine own_on st1 ?_
  show OwnGo p e below s _ _ _ (T1.setTop (mkF m 3 #[.val (.ref a)] [(.ref sm)]))
  refine own_on (fun t k => XS.aloadN X1.here hx rfl (hb hby d4_3) rfl rfl k) ?_
  show OwnGo p e below s _ _ _ (T1.setTop (mkF m 4 #[.val (.ref a)] [(.ref a), (.ref sm)]))
  obtain ⟨T2, X2, e2, st2⟩ := getF X1 hx hZ hown (host := "") (Or.inl (w20 hw)) Via.refl e1 P2 (g := (mkF m 4 #[.val (.ref a)] [(.ref a), (.ref sm)])) rfl rfl (hb hby d4_4)
  refine own_on st2 ?_
  show OwnGo p e below s _ _ _ (T2.setTop (mkF m 7 #[.val (.ref a)] [(.ref t), (.ref sm)]))
  obtain ⟨cq3, kq3, q3a, q3b, q3c⟩ := isOf hZ e2 P3
  obtain ⟨_, _, ⟨T3, L3, k3, n3⟩, -, X3, ⟨Lc3, hQ3, l3, y3, z3⟩, st3⟩ := X2.virtualBackUp hx (x := (⟨"com/example/orderly_lock/orderlylock/LockTable$LeaseTies", "ordinal", "()I"⟩ : MethodName)) (y := (⟨"java/lang/Enum", "ordinal", "()I"⟩ : MethodName)) hown (mvT hZ (w30 hw)) (mvT hZ (w31 hw)) (mvT hZ (w32 hw)) (by decide) (mvT hZ (w34 hw)) (mvT hZ (w33 hw)) (backOf (W := 1) (rm5 l Z a0 hw [] t (1 : Int32) h0 n0 Z0 P4) hZ (w36 hw) (w35 hw) (by decide) (by decide)) q3a q3c (g := (mkF m 7 #[.val (.ref a)] [(.ref t), (.ref sm)])) rfl (by rw [hml]; rfl) (Steps.refl _) (argsL := []) (rest := [(.ref sm)]) (lenOf pd_1 rfl) rfl (by show 2 * 0 + _ ≤ _; exact Nat.le_of_eq rfl) (hb hby d4_7) (fun _ _ => ⟨rfl, e2, (by decide : 0 + 0 ≤ _), (by decide : 0 + 0 ≤ _)⟩)
  dsimp only [Pt.U, Pt.locs, Pt.cells, Pt.slots] at X3 l3 y3 z3 st3 hQ3
  subst l3 y3 z3
  obtain ⟨rfl, N3q, e3⟩ := hQ3
  have N3 := Fr.app N0 N3q
  refine own_tr st3 ?_
  show OwnGo p e below s _ _ _ (T3.setTop (mkF m 10 #[.val (.ref a)] [(.int (1 : Int32)), (.ref sm)]))
  have f4 : Arv Z h0 sm ks .int (2 : Int32) [(.int (1 : Int32)), (.int (2 : Int32))] (.int (0 : Int32)) := P6.ext P0.2
  obtain ⟨cl5, Ar5, q5, S5, M5, H5, G5⟩ := f4
  have hin5 : ¬ ((1 : Int32) < 0 ∨ cl5.slots.size ≤ ((1 : Int32)).toNatClampNeg) := inb_of S5 ⟨by decide, by decide⟩
  have hat5 : cl5.slots[((1 : Int32)).toNatClampNeg]? = some (.int (2 : Int32)) := Has.at H5 hin5 rfl
  refine own_on (X3.iaload hx (j := (1 : Int32)) (v := (.int (2 : Int32))) (by rw [e3]; exact Ar5.1) (State.isArrayOf_alike hZ.alike Ar5.2.1) Ar5.2.2 hin5 hat5 (g := (mkF m 10 #[.val (.ref a)] [(.int (1 : Int32)), (.ref sm)])) rfl rfl (hb hby d4_10)) ?_
  show OwnGo p e below s _ _ _ (T3.setTop (mkF m 11 #[.val (.ref a)] [(.int (2 : Int32))]))
  refine own_on (fun t k => own_lookup2 (pc0 := 11) (pc' := 52) X3 hx rfl rfl (hb hby d4_11) rfl (by decide) (by decide) (by decide) (by decide) (by decide) k) ?_
  show OwnGo p e below s _ _ _ (T3.setTop (mkF m 52 #[.val (.ref a)] []))
  obtain ⟨T6, X6, e6, st6⟩ := getS2 X3 hx hZ hown (host := "") (Or.inl (w51 hw)) Via.refl e3 (P7.ext P0.2) (g := (mkF m 52 #[.val (.ref a)] [])) rfl (hb hby d4_52)
  refine own_on st6 ?_
  show OwnGo p e below s _ _ _ (T6.setTop (mkF m 55 #[.val (.ref a)] [(.ref kx)]))
  exact own_retA X6 hx hlk Bd.returns rfl rfl (hb hby d4_55) e6 ⟨rfl, N3, rfl⟩ (by decide) (by decide)
theorem ef_0 (m : MethodId) (fl : Int32)  : entryFrame m #[(.int fl)] maxLocals = mkF m 0 #[.val (.int fl), .unset, .unset, .unset, .unset] [] := by first | (simp [entryFrame, mkF, argsToLocals, Value.category, maxLocals]; done) | rfl
def Q0 (Z : State) (fl : Int32) (et : Addr) (ei : Addr) (kt : Addr) (ki : Addr) (sm : Addr) (ks : ClassId) (h0 : Heap) (n0 : Nat) (v_ : Option Value) (h_ : Heap) (L_ : List Loc) : Prop := v_ = some (.int (1 : Int32)) ∧ Fr n0 L_ ∧ Keep h0 h_ []
set_option maxRecDepth 65536 in
set_option maxHeartbeats 40000000 in
theorem rm0 (l : Launch) (Z : State) (a0 : Array Value) (hw : ∀ d ∈ tables_1, d.before a0 Z = true) (ws : List Jvm.Cond) (fl : Int32) (et : Addr) (ei : Addr) (kt : Addr) (ki : Addr) (sm : Addr) (ks : ClassId) (h0 : Heap) (n0 : Nat) (Z0 : n0 ≤ h0.size) (P0 : Old Z n0 h0) (P1 : Sta Z Z.heap "com/example/orderly_lock/orderlylock/LockTable$LeaseTies" "END_TOGETHER" "Lcom/example/orderly_lock/orderlylock/LockTable$LeaseTies;" (.ref et)) (P2 : Sta Z Z.heap "com/example/orderly_lock/orderlylock/LockTable$LeaseTies" "END_IN_TURN" "Lcom/example/orderly_lock/orderlylock/LockTable$LeaseTies;" (.ref ei)) (P3 : Sta Z Z.heap "com/example/orderly_lock/orderlylock/Operation$Kind" "RESTART_LEASES" "Lcom/example/orderly_lock/orderlylock/Operation$Kind;" (.ref kt)) (P4 : Sta Z Z.heap "com/example/orderly_lock/orderlylock/Operation$Kind" "RESTART_LEASES_ENDING_TIES_IN_TURN" "Lcom/example/orderly_lock/orderlylock/Operation$Kind;" (.ref ki)) (P5 : Sta Z Z.heap "com/example/orderly_lock/orderlylock/Operation$1" "$SwitchMap$com$example$orderly_lock$orderlylock$LockTable$LeaseTies" "[I" (.ref sm)) (P6 : Arv Z Z.heap sm ks .int (2 : Int32) [(.int (1 : Int32)), (.int (2 : Int32))] (.int (0 : Int32))) (P7 : Exa Z Z.heap et "com/example/orderly_lock/orderlylock/LockTable$LeaseTies") (P8 : Exa Z Z.heap ei "com/example/orderly_lock/orderlylock/LockTable$LeaseTies") (P9 : Exa Z Z.heap kt "com/example/orderly_lock/orderlylock/Operation$Kind") (P10 : Exa Z Z.heap ki "com/example/orderly_lock/orderlylock/Operation$Kind") (P11 : Fld Z Z.heap et "java/lang/Enum" "ordinal" "I" (.int (0 : Int32))) (P12 : Fld Z Z.heap ei "java/lang/Enum" "ordinal" "I" (.int (1 : Int32))) (P13 : Fld Z Z.heap kt "com/example/orderly_lock/orderlylock/Operation$Kind" "readOnly" "Z" (.int (0 : Int32))) (P14 : Fld Z Z.heap ki "com/example/orderly_lock/orderlylock/Operation$Kind" "readOnly" "Z" (.int (0 : Int32))) :
    MetFree l x (head1 (Jvm.Cond.code x code maxLocals ret :: ws) room_1) (fun A_ U => A_ = #[(.int fl)] ∧ Z.Warmed39 U.vm ∧ U.heap = h0) (fun _ _ _ _ _ => True) (fun _ U_ o_ U'_ => ∃ v_ L_, o_ = .returned v_ ∧ Q0 Z fl et ei kt ki sm ks h0 n0 v_ U'_.heap L_ ∧ FrameEnd U_ o_ U'_ L_ room_1.cells room_1.slots) := by
  refine MetFree.of_bodySF (plainFor_of_name pn_4) hisR ?_
  intro p e s m args below meth c s₁ Bd hml0 hP hK
  obtain ⟨rfl, hZ, hh⟩ := hP
  have hx := Bd.exec
  have hby := Bd.bytes
  have hml : c.maxLocals = 5 := hml0
  have hown : s.vm.findClass "com/example/orderly_lock/orderlylock/RestartLeasesKindPinLaw" = some m.cls := findClass_of_methodNamed Bd.named
  have hnm := (name_of_methodNamed Bd.named Bd.method).1
  have hlk : meth.locks = false := Bd.notSynchronized
  have X0 : Stand p l e room_1 s m #[(.int fl)] below meth c s₁ [] 0 0 := Stand.of_body Bd
  have e0 : s₁.heap = h0 := by rw [← hh, Bd.state]; rfl
  have N0 := Fr.nil n0
  have K0 : Keep h0 h0 [] := Keep.refl _ _
  refine own_cast (ef_0 m fl) ?_
  show OwnGo p e below s (Q0 Z fl et ei kt ki sm ks h0 n0) room_1.cells room_1.slots (s₁.setTop (mkF m 0 #[.val (.int fl), .unset, .unset, .unset, .unset] []))
  refine own_on (fun t k => XS.iloadN X0.here hx rfl (hb hby at_0) rfl k) ?_
  show OwnGo p e below s _ _ _ (s₁.setTop (mkF m 1 #[.val (.int fl), .unset, .unset, .unset, .unset] [(.int fl)]))
  refine own_on (fun t k => XS.iconst X0.here hx rfl (hb hby at_1) k) ?_
  show OwnGo p e below s _ _ _ (s₁.setTop (mkF m 2 #[.val (.int fl), .unset, .unset, .unset, .unset] [(.int (1 : Int32)), (.int fl)]))
  refine own_on (fun t k => XS.iand X0.here hx rfl (hb hby at_2) rfl k) ?_
  show OwnGo p e below s _ _ _ (s₁.setTop (mkF m 3 #[.val (.int fl), .unset, .unset, .unset, .unset] [(.int (fl &&& (1 : Int32)))]))
  by_cases f0 : (fl &&& (1 : Int32)) = (0 : Int32)
  · refine own_on (fun t k => XS.ifYes X0.here hx rfl (pc0 := 3) (pc' := 10) rfl (hb hby at_3) rfl ((if0 _ _).trans (teq f0).1) (by decide) (by decide) k) ?_
    show OwnGo p e below s _ _ _ (s₁.setTop (mkF m 10 #[.val (.int fl), .unset, .unset, .unset, .unset] []))
    refine own_on (fun t k => XS.iconst X0.here hx rfl (hb hby at_10) k) ?_
    show OwnGo p e below s _ _ _ (s₁.setTop (mkF m 11 #[.val (.int fl), .unset, .unset, .unset, .unset] [(.int (0 : Int32))]))
    refine own_on (fun t k => XS.istoreN X0.here hx rfl (hb hby at_11) rfl (l' := #[.val (.int fl), .val (.int (0 : Int32)), .unset, .unset, .unset]) rfl k) ?_
    show OwnGo p e below s _ _ _ (s₁.setTop (mkF m 12 #[.val (.int fl), .val (.int (0 : Int32)), .unset, .unset, .unset] []))
    refine own_on (fun t k => XS.iloadN X0.here hx rfl (hb hby at_12) rfl k) ?_
    show OwnGo p e below s _ _ _ (s₁.setTop (mkF m 13 #[.val (.int fl), .val (.int (0 : Int32)), .unset, .unset, .unset] [(.int (0 : Int32))]))
    refine own_on (fun t k => XS.ifYes X0.here hx rfl (pc0 := 13) (pc' := 22) rfl (hb hby at_13) rfl ((if0 _ _).trans (teq (by decide : (0 : Int32) = (0 : Int32))).1) (by decide) (by decide) k) ?_
    show OwnGo p e below s _ _ _ (s₁.setTop (mkF m 22 #[.val (.int fl), .val (.int (0 : Int32)), .unset, .unset, .unset] []))
    obtain ⟨T1, X1, e1, st1⟩ := getS2 X0 hx hZ hown (host := "") (Or.inl (w0 hw)) Via.refl e0 (P1.ext P0.2) (g := (mkF m 22 #[.val (.int fl), .val (.int (0 : Int32)), .unset, .unset, .unset] [])) rfl (hb hby at_22)
    refine own_on st1 ?_
    show OwnGo p e below s _ _ _ (T1.setTop (mkF m 25 #[.val (.int fl), .val (.int (0 : Int32)), .unset, .unset, .unset] [(.ref et)]))
    refine own_on (fun t k => XS.astoreN X1.here hx rfl (hb hby at_25) rfl rfl (l' := #[.val (.int fl), .val (.int (0 : Int32)), .val (.ref et), .unset, .unset]) rfl k) ?_
    show OwnGo p e below s _ _ _ (T1.setTop (mkF m 26 #[.val (.int fl), .val (.int (0 : Int32)), .val (.ref et), .unset, .unset] []))
    refine own_on (fun t k => XS.iloadN X1.here hx rfl (hb hby at_26) rfl k) ?_
    show OwnGo p e below s _ _ _ (T1.setTop (mkF m 27 #[.val (.int fl), .val (.int (0 : Int32)), .val (.ref et), .unset, .unset] [(.int (0 : Int32))]))
    refine own_on (fun t k => XS.ifYes X1.here hx rfl (pc0 := 27) (pc' := 36) rfl (hb hby at_27) rfl ((if0 _ _).trans (teq (by decide : (0 : Int32) = (0 : Int32))).1) (by decide) (by decide) k) ?_
    show OwnGo p e below s _ _ _ (T1.setTop (mkF m 36 #[.val (.int fl), .val (.int (0 : Int32)), .val (.ref et), .unset, .unset] []))
    obtain ⟨T2, X2, e2, st2⟩ := getS2 X1 hx hZ hown (host := "") (Or.inl (w3 hw)) Via.refl e1 (P3.ext P0.2) (g := (mkF m 36 #[.val (.int fl), .val (.int (0 : Int32)), .val (.ref et), .unset, .unset] [])) rfl (hb hby at_36)
    refine own_on st2 ?_
    show OwnGo p e below s _ _ _ (T2.setTop (mkF m 39 #[.val (.int fl), .val (.int (0 : Int32)), .val (.ref et), .unset, .unset] [(.ref kt)]))
    refine own_on (fun t k => XS.astoreN X2.here hx rfl (hb hby at_39) rfl rfl (l' := #[.val (.int fl), .val (.int (0 : Int32)), .val (.ref et), .val (.ref kt), .unset]) rfl k) ?_
    show OwnGo p e below s _ _ _ (T2.setTop (mkF m 40 #[.val (.int fl), .val (.int (0 : Int32)), .val (.ref et), .val (.ref kt), .unset] []))
    obtain ⟨T3, h3, X3, e3, E3, A3, D3, u3, st3⟩ := newO X2 hx hZ hown (w6 hw) (w7 hw) (w8 hw) e2 (g := (mkF m 40 #[.val (.int fl), .val (.int (0 : Int32)), .val (.ref et), .val (.ref kt), .unset] [])) rfl (hb hby at_40) (by decide) (by decide)
    obtain ⟨b3, g3⟩ : ∃ z, z = h0.size := ⟨_, rfl⟩
    rw [← g3] at A3 D3 st3
    have g4 : n0 ≤ b3 := Nat.le_trans Z0 (Nat.le_of_eq g3.symm)
    have z5 : h0.size ≤ b3 := Nat.le_trans K0.1 (Nat.le_of_eq g3.symm)
    have Z3 : n0 ≤ h3.size := Nat.le_trans Z0 E3.1
    have K3 : Keep h0 h3 [] := K0.ext E3
    have F3_ties : Fld Z h3 b3 "com/example/orderly_lock/orderlylock/Operation$RestartLeases" "ties" "Lcom/example/orderly_lock/orderlylock/LockTable$LeaseTies;" .null := D3 (Or.inr (w21 hw)) (ty := (.object "com/example/orderly_lock/orderlylock/LockTable$LeaseTies")) (by decide)
    refine own_on st3 ?_
    show OwnGo p e below s _ _ _ (T3.setTop (mkF m 43 #[.val (.int fl), .val (.int (0 : Int32)), .val (.ref et), .val (.ref kt), .unset] [(.ref b3)]))
    refine own_on (fun t k => XS.dup X3.here hx rfl (hb hby at_43) rfl rfl k) ?_
    show OwnGo p e below s _ _ _ (T3.setTop (mkF m 44 #[.val (.int fl), .val (.int (0 : Int32)), .val (.ref et), .val (.ref kt), .unset] [(.ref b3), (.ref b3)]))
    refine own_on (fun t k => XS.aloadN X3.here hx rfl (hb hby at_44) rfl rfl k) ?_
    show OwnGo p e below s _ _ _ (T3.setTop (mkF m 45 #[.val (.int fl), .val (.int (0 : Int32)), .val (.ref et), .val (.ref kt), .unset] [(.ref et), (.ref b3), (.ref b3)]))
    obtain ⟨_, _, ⟨T6, L6, k6, n6⟩, -, X6, ⟨Lc6, hQ6, l6, y6, z6⟩, st6⟩ := X3.specialBack hx (y := (⟨"com/example/orderly_lock/orderlylock/Operation$RestartLeases", "<init>", "(Lcom/example/orderly_lock/orderlylock/LockTable$LeaseTies;)V"⟩ : MethodName)) rfl hown (mvT hZ (w9 hw)) (mvT hZ (w10 hw)) (mvT hZ (w11 hw)) (by decide) (backOf (W := 1) (rm1 l Z a0 hw [] b3 et .null h3 n0 Z3 A3 F3_ties g4) hZ (w11 hw) (w8 hw) (by decide) (by decide)) (g := (mkF m 45 #[.val (.int fl), .val (.int (0 : Int32)), .val (.ref et), .val (.ref kt), .unset] [(.ref et), (.ref b3), (.ref b3)])) rfl (by rw [hml]; rfl) (Steps.refl _) (a := b3) (argsL := [(.ref et)]) (rest := [(.ref b3)]) (lenOf pd_2 rfl) rfl (by show 2 * 0 + _ ≤ _; exact Nat.le_of_eq rfl) (hb hby at_45) (fun _ _ => ⟨rfl, e3, (by decide : 1 + 0 ≤ _), (by decide : 1 + 0 ≤ _)⟩)
    dsimp only [Pt.U, Pt.locs, Pt.cells, Pt.slots] at X6 l6 y6 z6 st6 hQ6
    subst l6 y6 z6
    obtain ⟨rfl, N6q, K6q, c6_0, c6_1⟩ := hQ6
    have N6 := Fr.app N0 N6q
    have Z6 : n0 ≤ T6.heap.size := Nat.le_trans Z3 K6q.1
    have K6 : Keep h0 T6.heap [] := K3.trans K6q (allS (P := fun x => x ∈ [] ∨ h0.size ≤ x) (Or.inr z5) all0)
    refine own_tr st6 ?_
    show OwnGo p e below s _ _ _ (T6.setTop (mkF m 48 #[.val (.int fl), .val (.int (0 : Int32)), .val (.ref et), .val (.ref kt), .unset] [(.ref b3)]))
    have f7 : Old Z n0 h3 := P0.ext E3
    have f8 : Old Z n0 T6.heap := f7.keep K6q (allS g4 all0)
    have f9 : Exa Z T6.heap et "com/example/orderly_lock/orderlylock/LockTable$LeaseTies" := P7.ext f8.2
    have f10 : Fld Z T6.heap et "java/lang/Enum" "ordinal" "I" (.int (0 : Int32)) := P11.ext f8.2
    obtain ⟨cq11, kq11, q11a, q11b, q11c⟩ := isOf hZ rfl c6_0
    obtain ⟨_, _, ⟨T11, L11, k11, n11⟩, -, X11, ⟨Lc11, hQ11, l11, y11, z11⟩, st11⟩ := X6.virtualBack hx (y := (⟨"com/example/orderly_lock/orderlylock/Operation$RestartLeases", "kind", "()Lcom/example/orderly_lock/orderlylock/Operation$Kind;"⟩ : MethodName)) (z := (⟨"com/example/orderly_lock/orderlylock/Operation$RestartLeases", "kind", "()Lcom/example/orderly_lock/orderlylock/Operation$Kind;"⟩ : MethodName)) hown (mvT hZ (w22 hw)) (mvT hZ (w23 hw)) (notFace_of_selects (args := #[]) (mvT hZ (w25 hw))) (mvT hZ (w25 hw)) (mvT hZ (w24 hw)) (by decide) (backOf (W := 0) (rmk0 l Z a0 hw [] b3 et sm ks kt T6.heap n0 Z6 f8 c6_0 c6_1 f9 f10 P5 P6 P3) hZ (w26 hw) (w8 hw) (by decide) (by decide)) q11a q11c (g := (mkF m 48 #[.val (.int fl), .val (.int (0 : Int32)), .val (.ref et), .val (.ref kt), .unset] [(.ref b3)])) rfl (by rw [hml]; rfl) (Steps.refl _) (argsL := []) (rest := []) (lenOf pd_3 rfl) rfl (by show 2 * 0 + _ ≤ _; exact Nat.le_of_eq rfl) (hb hby at_48) (fun _ _ => ⟨rfl, rfl, (by decide : 1 + 0 ≤ _), (by decide : 1 + 0 ≤ _)⟩)
    dsimp only [Pt.U, Pt.locs, Pt.cells, Pt.slots] at X11 l11 y11 z11 st11 hQ11
    subst l11 y11 z11
    obtain ⟨rfl, N11q, e11⟩ := hQ11
    have N11 := Fr.app N6 N11q
    refine own_tr st11 ?_
    show OwnGo p e below s _ _ _ (T11.setTop (mkF m 51 #[.val (.int fl), .val (.int (0 : Int32)), .val (.ref et), .val (.ref kt), .unset] [(.ref kt)]))
    refine own_on (fun t k => XS.astore X11.here hx rfl (hb hby at_51) rfl rfl (l' := #[.val (.int fl), .val (.int (0 : Int32)), .val (.ref et), .val (.ref kt), .val (.ref kt)]) rfl k) ?_
    show OwnGo p e below s _ _ _ (T11.setTop (mkF m 53 #[.val (.int fl), .val (.int (0 : Int32)), .val (.ref et), .val (.ref kt), .val (.ref kt)] []))
    refine own_on (fun t k => XS.aload X11.here hx rfl (hb hby at_53) rfl rfl k) ?_
    show OwnGo p e below s _ _ _ (T11.setTop (mkF m 55 #[.val (.int fl), .val (.int (0 : Int32)), .val (.ref et), .val (.ref kt), .val (.ref kt)] [(.ref kt)]))
    refine own_on (fun t k => XS.aloadN X11.here hx rfl (hb hby at_55) rfl rfl k) ?_
    show OwnGo p e below s _ _ _ (T11.setTop (mkF m 56 #[.val (.int fl), .val (.int (0 : Int32)), .val (.ref et), .val (.ref kt), .val (.ref kt)] [(.ref kt), (.ref kt)]))
    refine own_on (fun t k => Jvm.RoadKit.acmp (g := (mkF m 56 #[.val (.int fl), .val (.int (0 : Int32)), .val (.ref et), .val (.ref kt), .val (.ref kt)] [(.ref kt), (.ref kt)])) X11 hx rfl rfl rfl (pc0 := 56) (pc' := 59) (same := true) rfl (hb hby at_56) rfl (decide_eq_true rfl) (by decide) (by decide) k) ?_
    show OwnGo p e below s _ _ _ (T11.setTop (mkF m 59 #[.val (.int fl), .val (.int (0 : Int32)), .val (.ref et), .val (.ref kt), .val (.ref kt)] []))
    refine own_on (fun t k => XS.aload X11.here hx rfl (hb hby at_59) rfl rfl k) ?_
    show OwnGo p e below s _ _ _ (T11.setTop (mkF m 61 #[.val (.int fl), .val (.int (0 : Int32)), .val (.ref et), .val (.ref kt), .val (.ref kt)] [(.ref kt)]))
    have f12 : Exa Z T6.heap kt "com/example/orderly_lock/orderlylock/Operation$Kind" := P9.ext f8.2
    have f13 : Fld Z T6.heap kt "com/example/orderly_lock/orderlylock/Operation$Kind" "readOnly" "Z" (.int (0 : Int32)) := P13.ext f8.2
    obtain ⟨cq14, kq14, q14a, q14b, q14c⟩ := isOf hZ e11 f12
    obtain ⟨_, _, ⟨T14, L14, k14, n14⟩, -, X14, ⟨Lc14, hQ14, l14, y14, z14⟩, st14⟩ := X11.virtualBack hx (y := (⟨"com/example/orderly_lock/orderlylock/Operation$Kind", "readOnly", "()Z"⟩ : MethodName)) (z := (⟨"com/example/orderly_lock/orderlylock/Operation$Kind", "readOnly", "()Z"⟩ : MethodName)) hown (mvT hZ (w40 hw)) (mvT hZ (w41 hw)) (notFace_of_selects (args := #[]) (mvT hZ (w43 hw))) (mvT hZ (w43 hw)) (mvT hZ (w42 hw)) (by decide) (backOf (W := 0) (rm6 l Z a0 hw [] kt T6.heap n0 Z6 f13) hZ (w44 hw) (w4 hw) (by decide) (by decide)) q14a q14c (g := (mkF m 61 #[.val (.int fl), .val (.int (0 : Int32)), .val (.ref et), .val (.ref kt), .val (.ref kt)] [(.ref kt)])) rfl (by rw [hml]; rfl) (Steps.refl _) (argsL := []) (rest := []) (lenOf pd_4 rfl) rfl (by show 2 * 0 + _ ≤ _; exact Nat.le_of_eq rfl) (hb hby at_61) (fun _ _ => ⟨rfl, e11, (by decide : 1 + 0 ≤ _), (by decide : 1 + 0 ≤ _)⟩)
    dsimp only [Pt.U, Pt.locs, Pt.cells, Pt.slots] at X14 l14 y14 z14 st14 hQ14
    subst l14 y14 z14
    obtain ⟨rfl, N14q, e14⟩ := hQ14
    have N14 := Fr.app N11 N14q
    refine own_tr st14 ?_
    show OwnGo p e below s _ _ _ (T14.setTop (mkF m 64 #[.val (.int fl), .val (.int (0 : Int32)), .val (.ref et), .val (.ref kt), .val (.ref kt)] [(.int (0 : Int32))]))
    refine own_on (fun t k => XS.ifNo X14.here hx rfl (hb hby at_64) rfl ((if0 _ _).trans (teq (by decide : (0 : Int32) = (0 : Int32))).2) k) ?_
    show OwnGo p e below s _ _ _ (T14.setTop (mkF m 67 #[.val (.int fl), .val (.int (0 : Int32)), .val (.ref et), .val (.ref kt), .val (.ref kt)] []))
    refine own_on (fun t k => XS.iconst X14.here hx rfl (hb hby at_67) k) ?_
    show OwnGo p e below s _ _ _ (T14.setTop (mkF m 68 #[.val (.int fl), .val (.int (0 : Int32)), .val (.ref et), .val (.ref kt), .val (.ref kt)] [(.int (1 : Int32))]))
    refine own_on (fun t k => XS.goto X14.here hx rfl (pc0 := 68) (pc' := 72) rfl (hb hby at_68) (by decide) (by decide) k) ?_
    show OwnGo p e below s _ _ _ (T14.setTop (mkF m 72 #[.val (.int fl), .val (.int (0 : Int32)), .val (.ref et), .val (.ref kt), .val (.ref kt)] [(.int (1 : Int32))]))
    exact own_retN X14 hx hlk (t := .boolean) Bd.returns (by simp) (hb hby at_72) e14 ⟨rfl, N14, K6⟩ (by decide) (by decide)
  · refine own_on (fun t k => XS.ifNo X0.here hx rfl (hb hby at_3) rfl ((if0 _ _).trans (feq f0).1) k) ?_
    show OwnGo p e below s _ _ _ (s₁.setTop (mkF m 6 #[.val (.int fl), .unset, .unset, .unset, .unset] []))
    refine own_on (fun t k => XS.iconst X0.here hx rfl (hb hby at_6) k) ?_
    show OwnGo p e below s _ _ _ (s₁.setTop (mkF m 7 #[.val (.int fl), .unset, .unset, .unset, .unset] [(.int (1 : Int32))]))
    refine own_on (fun t k => XS.goto X0.here hx rfl (pc0 := 7) (pc' := 11) rfl (hb hby at_7) (by decide) (by decide) k) ?_
    show OwnGo p e below s _ _ _ (s₁.setTop (mkF m 11 #[.val (.int fl), .unset, .unset, .unset, .unset] [(.int (1 : Int32))]))
    refine own_on (fun t k => XS.istoreN X0.here hx rfl (hb hby at_11) rfl (l' := #[.val (.int fl), .val (.int (1 : Int32)), .unset, .unset, .unset]) rfl k) ?_
    show OwnGo p e below s _ _ _ (s₁.setTop (mkF m 12 #[.val (.int fl), .val (.int (1 : Int32)), .unset, .unset, .unset] []))
    refine own_on (fun t k => XS.iloadN X0.here hx rfl (hb hby at_12) rfl k) ?_
    show OwnGo p e below s _ _ _ (s₁.setTop (mkF m 13 #[.val (.int fl), .val (.int (1 : Int32)), .unset, .unset, .unset] [(.int (1 : Int32))]))
    refine own_on (fun t k => XS.ifNo X0.here hx rfl (hb hby at_13) rfl ((if0 _ _).trans (feq (by decide : ¬ ((1 : Int32) = (0 : Int32)))).1) k) ?_
    show OwnGo p e below s _ _ _ (s₁.setTop (mkF m 16 #[.val (.int fl), .val (.int (1 : Int32)), .unset, .unset, .unset] []))
    obtain ⟨T15, X15, e15, st15⟩ := getS2 X0 hx hZ hown (host := "") (Or.inl (w47 hw)) Via.refl e0 (P2.ext P0.2) (g := (mkF m 16 #[.val (.int fl), .val (.int (1 : Int32)), .unset, .unset, .unset] [])) rfl (hb hby at_16)
    refine own_on st15 ?_
    show OwnGo p e below s _ _ _ (T15.setTop (mkF m 19 #[.val (.int fl), .val (.int (1 : Int32)), .unset, .unset, .unset] [(.ref ei)]))
    refine own_on (fun t k => XS.goto X15.here hx rfl (pc0 := 19) (pc' := 25) rfl (hb hby at_19) (by decide) (by decide) k) ?_
    show OwnGo p e below s _ _ _ (T15.setTop (mkF m 25 #[.val (.int fl), .val (.int (1 : Int32)), .unset, .unset, .unset] [(.ref ei)]))
    refine own_on (fun t k => XS.astoreN X15.here hx rfl (hb hby at_25) rfl rfl (l' := #[.val (.int fl), .val (.int (1 : Int32)), .val (.ref ei), .unset, .unset]) rfl k) ?_
    show OwnGo p e below s _ _ _ (T15.setTop (mkF m 26 #[.val (.int fl), .val (.int (1 : Int32)), .val (.ref ei), .unset, .unset] []))
    refine own_on (fun t k => XS.iloadN X15.here hx rfl (hb hby at_26) rfl k) ?_
    show OwnGo p e below s _ _ _ (T15.setTop (mkF m 27 #[.val (.int fl), .val (.int (1 : Int32)), .val (.ref ei), .unset, .unset] [(.int (1 : Int32))]))
    refine own_on (fun t k => XS.ifNo X15.here hx rfl (hb hby at_27) rfl ((if0 _ _).trans (feq (by decide : ¬ ((1 : Int32) = (0 : Int32)))).1) k) ?_
    show OwnGo p e below s _ _ _ (T15.setTop (mkF m 30 #[.val (.int fl), .val (.int (1 : Int32)), .val (.ref ei), .unset, .unset] []))
    obtain ⟨T16, X16, e16, st16⟩ := getS2 X15 hx hZ hown (host := "") (Or.inl (w49 hw)) Via.refl e15 (P4.ext P0.2) (g := (mkF m 30 #[.val (.int fl), .val (.int (1 : Int32)), .val (.ref ei), .unset, .unset] [])) rfl (hb hby at_30)
    refine own_on st16 ?_
    show OwnGo p e below s _ _ _ (T16.setTop (mkF m 33 #[.val (.int fl), .val (.int (1 : Int32)), .val (.ref ei), .unset, .unset] [(.ref ki)]))
    refine own_on (fun t k => XS.goto X16.here hx rfl (pc0 := 33) (pc' := 39) rfl (hb hby at_33) (by decide) (by decide) k) ?_
    show OwnGo p e below s _ _ _ (T16.setTop (mkF m 39 #[.val (.int fl), .val (.int (1 : Int32)), .val (.ref ei), .unset, .unset] [(.ref ki)]))
    refine own_on (fun t k => XS.astoreN X16.here hx rfl (hb hby at_39) rfl rfl (l' := #[.val (.int fl), .val (.int (1 : Int32)), .val (.ref ei), .val (.ref ki), .unset]) rfl k) ?_
    show OwnGo p e below s _ _ _ (T16.setTop (mkF m 40 #[.val (.int fl), .val (.int (1 : Int32)), .val (.ref ei), .val (.ref ki), .unset] []))
    obtain ⟨T17, h17, X17, e17, E17, A17, D17, u17, st17⟩ := newO X16 hx hZ hown (w6 hw) (w7 hw) (w8 hw) e16 (g := (mkF m 40 #[.val (.int fl), .val (.int (1 : Int32)), .val (.ref ei), .val (.ref ki), .unset] [])) rfl (hb hby at_40) (by decide) (by decide)
    obtain ⟨b17, g17⟩ : ∃ z, z = h0.size := ⟨_, rfl⟩
    rw [← g17] at A17 D17 st17
    have g18 : n0 ≤ b17 := Nat.le_trans Z0 (Nat.le_of_eq g17.symm)
    have z19 : h0.size ≤ b17 := Nat.le_trans K0.1 (Nat.le_of_eq g17.symm)
    have Z17 : n0 ≤ h17.size := Nat.le_trans Z0 E17.1
    have K17 : Keep h0 h17 [] := K0.ext E17
    have F17_ties : Fld Z h17 b17 "com/example/orderly_lock/orderlylock/Operation$RestartLeases" "ties" "Lcom/example/orderly_lock/orderlylock/LockTable$LeaseTies;" .null := D17 (Or.inr (w21 hw)) (ty := (.object "com/example/orderly_lock/orderlylock/LockTable$LeaseTies")) (by decide)
    refine own_on st17 ?_
    show OwnGo p e below s _ _ _ (T17.setTop (mkF m 43 #[.val (.int fl), .val (.int (1 : Int32)), .val (.ref ei), .val (.ref ki), .unset] [(.ref b17)]))
    refine own_on (fun t k => XS.dup X17.here hx rfl (hb hby at_43) rfl rfl k) ?_
    show OwnGo p e below s _ _ _ (T17.setTop (mkF m 44 #[.val (.int fl), .val (.int (1 : Int32)), .val (.ref ei), .val (.ref ki), .unset] [(.ref b17), (.ref b17)]))
    refine own_on (fun t k => XS.aloadN X17.here hx rfl (hb hby at_44) rfl rfl k) ?_
    show OwnGo p e below s _ _ _ (T17.setTop (mkF m 45 #[.val (.int fl), .val (.int (1 : Int32)), .val (.ref ei), .val (.ref ki), .unset] [(.ref ei), (.ref b17), (.ref b17)]))
    obtain ⟨_, _, ⟨T20, L20, k20, n20⟩, -, X20, ⟨Lc20, hQ20, l20, y20, z20⟩, st20⟩ := X17.specialBack hx (y := (⟨"com/example/orderly_lock/orderlylock/Operation$RestartLeases", "<init>", "(Lcom/example/orderly_lock/orderlylock/LockTable$LeaseTies;)V"⟩ : MethodName)) rfl hown (mvT hZ (w9 hw)) (mvT hZ (w10 hw)) (mvT hZ (w11 hw)) (by decide) (backOf (W := 1) (rm1 l Z a0 hw [] b17 ei .null h17 n0 Z17 A17 F17_ties g18) hZ (w11 hw) (w8 hw) (by decide) (by decide)) (g := (mkF m 45 #[.val (.int fl), .val (.int (1 : Int32)), .val (.ref ei), .val (.ref ki), .unset] [(.ref ei), (.ref b17), (.ref b17)])) rfl (by rw [hml]; rfl) (Steps.refl _) (a := b17) (argsL := [(.ref ei)]) (rest := [(.ref b17)]) (lenOf pd_2 rfl) rfl (by show 2 * 0 + _ ≤ _; exact Nat.le_of_eq rfl) (hb hby at_45) (fun _ _ => ⟨rfl, e17, (by decide : 1 + 0 ≤ _), (by decide : 1 + 0 ≤ _)⟩)
    dsimp only [Pt.U, Pt.locs, Pt.cells, Pt.slots] at X20 l20 y20 z20 st20 hQ20
    subst l20 y20 z20
    obtain ⟨rfl, N20q, K20q, c20_0, c20_1⟩ := hQ20
    have N20 := Fr.app N0 N20q
    have Z20 : n0 ≤ T20.heap.size := Nat.le_trans Z17 K20q.1
    have K20 : Keep h0 T20.heap [] := K17.trans K20q (allS (P := fun x => x ∈ [] ∨ h0.size ≤ x) (Or.inr z19) all0)
    refine own_tr st20 ?_
    show OwnGo p e below s _ _ _ (T20.setTop (mkF m 48 #[.val (.int fl), .val (.int (1 : Int32)), .val (.ref ei), .val (.ref ki), .unset] [(.ref b17)]))
    have f21 : Old Z n0 h17 := P0.ext E17
    have f22 : Old Z n0 T20.heap := f21.keep K20q (allS g18 all0)
    have f23 : Exa Z T20.heap ei "com/example/orderly_lock/orderlylock/LockTable$LeaseTies" := P8.ext f22.2
    have f24 : Fld Z T20.heap ei "java/lang/Enum" "ordinal" "I" (.int (1 : Int32)) := P12.ext f22.2
    obtain ⟨cq25, kq25, q25a, q25b, q25c⟩ := isOf hZ rfl c20_0
    obtain ⟨_, _, ⟨T25, L25, k25, n25⟩, -, X25, ⟨Lc25, hQ25, l25, y25, z25⟩, st25⟩ := X20.virtualBack hx (y := (⟨"com/example/orderly_lock/orderlylock/Operation$RestartLeases", "kind", "()Lcom/example/orderly_lock/orderlylock/Operation$Kind;"⟩ : MethodName)) (z := (⟨"com/example/orderly_lock/orderlylock/Operation$RestartLeases", "kind", "()Lcom/example/orderly_lock/orderlylock/Operation$Kind;"⟩ : MethodName)) hown (mvT hZ (w22 hw)) (mvT hZ (w23 hw)) (notFace_of_selects (args := #[]) (mvT hZ (w25 hw))) (mvT hZ (w25 hw)) (mvT hZ (w24 hw)) (by decide) (backOf (W := 0) (rmk1 l Z a0 hw [] b17 ei sm ks ki T20.heap n0 Z20 f22 c20_0 c20_1 f23 f24 P5 P6 P4) hZ (w26 hw) (w8 hw) (by decide) (by decide)) q25a q25c (g := (mkF m 48 #[.val (.int fl), .val (.int (1 : Int32)), .val (.ref ei), .val (.ref ki), .unset] [(.ref b17)])) rfl (by rw [hml]; rfl) (Steps.refl _) (argsL := []) (rest := []) (lenOf pd_3 rfl) rfl (by show 2 * 0 + _ ≤ _; exact Nat.le_of_eq rfl) (hb hby at_48) (fun _ _ => ⟨rfl, rfl, (by decide : 1 + 0 ≤ _), (by decide : 1 + 0 ≤ _)⟩)
    dsimp only [Pt.U, Pt.locs, Pt.cells, Pt.slots] at X25 l25 y25 z25 st25 hQ25
    subst l25 y25 z25
    obtain ⟨rfl, N25q, e25⟩ := hQ25
    have N25 := Fr.app N20 N25q
    refine own_tr st25 ?_
    show OwnGo p e below s _ _ _ (T25.setTop (mkF m 51 #[.val (.int fl), .val (.int (1 : Int32)), .val (.ref ei), .val (.ref ki), .unset] [(.ref ki)]))
    refine own_on (fun t k => XS.astore X25.here hx rfl (hb hby at_51) rfl rfl (l' := #[.val (.int fl), .val (.int (1 : Int32)), .val (.ref ei), .val (.ref ki), .val (.ref ki)]) rfl k) ?_
    show OwnGo p e below s _ _ _ (T25.setTop (mkF m 53 #[.val (.int fl), .val (.int (1 : Int32)), .val (.ref ei), .val (.ref ki), .val (.ref ki)] []))
    refine own_on (fun t k => XS.aload X25.here hx rfl (hb hby at_53) rfl rfl k) ?_
    show OwnGo p e below s _ _ _ (T25.setTop (mkF m 55 #[.val (.int fl), .val (.int (1 : Int32)), .val (.ref ei), .val (.ref ki), .val (.ref ki)] [(.ref ki)]))
    refine own_on (fun t k => XS.aloadN X25.here hx rfl (hb hby at_55) rfl rfl k) ?_
    show OwnGo p e below s _ _ _ (T25.setTop (mkF m 56 #[.val (.int fl), .val (.int (1 : Int32)), .val (.ref ei), .val (.ref ki), .val (.ref ki)] [(.ref ki), (.ref ki)]))
    refine own_on (fun t k => Jvm.RoadKit.acmp (g := (mkF m 56 #[.val (.int fl), .val (.int (1 : Int32)), .val (.ref ei), .val (.ref ki), .val (.ref ki)] [(.ref ki), (.ref ki)])) X25 hx rfl rfl rfl (pc0 := 56) (pc' := 59) (same := true) rfl (hb hby at_56) rfl (decide_eq_true rfl) (by decide) (by decide) k) ?_
    show OwnGo p e below s _ _ _ (T25.setTop (mkF m 59 #[.val (.int fl), .val (.int (1 : Int32)), .val (.ref ei), .val (.ref ki), .val (.ref ki)] []))
    refine own_on (fun t k => XS.aload X25.here hx rfl (hb hby at_59) rfl rfl k) ?_
    show OwnGo p e below s _ _ _ (T25.setTop (mkF m 61 #[.val (.int fl), .val (.int (1 : Int32)), .val (.ref ei), .val (.ref ki), .val (.ref ki)] [(.ref ki)]))
    have f26 : Exa Z T20.heap ki "com/example/orderly_lock/orderlylock/Operation$Kind" := P10.ext f22.2
    have f27 : Fld Z T20.heap ki "com/example/orderly_lock/orderlylock/Operation$Kind" "readOnly" "Z" (.int (0 : Int32)) := P14.ext f22.2
    obtain ⟨cq28, kq28, q28a, q28b, q28c⟩ := isOf hZ e25 f26
    obtain ⟨_, _, ⟨T28, L28, k28, n28⟩, -, X28, ⟨Lc28, hQ28, l28, y28, z28⟩, st28⟩ := X25.virtualBack hx (y := (⟨"com/example/orderly_lock/orderlylock/Operation$Kind", "readOnly", "()Z"⟩ : MethodName)) (z := (⟨"com/example/orderly_lock/orderlylock/Operation$Kind", "readOnly", "()Z"⟩ : MethodName)) hown (mvT hZ (w40 hw)) (mvT hZ (w41 hw)) (notFace_of_selects (args := #[]) (mvT hZ (w43 hw))) (mvT hZ (w43 hw)) (mvT hZ (w42 hw)) (by decide) (backOf (W := 0) (rm6 l Z a0 hw [] ki T20.heap n0 Z20 f27) hZ (w44 hw) (w4 hw) (by decide) (by decide)) q28a q28c (g := (mkF m 61 #[.val (.int fl), .val (.int (1 : Int32)), .val (.ref ei), .val (.ref ki), .val (.ref ki)] [(.ref ki)])) rfl (by rw [hml]; rfl) (Steps.refl _) (argsL := []) (rest := []) (lenOf pd_4 rfl) rfl (by show 2 * 0 + _ ≤ _; exact Nat.le_of_eq rfl) (hb hby at_61) (fun _ _ => ⟨rfl, e25, (by decide : 1 + 0 ≤ _), (by decide : 1 + 0 ≤ _)⟩)
    dsimp only [Pt.U, Pt.locs, Pt.cells, Pt.slots] at X28 l28 y28 z28 st28 hQ28
    subst l28 y28 z28
    obtain ⟨rfl, N28q, e28⟩ := hQ28
    have N28 := Fr.app N25 N28q
    refine own_tr st28 ?_
    show OwnGo p e below s _ _ _ (T28.setTop (mkF m 64 #[.val (.int fl), .val (.int (1 : Int32)), .val (.ref ei), .val (.ref ki), .val (.ref ki)] [(.int (0 : Int32))]))
    refine own_on (fun t k => XS.ifNo X28.here hx rfl (hb hby at_64) rfl ((if0 _ _).trans (teq (by decide : (0 : Int32) = (0 : Int32))).2) k) ?_
    show OwnGo p e below s _ _ _ (T28.setTop (mkF m 67 #[.val (.int fl), .val (.int (1 : Int32)), .val (.ref ei), .val (.ref ki), .val (.ref ki)] []))
    refine own_on (fun t k => XS.iconst X28.here hx rfl (hb hby at_67) k) ?_
    show OwnGo p e below s _ _ _ (T28.setTop (mkF m 68 #[.val (.int fl), .val (.int (1 : Int32)), .val (.ref ei), .val (.ref ki), .val (.ref ki)] [(.int (1 : Int32))]))
    refine own_on (fun t k => XS.goto X28.here hx rfl (pc0 := 68) (pc' := 72) rfl (hb hby at_68) (by decide) (by decide) k) ?_
    show OwnGo p e below s _ _ _ (T28.setTop (mkF m 72 #[.val (.int fl), .val (.int (1 : Int32)), .val (.ref ei), .val (.ref ki), .val (.ref ki)] [(.int (1 : Int32))]))
    exact own_retN X28 hx hlk (t := .boolean) Bd.returns (by simp) (hb hby at_72) e28 ⟨rfl, N28, K20⟩ (by decide) (by decide)
set_option maxRecDepth 65536 in
set_option maxHeartbeats 40000000 in
theorem comes_1 {Post : Tables → Env → Array Value → State → Outcome → State → Prop} (hpost : ∀ tb e args s v u, (limb_1_1.after args s (.returned v) u = true ∧ limb_1_2.after args s (.returned v) u = true ∧ True) → FrameEnd s (.returned v) u (Jvm.fieldLocs frame_1_writes args s ++ Jvm.arrayLocs frame_1_arrays args s ++ Jvm.staticLocs frame_1_statics s) 16 128 → Post tb e args s (.returned v) u) :
    ArmFor flags0 classFile x code maxLocals ret World_1 tables_1 room_1 Calls_1 rest_1 Pre_1 Post := by
  intro l hfl _ _ p e ha hc hk s m args below hf hA hF happ hP
  obtain ⟨hcalls, hrest, hpre⟩ := hP
  obtain ⟨-, -, -, hnamed, -, -, -, hat⟩ := (Spec.applies_iff hf).mp happ
  obtain ⟨hg, hn⟩ := and_e (Cond.before_iff.mp (show (Jvm.Cond.and given_1 narrow_1).before args s = true from hpre))
  obtain ⟨gc, gr0⟩ := and_e hg
  have gi0 := gr0
  obtain ⟨w_0, rfl⟩ : ∃ w_0 : Value, args = #[w_0] := by
    have hs : args.size = 1 := by simpa [Cond.value, given_1] using gc
    obtain ⟨L⟩ := args
    match L, hs with
    | [w_0], _ => exact ⟨w_0, rfl⟩
  have hw := fun d (hd : d ∈ tables_1) => atoms_spec (ws := Jvm.Cond.code x code maxLocals ret :: tables_1) hat d (List.mem_cons_of_mem _ hd)
  have hfit : Fit s := fun {y c} hc i hi => by
    obtain ⟨ha, rfl⟩ := Array.getElem?_eq_some_iff.mp hc
    have q := List.all_eq_true.mp ((Array.all_eq_true_iff_forall_mem.mp hF) _ (Array.getElem_mem ha)) i (List.mem_range.mpr hi)
    simpa [Array.getElem?_eq_getElem hi] using q
  obtain ⟨i0, ei0⟩ := is_v gi0
  obtain rfl : w_0 = (.int i0) := Option.some.inj ei0
  obtain ⟨n0, hn⟩ := and_e hn
  obtain ⟨n1, hn⟩ := and_e hn
  obtain ⟨n2, hn⟩ := and_e hn
  obtain ⟨n3, hn⟩ := and_e hn
  obtain ⟨n4, hn⟩ := and_e hn
  obtain ⟨n5, hn⟩ := and_e hn
  obtain ⟨n6, hn⟩ := and_e hn
  obtain ⟨n7, hn⟩ := and_e hn
  obtain ⟨n8, hn⟩ := and_e hn
  obtain ⟨n9, hn⟩ := and_e hn
  obtain ⟨n10, hn⟩ := and_e hn
  have n11 := hn
  obtain ⟨et, e_et⟩ := exa_v n0
  obtain ⟨kt, e_kt⟩ := exa_v n1
  obtain ⟨sm, e_sm⟩ := arr_v n2
  obtain ⟨ei, e_ei⟩ := exa_v n7
  obtain ⟨ki, e_ki⟩ := exa_v n8
  have Set := Sta.start e_et (Or.inr ⟨(w1 hw), (w2 hw)⟩)
  have Sei := Sta.start e_ei (Or.inr ⟨(w1 hw), (w48 hw)⟩)
  have Skt := Sta.start e_kt (Or.inr ⟨(w4 hw), (w5 hw)⟩)
  have Ski := Sta.start e_ki (Or.inr ⟨(w4 hw), (w50 hw)⟩)
  have Ssm := Sta.start e_sm (Or.inr ⟨(w28 hw), (w29 hw)⟩)
  obtain ⟨cl, A⟩ := Arr.start e_sm n2
  have V := own_two hfit A e_sm n3 n5 n10
  have Fet := Fld.start ((fld_at e_et).symm.trans (own_eqi n4))
  have Fkt := Fld.start ((fld_at e_kt).symm.trans (own_eqi n6))
  have Fei := Fld.start ((fld_at e_ei).symm.trans (own_eqi n9))
  have Fki := Fld.start ((fld_at e_ki).symm.trans (own_eqi n11))
  obtain ⟨n, o, h1, h2, h3, _, L, rfl, ⟨rfl, N, _⟩, hq⟩ := rm0 l s _ hw tables_1 i0 et ei kt ki sm cl.cls s.heap s.heap.size (Nat.le_refl _) (Old.start s) Set Sei Skt Ski Ssm V (Exa.start e_et n0) (Exa.start e_ei n7) (Exa.start e_kt n1) (Exa.start e_ki n8) Fet Fei Fkt Fki p e ha hc hk s m _ below hf ((Spec.applies_iff_loose hf).mp happ).1 ⟨rfl, State.Warmed39.refl s, rfl⟩ trivial
  refine ⟨n, _, h1, h2, h3, hpost _ _ _ _ _ _ ⟨Cond.after_iff.mpr rfl, Cond.after_iff.mpr (eq_i res_at (Term.int_eval (1)) rfl), trivial⟩ ⟨hq.1, hq.2.1, (hq.2.2.sift fun y hy => Or.inr (N y hy)).mono (by decide) (by decide)⟩⟩
theorem main_1_1 : Claimed_1_1 := comes_1 fun _ _ _ _ _ _ h hF => ⟨h.1, hF⟩
theorem main_1_2 : Claimed_1_2 := comes_1 fun _ _ _ _ _ _ h hF => ⟨h.2.1, hF⟩
end Jvm.Pilot.@@N@@
namespace Jvm.Pilot.@@N@@
open Jvm Jvm.ClassFile Sem Op Lib Jvm.Free Jvm.Stand Jvm.Pilot.@@N@@.Jvm.D
/-! MADE BY PROGRAM (witnessworld.py) out of the Statement's table words and the real class files: 17 classes; the members and pool entries that the words name. The judged class is class 1, her method 1. -/
namespace start1
open Jvm.ClassFile
def u (s : String) : CpInfo := .utf8 (stringToUtf16 s)
/-- a pool by its gaps: so many unusable entries, then the entry; so many at the end -/
def gap : Nat → List CpInfo → List CpInfo
  | 0, r => r
  | n + 1, r => .unusable :: gap n r
def poolList (es : List (Nat × CpInfo)) (last : Nat) : List CpInfo := es.foldr (fun e r => gap e.1 (e.2 :: r)) (gap last [])
def pool (es : List (Nat × CpInfo)) (last : Nat) : Array CpInfo := ⟨poolList es last⟩
def fileOf (pool : Array CpInfo) (this : Nat) (attrs : Array Attribute := #[]) (ms : Array MethodInfo := #[]) (fl : Nat := 33) (sup : Nat := 0) (ifs : Array Nat := #[]) (fds : Array FieldInfo := #[]) : ClassFile where
  minorVersion := 0
  majorVersion := 65
  constantPool := pool
  accessFlags := fl
  thisClass := this
  superClass := sup
  interfaces := ifs
  fields := fds
  methods := ms
  attributes := attrs
def plain (name : String) (sup : Option ClassId) : Class where
  name := name
  kind := .ordinary
  loader := none
  accessFlags := 33
  super := sup
  interfaces := #[]
  cf := none
  fields := #[]
  methods := #[]
  instanceTypes := #[]
  staticTypes := #[]
  resolved := #[]
  callSites := []
  init := .initialized
  statics := none
  mirror := none

def pool0 : Array CpInfo := pool [(5, u "<init>"), (0, u "()V"), (1, .class_ 10), (1, u "java/lang/Object")] 113

def k0c0 : Code := { maxStack := 0, maxLocals := 1, code := object_method_1_code, exceptionTable := #[], attributes := #[] }
def k0m0 : Method := { name := "<init>", desc := "()V", sig := { parameters := [], returnType := none }, accessFlags := 1, code := some k0c0 }
/-- java/lang/Object -/
def k0 : Class := { plain "java/lang/Object" none with
  accessFlags := 33
  interfaces := #[]
  cf := some (fileOf pool0 8 #[] #[{ accessFlags := 1, nameIndex := 5, descriptorIndex := 6, attributes := #[] }] 33 0 #[] #[])
  fields := #[]
  methods := #[k0m0]
  instanceTypes := #[]
  staticTypes := #[]
  resolved := Array.replicate 124 none
  statics := none }

def pool1 : Array CpInfo := pool [(2, .class_ 4), (1, u "java/lang/Object"), (0, u "<init>"), (0, u "()V"), (0, .fieldref 8 9), (0, .class_ 10), (0, .nameAndType 11 12), (0, u "com/example/orderly_lock/orderlylock/LockTable$LeaseTies"), (0, u "END_IN_TURN"), (0, u "Lcom/example/orderly_lock/orderlylock/LockTable$LeaseTies;"), (0, .fieldref 8 14), (0, .nameAndType 15 12), (0, u "END_TOGETHER"), (0, .fieldref 17 18), (0, .class_ 19), (0, .nameAndType 20 21), (0, u "com/example/orderly_lock/orderlylock/Operation$Kind"), (0, u "RESTART_LEASES_ENDING_TIES_IN_TURN"), (0, u "Lcom/example/orderly_lock/orderlylock/Operation$Kind;"), (0, .fieldref 17 23), (0, .nameAndType 24 21), (0, u "RESTART_LEASES"), (0, .class_ 26), (0, u "com/example/orderly_lock/orderlylock/Operation$RestartLeases"), (0, .methodref 25 28), (0, .nameAndType 5 29), (0, u "(Lcom/example/orderly_lock/orderlylock/LockTable$LeaseTies;)V"), (0, .methodref 25 31), (0, .nameAndType 32 33), (0, u "kind"), (0, u "()Lcom/example/orderly_lock/orderlylock/Operation$Kind;"), (0, .methodref 17 35), (0, .nameAndType 36 37), (0, u "readOnly"), (0, u "()Z"), (0, .class_ 39), (0, u "com/example/orderly_lock/orderlylock/RestartLeasesKindPinLaw"), (2, u "law"), (0, u "(I)Z")] 11

def k1m0 : Method := { name := "<init>", desc := "()V", sig := { parameters := [], returnType := none }, accessFlags := 1, code := none }
def k1c1 : Code := { maxStack := 3, maxLocals := 5, code := code, exceptionTable := #[], attributes := #[] }
def k1m1 : Method := { name := "law", desc := "(I)Z", sig := { parameters := [.int], returnType := some .boolean }, accessFlags := 9, code := some k1c1 }
/-- com/example/orderly_lock/orderlylock/RestartLeasesKindPinLaw -/
def k1 : Class := { plain "com/example/orderly_lock/orderlylock/RestartLeasesKindPinLaw" (some 0) with
  accessFlags := 49
  interfaces := #[]
  cf := some (fileOf pool1 38 #[] #[{ accessFlags := 1, nameIndex := 5, descriptorIndex := 6, attributes := #[] }, { accessFlags := 9, nameIndex := 42, descriptorIndex := 43, attributes := #[] }] 49 2 #[] #[])
  fields := #[]
  methods := #[k1m0, k1m1]
  instanceTypes := #[]
  staticTypes := #[]
  resolved := Array.replicate 55 none
  statics := none }

def pool2 : Array CpInfo := pool [(1, .class_ 2), (0, u "java/lang/constant/Constable"), (0, .class_ 4), (0, u "java/lang/Object")] 6

/-- java/lang/constant/Constable -/
def k2 : Class := { plain "java/lang/constant/Constable" (some 0) with
  accessFlags := 1537
  interfaces := #[]
  cf := some (fileOf pool2 1 #[] #[] 1537 3 #[] #[])
  fields := #[]
  methods := #[]
  instanceTypes := #[]
  staticTypes := #[]
  resolved := Array.replicate 11 none
  statics := none }

def pool3 : Array CpInfo := pool [(1, .class_ 2), (0, u "java/lang/Comparable"), (0, .class_ 4), (0, u "java/lang/Object")] 7

/-- java/lang/Comparable -/
def k3 : Class := { plain "java/lang/Comparable" (some 0) with
  accessFlags := 1537
  interfaces := #[]
  cf := some (fileOf pool3 1 #[] #[] 1537 3 #[] #[])
  fields := #[]
  methods := #[]
  instanceTypes := #[]
  staticTypes := #[]
  resolved := Array.replicate 12 none
  statics := none }

def pool4 : Array CpInfo := pool [(1, .class_ 2), (0, u "java/io/Serializable"), (0, .class_ 4), (0, u "java/lang/Object")] 2

/-- java/io/Serializable -/
def k4 : Class := { plain "java/io/Serializable" (some 0) with
  accessFlags := 1537
  interfaces := #[]
  cf := some (fileOf pool4 1 #[] #[] 1537 3 #[] #[])
  fields := #[]
  methods := #[]
  instanceTypes := #[]
  staticTypes := #[]
  resolved := Array.replicate 7 none
  statics := none }

def pool5 : Array CpInfo := pool [(2, .class_ 4), (1, u "java/lang/Enum"), (0, u "name"), (0, u "Ljava/lang/String;"), (0, .fieldref 2 8), (0, .nameAndType 9 10), (0, u "ordinal"), (0, u "I"), (1, .class_ 14), (1, u "java/lang/Object"), (4, u "hash"), (86, .class_ 108), (1, u "java/lang/Enum$EnumDesc"), (2, .class_ 112), (0, u "java/lang/constant/Constable"), (0, .class_ 114), (0, u "java/lang/Comparable"), (0, .class_ 116), (0, u "java/io/Serializable"), (9, u "()I")] 77

def k5c0 : Code := { maxStack := 1, maxLocals := 1, code := jdk_37_method_2_code, exceptionTable := #[], attributes := #[] }
def k5m0 : Method := { name := "ordinal", desc := "()I", sig := { parameters := [], returnType := some .int }, accessFlags := 17, code := some k5c0 }
/-- java/lang/Enum -/
def k5 : Class := { plain "java/lang/Enum" (some 0) with
  accessFlags := 1057
  interfaces := #[2, 3, 4]
  cf := some (fileOf pool5 2 #[.nestMembers #[106]] #[{ accessFlags := 17, nameIndex := 9, descriptorIndex := 126, attributes := #[] }] 1057 12 #[111, 113, 115] #[{ accessFlags := 18, nameIndex := 5, descriptorIndex := 6, attributes := #[] }, { accessFlags := 18, nameIndex := 9, descriptorIndex := 10, attributes := #[] }, { accessFlags := 2, nameIndex := 19, descriptorIndex := 10, attributes := #[] }])
  fields := #[{ name := "name", type := (.object "java/lang/String"), accessFlags := 18, slot := 0, constantValue := 0 }, { name := "ordinal", type := .int, accessFlags := 18, slot := 1, constantValue := 0 }, { name := "hash", type := .int, accessFlags := 2, slot := 2, constantValue := 0 }]
  methods := #[k5m0]
  instanceTypes := #[(.object "java/lang/String"), .int, .int]
  staticTypes := #[]
  resolved := Array.replicate 204 none
  statics := none }

def pool6 : Array CpInfo := pool [(1, .class_ 2), (0, u "com/example/orderly_lock/orderlylock/LockTable$LeaseTies"), (2, u "END_TOGETHER"), (0, u "Lcom/example/orderly_lock/orderlylock/LockTable$LeaseTies;"), (2, u "END_IN_TURN"), (2, u "$VALUES"), (0, u "[Lcom/example/orderly_lock/orderlylock/LockTable$LeaseTies;"), (6, .class_ 22), (1, u "java/lang/Enum"), (25, .class_ 49), (0, u "com/example/orderly_lock/orderlylock/LockTable")] 2

/-- com/example/orderly_lock/orderlylock/LockTable$LeaseTies -/
def k6 : Class := { plain "com/example/orderly_lock/orderlylock/LockTable$LeaseTies" (some 5) with
  accessFlags := 16433
  interfaces := #[]
  cf := some (fileOf pool6 1 #[.nestHost 48] #[] 16433 20 #[] #[{ accessFlags := 16409, nameIndex := 5, descriptorIndex := 6, attributes := #[] }, { accessFlags := 16409, nameIndex := 9, descriptorIndex := 6, attributes := #[] }, { accessFlags := 4122, nameIndex := 12, descriptorIndex := 13, attributes := #[] }])
  fields := #[{ name := "END_TOGETHER", type := (.object "com/example/orderly_lock/orderlylock/LockTable$LeaseTies"), accessFlags := 16409, slot := 0, constantValue := 0 }, { name := "END_IN_TURN", type := (.object "com/example/orderly_lock/orderlylock/LockTable$LeaseTies"), accessFlags := 16409, slot := 1, constantValue := 0 }, { name := "$VALUES", type := (.array (.object "com/example/orderly_lock/orderlylock/LockTable$LeaseTies")), accessFlags := 4122, slot := 2, constantValue := 0 }]
  methods := #[]
  instanceTypes := #[(.object "java/lang/String"), .int, .int]
  staticTypes := #[(.object "com/example/orderly_lock/orderlylock/LockTable$LeaseTies"), (.object "com/example/orderly_lock/orderlylock/LockTable$LeaseTies"), (.array (.object "com/example/orderly_lock/orderlylock/LockTable$LeaseTies"))]
  resolved := Array.replicate 52 none
  statics := some 0 }

def pool7 : Array CpInfo := pool [(1, .class_ 2), (0, u "com/example/orderly_lock/orderlylock/Operation$Kind"), (2, u "OPEN_SESSION"), (0, u "Lcom/example/orderly_lock/orderlylock/Operation$Kind;"), (2, u "KEEPALIVE"), (2, u "CLOSE_SESSION"), (2, u "ACQUIRE_WITHOUT_DELAY"), (2, u "RELEASE"), (2, u "WRITE_CONTENTS"), (2, u "READ_STATE"), (2, u "RESTART_LEASES_ENDING_TIES_IN_TURN"), (2, u "PEEK_STATE"), (2, u "READ_CONTENTS"), (2, u "ACQUIRE_OR_WAIT_WITHOUT_DELAY"), (2, u "ADVANCE"), (2, u "ACQUIRE"), (2, u "ACQUIRE_OR_WAIT"), (2, u "CONFIRM_LEADER"), (2, u "RESTART_LEASES"), (2, u "CANCEL_WAIT"), (2, u "BATCH"), (2, u "$VALUES"), (0, u "[Lcom/example/orderly_lock/orderlylock/Operation$Kind;"), (6, .class_ 70), (1, u "java/lang/Enum"), (8, u "tag"), (0, u "I"), (0, .fieldref 1 82), (0, .nameAndType 83 84), (0, u "readOnly"), (0, u "Z"), (2, u "reader"), (0, u "Lcom/example/orderly_lock/orderlylock/Operation$Reader;"), (73, u "()Z"), (13, .class_ 177), (0, u "com/example/orderly_lock/orderlylock/Operation")] 128

def k7c0 : Code := { maxStack := 1, maxLocals := 1, code := prog_33_method_4_code, exceptionTable := #[], attributes := #[] }
def k7m0 : Method := { name := "readOnly", desc := "()Z", sig := { parameters := [], returnType := some .boolean }, accessFlags := 0, code := some k7c0 }
/-- com/example/orderly_lock/orderlylock/Operation$Kind -/
def k7 : Class := { plain "com/example/orderly_lock/orderlylock/Operation$Kind" (some 5) with
  accessFlags := 16433
  interfaces := #[]
  cf := some (fileOf pool7 1 #[.nestHost 176] #[{ accessFlags := 0, nameIndex := 83, descriptorIndex := 162, attributes := #[] }] 16433 68 #[] #[{ accessFlags := 16409, nameIndex := 5, descriptorIndex := 6, attributes := #[] }, { accessFlags := 16409, nameIndex := 9, descriptorIndex := 6, attributes := #[] }, { accessFlags := 16409, nameIndex := 12, descriptorIndex := 6, attributes := #[] }, { accessFlags := 16409, nameIndex := 15, descriptorIndex := 6, attributes := #[] }, { accessFlags := 16409, nameIndex := 18, descriptorIndex := 6, attributes := #[] }, { accessFlags := 16409, nameIndex := 21, descriptorIndex := 6, attributes := #[] }, { accessFlags := 16409, nameIndex := 24, descriptorIndex := 6, attributes := #[] }, { accessFlags := 16409, nameIndex := 27, descriptorIndex := 6, attributes := #[] }, { accessFlags := 16409, nameIndex := 30, descriptorIndex := 6, attributes := #[] }, { accessFlags := 16409, nameIndex := 33, descriptorIndex := 6, attributes := #[] }, { accessFlags := 16409, nameIndex := 36, descriptorIndex := 6, attributes := #[] }, { accessFlags := 16409, nameIndex := 39, descriptorIndex := 6, attributes := #[] }, { accessFlags := 16409, nameIndex := 42, descriptorIndex := 6, attributes := #[] }, { accessFlags := 16409, nameIndex := 45, descriptorIndex := 6, attributes := #[] }, { accessFlags := 16409, nameIndex := 48, descriptorIndex := 6, attributes := #[] }, { accessFlags := 16409, nameIndex := 51, descriptorIndex := 6, attributes := #[] }, { accessFlags := 16409, nameIndex := 54, descriptorIndex := 6, attributes := #[] }, { accessFlags := 16409, nameIndex := 57, descriptorIndex := 6, attributes := #[] }, { accessFlags := 18, nameIndex := 79, descriptorIndex := 80, attributes := #[] }, { accessFlags := 18, nameIndex := 83, descriptorIndex := 84, attributes := #[] }, { accessFlags := 18, nameIndex := 87, descriptorIndex := 88, attributes := #[] }, { accessFlags := 4122, nameIndex := 60, descriptorIndex := 61, attributes := #[] }])
  fields := #[{ name := "OPEN_SESSION", type := (.object "com/example/orderly_lock/orderlylock/Operation$Kind"), accessFlags := 16409, slot := 0, constantValue := 0 }, { name := "KEEPALIVE", type := (.object "com/example/orderly_lock/orderlylock/Operation$Kind"), accessFlags := 16409, slot := 1, constantValue := 0 }, { name := "CLOSE_SESSION", type := (.object "com/example/orderly_lock/orderlylock/Operation$Kind"), accessFlags := 16409, slot := 2, constantValue := 0 }, { name := "ACQUIRE_WITHOUT_DELAY", type := (.object "com/example/orderly_lock/orderlylock/Operation$Kind"), accessFlags := 16409, slot := 3, constantValue := 0 }, { name := "RELEASE", type := (.object "com/example/orderly_lock/orderlylock/Operation$Kind"), accessFlags := 16409, slot := 4, constantValue := 0 }, { name := "WRITE_CONTENTS", type := (.object "com/example/orderly_lock/orderlylock/Operation$Kind"), accessFlags := 16409, slot := 5, constantValue := 0 }, { name := "READ_STATE", type := (.object "com/example/orderly_lock/orderlylock/Operation$Kind"), accessFlags := 16409, slot := 6, constantValue := 0 }, { name := "RESTART_LEASES_ENDING_TIES_IN_TURN", type := (.object "com/example/orderly_lock/orderlylock/Operation$Kind"), accessFlags := 16409, slot := 7, constantValue := 0 }, { name := "PEEK_STATE", type := (.object "com/example/orderly_lock/orderlylock/Operation$Kind"), accessFlags := 16409, slot := 8, constantValue := 0 }, { name := "READ_CONTENTS", type := (.object "com/example/orderly_lock/orderlylock/Operation$Kind"), accessFlags := 16409, slot := 9, constantValue := 0 }, { name := "ACQUIRE_OR_WAIT_WITHOUT_DELAY", type := (.object "com/example/orderly_lock/orderlylock/Operation$Kind"), accessFlags := 16409, slot := 10, constantValue := 0 }, { name := "ADVANCE", type := (.object "com/example/orderly_lock/orderlylock/Operation$Kind"), accessFlags := 16409, slot := 11, constantValue := 0 }, { name := "ACQUIRE", type := (.object "com/example/orderly_lock/orderlylock/Operation$Kind"), accessFlags := 16409, slot := 12, constantValue := 0 }, { name := "ACQUIRE_OR_WAIT", type := (.object "com/example/orderly_lock/orderlylock/Operation$Kind"), accessFlags := 16409, slot := 13, constantValue := 0 }, { name := "CONFIRM_LEADER", type := (.object "com/example/orderly_lock/orderlylock/Operation$Kind"), accessFlags := 16409, slot := 14, constantValue := 0 }, { name := "RESTART_LEASES", type := (.object "com/example/orderly_lock/orderlylock/Operation$Kind"), accessFlags := 16409, slot := 15, constantValue := 0 }, { name := "CANCEL_WAIT", type := (.object "com/example/orderly_lock/orderlylock/Operation$Kind"), accessFlags := 16409, slot := 16, constantValue := 0 }, { name := "BATCH", type := (.object "com/example/orderly_lock/orderlylock/Operation$Kind"), accessFlags := 16409, slot := 17, constantValue := 0 }, { name := "tag", type := .int, accessFlags := 18, slot := 3, constantValue := 0 }, { name := "readOnly", type := .boolean, accessFlags := 18, slot := 4, constantValue := 0 }, { name := "reader", type := (.object "com/example/orderly_lock/orderlylock/Operation$Reader"), accessFlags := 18, slot := 5, constantValue := 0 }, { name := "$VALUES", type := (.array (.object "com/example/orderly_lock/orderlylock/Operation$Kind")), accessFlags := 4122, slot := 18, constantValue := 0 }]
  methods := #[k7m0]
  instanceTypes := #[(.object "java/lang/String"), .int, .int, .int, .boolean, (.object "com/example/orderly_lock/orderlylock/Operation$Reader")]
  staticTypes := #[(.object "com/example/orderly_lock/orderlylock/Operation$Kind"), (.object "com/example/orderly_lock/orderlylock/Operation$Kind"), (.object "com/example/orderly_lock/orderlylock/Operation$Kind"), (.object "com/example/orderly_lock/orderlylock/Operation$Kind"), (.object "com/example/orderly_lock/orderlylock/Operation$Kind"), (.object "com/example/orderly_lock/orderlylock/Operation$Kind"), (.object "com/example/orderly_lock/orderlylock/Operation$Kind"), (.object "com/example/orderly_lock/orderlylock/Operation$Kind"), (.object "com/example/orderly_lock/orderlylock/Operation$Kind"), (.object "com/example/orderly_lock/orderlylock/Operation$Kind"), (.object "com/example/orderly_lock/orderlylock/Operation$Kind"), (.object "com/example/orderly_lock/orderlylock/Operation$Kind"), (.object "com/example/orderly_lock/orderlylock/Operation$Kind"), (.object "com/example/orderly_lock/orderlylock/Operation$Kind"), (.object "com/example/orderly_lock/orderlylock/Operation$Kind"), (.object "com/example/orderly_lock/orderlylock/Operation$Kind"), (.object "com/example/orderly_lock/orderlylock/Operation$Kind"), (.object "com/example/orderly_lock/orderlylock/Operation$Kind"), (.array (.object "com/example/orderly_lock/orderlylock/Operation$Kind"))]
  resolved := Array.replicate 306 none
  statics := some 1 }

def pool8 : Array CpInfo := pool [(1, .methodref 2 3), (0, .class_ 4), (0, .nameAndType 5 6), (0, u "java/lang/Object"), (0, u "<init>"), (0, u "()V"), (0, .class_ 8), (0, u "java/lang/Record")] 13

def k8c0 : Code := { maxStack := 1, maxLocals := 1, code := jdk_30_method_1_code, exceptionTable := #[], attributes := #[] }
def k8m0 : Method := { name := "<init>", desc := "()V", sig := { parameters := [], returnType := none }, accessFlags := 4, code := some k8c0 }
/-- java/lang/Record -/
def k8 : Class := { plain "java/lang/Record" (some 0) with
  accessFlags := 1057
  interfaces := #[]
  cf := some (fileOf pool8 7 #[] #[{ accessFlags := 4, nameIndex := 5, descriptorIndex := 6, attributes := #[] }] 1057 2 #[] #[])
  fields := #[]
  methods := #[k8m0]
  instanceTypes := #[]
  staticTypes := #[]
  resolved := Array.replicate 22 none
  statics := none }

def pool9 : Array CpInfo := pool [(2, .class_ 4), (1, u "com/example/orderly_lock/orderlylock/Operation"), (3, .class_ 10), (1, u "com/example/orderly_lock/orderlylock/Operation$Kind"), (1, u "I"), (29, .class_ 44), (1, u "com/example/orderly_lock/orderlylock/Operation$Reader"), (70, .class_ 116), (0, u "java/lang/Object"), (0, u "DONE"), (2, u "REFUSED"), (1, u "FAILED"), (22, .class_ 146), (0, u "com/example/orderly_lock/orderlylock/Operation$1"), (0, .class_ 148), (0, u "com/example/orderly_lock/orderlylock/Operation$ReadContents"), (0, .class_ 150), (0, u "com/example/orderly_lock/orderlylock/Operation$Batch"), (0, .class_ 152), (0, u "com/example/orderly_lock/orderlylock/Operation$ConfirmLeader"), (0, .class_ 154), (0, u "com/example/orderly_lock/orderlylock/Operation$PeekState"), (0, .class_ 156), (0, u "com/example/orderly_lock/orderlylock/Operation$Advance"), (0, .class_ 158), (0, u "com/example/orderly_lock/orderlylock/Operation$RestartLeases"), (0, .class_ 160), (0, u "com/example/orderly_lock/orderlylock/Operation$ReadState"), (0, .class_ 162), (0, u "com/example/orderly_lock/orderlylock/Operation$WriteContents"), (0, .class_ 164), (0, u "com/example/orderly_lock/orderlylock/Operation$Release"), (0, .class_ 166), (0, u "com/example/orderly_lock/orderlylock/Operation$CancelWait"), (0, .class_ 168), (0, u "com/example/orderly_lock/orderlylock/Operation$AcquireOrWait"), (0, .class_ 170), (0, u "com/example/orderly_lock/orderlylock/Operation$Acquire"), (0, .class_ 172), (0, u "com/example/orderly_lock/orderlylock/Operation$CloseSession"), (0, .class_ 174), (0, u "com/example/orderly_lock/orderlylock/Operation$Keepalive"), (0, .class_ 176), (0, u "com/example/orderly_lock/orderlylock/Operation$OpenSession")] 41

/-- com/example/orderly_lock/orderlylock/Operation -/
def k9 : Class := { plain "com/example/orderly_lock/orderlylock/Operation" (some 0) with
  accessFlags := 1536
  interfaces := #[]
  cf := some (fileOf pool9 2 #[.nestMembers #[145, 147, 149, 151, 153, 155, 157, 159, 161, 163, 165, 167, 169, 171, 173, 175, 42, 8]] #[] 1536 115 #[] #[{ accessFlags := 25, nameIndex := 117, descriptorIndex := 12, attributes := #[] }, { accessFlags := 25, nameIndex := 120, descriptorIndex := 12, attributes := #[] }, { accessFlags := 25, nameIndex := 122, descriptorIndex := 12, attributes := #[] }])
  fields := #[{ name := "DONE", type := .int, accessFlags := 25, slot := 0, constantValue := 0 }, { name := "REFUSED", type := .int, accessFlags := 25, slot := 1, constantValue := 0 }, { name := "FAILED", type := .int, accessFlags := 25, slot := 2, constantValue := 0 }]
  methods := #[]
  instanceTypes := #[]
  staticTypes := #[.int, .int, .int]
  resolved := Array.replicate 218 none
  statics := none }

def pool10 : Array CpInfo := pool [(1, .methodref 2 3), (0, .class_ 4), (0, .nameAndType 5 6), (0, u "java/lang/Record"), (0, u "<init>"), (0, u "()V"), (0, .fieldref 8 9), (0, .class_ 10), (0, .nameAndType 11 12), (0, u "com/example/orderly_lock/orderlylock/Operation$RestartLeases"), (0, u "ties"), (0, u "Lcom/example/orderly_lock/orderlylock/LockTable$LeaseTies;"), (1, .class_ 16), (1, u "com/example/orderly_lock/orderlylock/LockTable$LeaseTies"), (3, u "(Lcom/example/orderly_lock/orderlylock/LockTable$LeaseTies;)V"), (0, .fieldref 22 23), (0, .class_ 24), (0, .nameAndType 25 26), (0, u "com/example/orderly_lock/orderlylock/Operation$1"), (0, u "$SwitchMap$com$example$orderly_lock$orderlylock$LockTable$LeaseTies"), (0, u "[I"), (0, .methodref 14 28), (0, .nameAndType 29 30), (0, u "ordinal"), (0, u "()I"), (5, .fieldref 37 38), (0, .class_ 39), (0, .nameAndType 40 41), (0, u "com/example/orderly_lock/orderlylock/Operation$Kind"), (0, u "RESTART_LEASES"), (0, u "Lcom/example/orderly_lock/orderlylock/Operation$Kind;"), (0, .fieldref 37 43), (0, .nameAndType 44 41), (0, u "RESTART_LEASES_ENDING_TIES_IN_TURN"), (28, .class_ 74), (0, u "com/example/orderly_lock/orderlylock/Operation"), (3, u "kind"), (0, u "()Lcom/example/orderly_lock/orderlylock/Operation$Kind;")] 41

def k10m0 : Method := { name := "<init>", desc := "()V", sig := { parameters := [], returnType := none }, accessFlags := 0, code := none }
def k10c1 : Code := { maxStack := 2, maxLocals := 2, code := prog_40_method_2_code, exceptionTable := #[], attributes := #[] }
def k10m1 : Method := { name := "<init>", desc := "(Lcom/example/orderly_lock/orderlylock/LockTable$LeaseTies;)V", sig := { parameters := [(.object "com/example/orderly_lock/orderlylock/LockTable$LeaseTies")], returnType := none }, accessFlags := 1, code := some k10c1 }
def k10c2 : Code := { maxStack := 4, maxLocals := 1, code := prog_40_method_3_code, exceptionTable := #[], attributes := #[] }
def k10m2 : Method := { name := "kind", desc := "()Lcom/example/orderly_lock/orderlylock/Operation$Kind;", sig := { parameters := [], returnType := some (.object "com/example/orderly_lock/orderlylock/Operation$Kind") }, accessFlags := 1, code := some k10c2 }
/-- com/example/orderly_lock/orderlylock/Operation$RestartLeases -/
def k10 : Class := { plain "com/example/orderly_lock/orderlylock/Operation$RestartLeases" (some 8) with
  accessFlags := 49
  interfaces := #[9]
  cf := some (fileOf pool10 8 #[.nestHost 73] #[{ accessFlags := 0, nameIndex := 5, descriptorIndex := 6, attributes := #[] }, { accessFlags := 1, nameIndex := 5, descriptorIndex := 20, attributes := #[] }, { accessFlags := 1, nameIndex := 78, descriptorIndex := 79, attributes := #[] }] 49 2 #[73] #[{ accessFlags := 18, nameIndex := 11, descriptorIndex := 12, attributes := #[] }])
  fields := #[{ name := "ties", type := (.object "com/example/orderly_lock/orderlylock/LockTable$LeaseTies"), accessFlags := 18, slot := 0, constantValue := 0 }]
  methods := #[k10m0, k10m1, k10m2]
  instanceTypes := #[(.object "com/example/orderly_lock/orderlylock/LockTable$LeaseTies")]
  staticTypes := #[]
  resolved := Array.replicate 121 none
  statics := none }

def pool11 : Array CpInfo := pool [(8, .class_ 10), (1, u "com/example/orderly_lock/orderlylock/Operation$1"), (0, u "$SwitchMap$com$example$orderly_lock$orderlylock$LockTable$LeaseTies"), (0, u "[I"), (13, .class_ 27), (0, u "java/lang/Object"), (8, .class_ 37), (0, u "com/example/orderly_lock/orderlylock/Operation")] 5

/-- com/example/orderly_lock/orderlylock/Operation$1 -/
def k11 : Class := { plain "com/example/orderly_lock/orderlylock/Operation$1" (some 0) with
  accessFlags := 4128
  interfaces := #[]
  cf := some (fileOf pool11 8 #[.nestHost 36] #[] 4128 26 #[] #[{ accessFlags := 4120, nameIndex := 11, descriptorIndex := 12, attributes := #[] }])
  fields := #[{ name := "$SwitchMap$com$example$orderly_lock$orderlylock$LockTable$LeaseTies", type := (.array .int), accessFlags := 4120, slot := 0, constantValue := 0 }]
  methods := #[]
  instanceTypes := #[]
  staticTypes := #[(.array .int)]
  resolved := Array.replicate 43 none
  statics := some 2 }

def pool12 : Array CpInfo := pool [(1, u "java/lang/Cloneable"), (0, .class_ 1), (0, u "java/lang/Object"), (0, .class_ 3)] 3

/-- java/lang/Cloneable -/
def k12 : Class := { plain "java/lang/Cloneable" (some 0) with
  accessFlags := 1537
  interfaces := #[]
  cf := some (fileOf pool12 2 #[] #[] 1537 4 #[] #[])
  fields := #[]
  methods := #[]
  instanceTypes := #[]
  staticTypes := #[]
  resolved := Array.replicate 8 none
  statics := none }

/-- the primitive byte -/
def k13 : Class := { plain "byte" none with kind := .primitive 'B', accessFlags := 0x411 }
/-- [B -/
def k14 : Class := { plain "[B" (some 0) with kind := .array 13 .byte, interfaces := #[12, 4], accessFlags := 1041 }

/-- the primitive int -/
def k15 : Class := { plain "int" none with kind := .primitive 'I', accessFlags := 0x411 }
/-- [I -/
def k16 : Class := { plain "[I" (some 0) with kind := .array 15 .int, interfaces := #[12, 4], accessFlags := 1041 }

def heap : Heap := #[{ cls := 6, slots := #[.ref 3, .ref 4, .null], vm := .statics 6 },
  { cls := 7, slots := #[.null, .null, .null, .null, .null, .null, .null, .ref 6, .null, .null, .null, .null, .null, .null, .null, .ref 5, .null, .null, .null], vm := .statics 7 },
  { cls := 11, slots := #[.ref 7], vm := .statics 11 },
  { cls := 6, slots := #[.null, .int 0, .int 0], vm := .none },
  { cls := 6, slots := #[.null, .int 1, .int 0], vm := .none },
  { cls := 7, slots := #[.null, .int 0, .int 0, .int 0, .int 0, .null], vm := .none },
  { cls := 7, slots := #[.null, .int 0, .int 0, .int 0, .int 0, .null], vm := .none },
  { cls := 16, slots := #[.int 1, .int 2], vm := .none }]
def classes : Array Class := #[k0, k1, k2, k3, k4, k5, k6, k7, k8, k9, k10, k11, k12, k13, k14, k15, k16]
def interned : List (Array UInt16 × Addr) := []
def slotsUsed : Nat := 43
def theMethod : MethodId := ⟨1, 1⟩
def args0 : Array Value := #[.int 5]
def aboutOver (below : List Frame) : State where
  vm := { classes := classes, interned := interned.toArray }
  heap := heap
  slotsUsed := slotsUsed
  threads := #[{ frames := .invoking theMethod args0 :: below }]
def below0 : List Frame := [.native { method := ⟨0, 0⟩, args := #[] }]
def about1 : State := aboutOver below0
def p0 : Program := .bare "" "" ""
def e0 : Env := launch0.env 0 0 0
theorem w_frames : about1.frames = Frame.invoking theMethod args0 :: below0 := rfl
set_option maxRecDepth 65536 in
theorem w_args : argsFit about1.vm theMethod args0 = true := by decide +kernel
set_option maxRecDepth 65536 in
theorem w_heap : heapFits about1 = true := by decide +kernel
set_option maxRecDepth 65536 in
theorem w_runnable : about1.curStatus? = some .runnable := by decide +kernel
set_option maxRecDepth 65536 in
theorem w_alone : about1.alone = true := by decide +kernel
set_option maxRecDepth 65536 in
theorem w_named : about1.methodNamed? x = some theMethod := by decide +kernel
set_option maxRecDepth 65536 in
theorem w_hears : about1.hears theMethod below0 = true := by decide +kernel
set_option maxRecDepth 65536 in
theorem w_ripe : about1.ripe theMethod args0 below0 = true := by decide +kernel
theorem w_running : about1.status = .running := rfl
set_option maxRecDepth 65536 in
theorem w_room : about1.hasRoom e0.platform room_1 = true :=
  launch0.hasRoom_least _ room_1 (by decide +kernel) (by decide +kernel) (by decide +kernel) (by decide +kernel) (by decide +kernel) (by decide +kernel)
theorem allAtoms_all (ts : List Jvm.Cond) (a : Array Jvm.Value) (st : Jvm.State) : (allAtoms ts).before a st = ts.all (fun c => c.before a st) := by
  induction ts with
  | nil => rfl
  | cons c t ih =>
    show (Jvm.Cond.and c (allAtoms t)).before a st = _
    rw [Jvm.Cond.before_and, ih, List.all_cons]
def words1 : List Jvm.Cond := Jvm.Cond.code x code maxLocals ret :: tables_1
/-- a 'code' word, met by the world's own term for the bytes: nothing is compared byte by byte -/
theorem code_word {y : MethodName} {bytes : ByteArray} {mx : Nat} {rt : Option FieldType} {a : Array Value} {s : State} {m : MethodId} {meth : Method} {c : Code} (h1 : s.methodNamed? y = some m) (h2 : s.vm.method? m = some meth) (h3 : meth.code = some c) (h4 : c.code = bytes)
    (h5 : (c.maxLocals == mx && c.exceptionTable.isEmpty && decide (c.maxStack ≤ mostOperands) && decide (meth.sig.returnType = rt) && !meth.locks && decide (parseMethodDescriptor y.desc = some meth.sig)) = true) : (Jvm.Cond.code y bytes mx rt).before a s = true := by
  simp only [Bool.and_eq_true, beq_iff_eq, Bool.not_eq_true', decide_eq_true_eq] at h5
  obtain ⟨⟨⟨⟨⟨g1, g2⟩, g3⟩, g4⟩, g5⟩, g6⟩ := h5
  simp [Cond.before, Cond.holds, Cond.value, h1, h2, h3, h4, g1, g2, g3, g4, g5, g6]
def isCode : Jvm.Cond → Bool
  | .code _ _ _ _ => true
  | _ => false
theorem all_split {L : List Jvm.Cond} {P : Jvm.Cond → Bool} (h1 : L.all (fun c => isCode c || P c) = true) (h2 : ∀ c ∈ L.filter isCode, P c = true) : L.all P = true := by
  refine List.all_eq_true.mpr fun c hc => ?_
  have h := List.all_eq_true.mp h1 c hc
  rcases Bool.eq_false_or_eq_true (isCode c) with hi | hi
  · exact h2 c (List.mem_filter.mpr ⟨hc, hi⟩)
  · simpa [hi] using h
set_option maxRecDepth 65536 in
theorem w_c0 : (Jvm.Cond.code x code maxLocals ret).before args0 about1 = true := code_word (m := ⟨1, 1⟩) (meth := k1m1) (c := k1c1) (by decide +kernel) rfl rfl rfl (by decide +kernel)
set_option maxRecDepth 65536 in
theorem w_c1 : (Jvm.Cond.code ({ cls := "com/example/orderly_lock/orderlylock/Operation$RestartLeases", name := "<init>", desc := "(Lcom/example/orderly_lock/orderlylock/LockTable$LeaseTies;)V" } : Jvm.MethodName) prog_40_method_2_code (2 : Nat) (Option.none : Option Jvm.ClassFile.FieldType)).before args0 about1 = true := code_word (m := ⟨10, 1⟩) (meth := k10m1) (c := k10c1) (by decide +kernel) rfl rfl rfl (by decide +kernel)
set_option maxRecDepth 65536 in
theorem w_c2 : (Jvm.Cond.code ({ cls := "java/lang/Record", name := "<init>", desc := "()V" } : Jvm.MethodName) jdk_30_method_1_code (1 : Nat) (Option.none : Option Jvm.ClassFile.FieldType)).before args0 about1 = true := code_word (m := ⟨8, 0⟩) (meth := k8m0) (c := k8c0) (by decide +kernel) rfl rfl rfl (by decide +kernel)
set_option maxRecDepth 65536 in
theorem w_c3 : (Jvm.Cond.code ({ cls := "java/lang/Object", name := "<init>", desc := "()V" } : Jvm.MethodName) object_method_1_code (1 : Nat) (Option.none : Option Jvm.ClassFile.FieldType)).before args0 about1 = true := code_word (m := ⟨0, 0⟩) (meth := k0m0) (c := k0c0) (by decide +kernel) rfl rfl rfl (by decide +kernel)
set_option maxRecDepth 65536 in
theorem w_c4 : (Jvm.Cond.code ({ cls := "com/example/orderly_lock/orderlylock/Operation$RestartLeases", name := "kind", desc := "()Lcom/example/orderly_lock/orderlylock/Operation$Kind;" } : Jvm.MethodName) prog_40_method_3_code (1 : Nat) (Option.some (Jvm.ClassFile.FieldType.object "com/example/orderly_lock/orderlylock/Operation$Kind"))).before args0 about1 = true := code_word (m := ⟨10, 2⟩) (meth := k10m2) (c := k10c2) (by decide +kernel) rfl rfl rfl (by decide +kernel)
set_option maxRecDepth 65536 in
theorem w_c5 : (Jvm.Cond.code ({ cls := "java/lang/Enum", name := "ordinal", desc := "()I" } : Jvm.MethodName) jdk_37_method_2_code (1 : Nat) (Option.some Jvm.ClassFile.FieldType.int)).before args0 about1 = true := code_word (m := ⟨5, 0⟩) (meth := k5m0) (c := k5c0) (by decide +kernel) rfl rfl rfl (by decide +kernel)
set_option maxRecDepth 65536 in
theorem w_c6 : (Jvm.Cond.code ({ cls := "com/example/orderly_lock/orderlylock/Operation$Kind", name := "readOnly", desc := "()Z" } : Jvm.MethodName) prog_33_method_4_code (1 : Nat) (Option.some Jvm.ClassFile.FieldType.boolean)).before args0 about1 = true := code_word (m := ⟨7, 0⟩) (meth := k7m0) (c := k7c0) (by decide +kernel) rfl rfl rfl (by decide +kernel)
def codes1 : List Jvm.Cond := [Jvm.Cond.code x code maxLocals ret, Jvm.Cond.code ({ cls := "com/example/orderly_lock/orderlylock/Operation$RestartLeases", name := "<init>", desc := "(Lcom/example/orderly_lock/orderlylock/LockTable$LeaseTies;)V" } : Jvm.MethodName) prog_40_method_2_code (2 : Nat) (Option.none : Option Jvm.ClassFile.FieldType), Jvm.Cond.code ({ cls := "java/lang/Record", name := "<init>", desc := "()V" } : Jvm.MethodName) jdk_30_method_1_code (1 : Nat) (Option.none : Option Jvm.ClassFile.FieldType), Jvm.Cond.code ({ cls := "java/lang/Object", name := "<init>", desc := "()V" } : Jvm.MethodName) object_method_1_code (1 : Nat) (Option.none : Option Jvm.ClassFile.FieldType), Jvm.Cond.code ({ cls := "com/example/orderly_lock/orderlylock/Operation$RestartLeases", name := "kind", desc := "()Lcom/example/orderly_lock/orderlylock/Operation$Kind;" } : Jvm.MethodName) prog_40_method_3_code (1 : Nat) (Option.some (Jvm.ClassFile.FieldType.object "com/example/orderly_lock/orderlylock/Operation$Kind")), Jvm.Cond.code ({ cls := "java/lang/Enum", name := "ordinal", desc := "()I" } : Jvm.MethodName) jdk_37_method_2_code (1 : Nat) (Option.some Jvm.ClassFile.FieldType.int), Jvm.Cond.code ({ cls := "com/example/orderly_lock/orderlylock/Operation$Kind", name := "readOnly", desc := "()Z" } : Jvm.MethodName) prog_33_method_4_code (1 : Nat) (Option.some Jvm.ClassFile.FieldType.boolean)]
set_option maxRecDepth 65536 in
theorem codes_eq : words1.filter isCode = codes1 := rfl
theorem w_codes : ∀ c ∈ words1.filter isCode, c.before args0 about1 = true := by
  rw [codes_eq]
  intro c hc
  simp only [codes1, List.mem_cons, List.not_mem_nil, or_false] at hc
  rcases hc with rfl | rfl | rfl | rfl | rfl | rfl | rfl
  · exact w_c0
  · exact w_c1
  · exact w_c2
  · exact w_c3
  · exact w_c4
  · exact w_c5
  · exact w_c6
set_option maxRecDepth 65536 in
theorem w_t1 : (words1.take 24).all (fun c => isCode c || c.before args0 about1) = true := by decide +kernel
set_option maxRecDepth 65536 in
theorem w_t2 : ((words1.drop 24).take 24).all (fun c => isCode c || c.before args0 about1) = true := by decide +kernel
set_option maxRecDepth 65536 in
theorem w_t3 : ((words1.drop 24).drop 24).all (fun c => isCode c || c.before args0 about1) = true := by decide +kernel
theorem w_tables : (allAtoms (Jvm.Cond.code x code maxLocals ret :: tables_1)).before args0 about1 = true := by
  rw [allAtoms_all]
  show words1.all (fun c => c.before args0 about1) = true
  refine all_split ?_ w_codes
  rw [← List.take_append_drop 24 words1, List.all_append, w_t1, ← List.take_append_drop 24 (words1.drop 24), List.all_append, w_t2, w_t3]
  rfl
set_option maxRecDepth 65536 in
theorem w_case : (Jvm.Cond.and given_1 narrow_1).before args0 about1 = true := by decide +kernel
theorem w_applies : (headSpec (Jvm.Cond.code x code maxLocals ret :: tables_1) room_1).applies x e0.platform about1 = true :=
  (Spec.applies_iff w_frames).mpr ⟨w_running, w_runnable, w_alone, w_named, w_hears, w_ripe, w_room, w_tables⟩
theorem atStart : AtStart classFile x code maxLocals ret World_1 tables_1 room_1 Calls_1 rest_1 Pre_1 launch0 p0 e0 about1 theMethod args0 below0 :=
  ⟨lists_1, trivial, launch0.admits_env _ _ _, launch0.least_env, fairChoices_fair.cas, fairChoices_fair.clock, w_frames, w_args, w_heap, w_applies, trivial, trivial, w_case⟩
end start1
theorem witness_1 : WitnessClaimed_1 := ⟨start1.p0, start1.e0, start1.about1, start1.theMethod, start1.args0, start1.below0, start1.atStart⟩
end Jvm.Pilot.@@N@@
