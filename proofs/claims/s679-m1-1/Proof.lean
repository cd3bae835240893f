import JvmDerived
import JvmDerived.Pilot.@@N@@Statement
import JvmDerived.Pilot.@@N@@Code
set_option linter.unusedVariables false
set_option linter.unusedSimpArgs false
namespace Jvm.RoadKit
open Sem ClassFile Op Lib Jvm.Stand Jvm.Free Jvm.LawKit
section New
variable {p : Program} {l : Launch} {e : Env} {R : Room} {s : State} {m : MethodId} {args : Array Value} {below : List Frame} {meth : Method} {c : Code} {T : State} {locs : List Loc} {cells slots : Nat}
theorem retI (X : Stand p l e R s m args below meth c T locs cells slots) (hx : p.tables.exec = Jvm.exec) {pc : Nat} {Ls : Array Slot} {z : Int32} {rest : List Value} (hret : meth.sig.returnType = some .int) (hd : decode c.code pc = .ok (.ireturn, 1)) {fs : List Frame}
    (hl : ∀ (f : JFrame) (acts : List Action), f.method = m → f.locked = none → f.entered = [] → (doReturn e (T.setTop f) acts (some (.int z))).1 = T.setFrames fs) : Steps p.tables e below (T.setTop (mkF m pc Ls (.int z :: rest))) (T.setFrames fs) := by
  have hm' : T.vm.method? m = some meth := X.method'
  have hn : narrow .int (.int z) = .int z := rfl
  show Steps p.tables e below (T.setTop { method := m, pc := pc, locals := Ls, stack := _ :: rest, locked := none }) _
  jvm_step X.here [X.here.top, hx, hd, hm', hret, hn]
  first | (intro acts; rw [hl _ acts rfl rfl rfl]) | rw [hl _ _ rfl rfl rfl]
  exact Steps.refl _
end New
end Jvm.RoadKit
namespace Jvm.Pilot.@@N@@
open Jvm Jvm.ClassFile Sem Op Lib Jvm.Free Jvm.Stand Jvm.LawKit Jvm.RoadKit Bundle Jvm.Pilot.@@N@@.Jvm.D
/-! the rest of a walk, from a state on: it returns, and what it leaves -/
def OwnGo (p : Program) (e : Env) (below : List Frame) (s : State) (Q : Option Value → Heap → List Loc → Prop) (K N : Nat) (U : State) : Prop :=
  ∃ t o, Steps p.tables e below U t ∧ t.status = .running ∧ Ended t below o ∧ ∃ v L, o = .returned v ∧ Q v t.heap L ∧ FrameEnd s o t L K N
section OwnKit
variable {p : Program} {l : Launch} {e : Env} {R : Room} {s : State} {m : MethodId} {args : Array Value} {below : List Frame} {meth : Method} {c : Code} {T : State} {locs : List Loc} {cells slots : Nat} {Q : Option Value → Heap → List Loc → Prop} {K N : Nat} {U U' : State} {h : Heap}
theorem own_on (st : ∀ t, Steps p.tables e below U' t → Steps p.tables e below U t) (k : OwnGo p e below s Q K N U') : OwnGo p e below s Q K N U := by
  obtain ⟨t, o, h1, r⟩ := k; exact ⟨t, o, st t h1, r⟩
theorem own_tr (st : Steps p.tables e below U U') (k : OwnGo p e below s Q K N U') : OwnGo p e below s Q K N U := own_on (fun _ q => st.trans q) k
theorem own_cast {g g' : JFrame} (q : g = g') (k : OwnGo p e below s Q K N (T.setTop g')) : OwnGo p e below s Q K N (T.setTop g) := q ▸ k
theorem own_end (X : Stand p l e R s m args below meth c T locs cells slots) (hlk : meth.locks = false) {v : Option Value} (hv : meth.sig.returnType = none → v = none) (eT : T.heap = h) (q : Q v h locs) (hk : cells ≤ K) (hn : slots ≤ N)
    (st : ∀ fs, (∀ (f : JFrame) (acts : List Action), f.method = m → f.locked = none → f.entered = [] → (doReturn e (T.setTop f) acts v).1 = T.setFrames fs) → Steps p.tables e below U (T.setFrames fs)) : OwnGo p e below s Q K N U := by
  obtain ⟨fs, hr, hrun, hended, hW, hsame⟩ := X.leave (v := v) hv hlk
  refine ⟨_, _, st fs hr, hrun, hended, v, locs, rfl, ?_, ⟨_, rfl⟩, hW, hsame.mono hk hn⟩
  have : (T.setFrames fs).heap = h := eT
  rw [this]; exact q
theorem own_retN (X : Stand p l e R s m args below meth c T locs cells slots) (hx : p.tables.exec = Jvm.exec) (hlk : meth.locks = false) {pc : Nat} {Ls : Array Slot} {z : Int32} {t : FieldType} {rest : List Value} (hret : meth.sig.returnType = some t) (ht : t = .boolean ∨ t = .byte ∨ t = .char ∨ t = .short)
    (hd : decode c.code pc = .ok (.ireturn, 1)) (eT : T.heap = h) (q : Q (some (.int (nar t z))) h locs) (hk : cells ≤ K) (hn : slots ≤ N) : OwnGo p e below s Q K N (T.setTop (mkF m pc Ls (.int z :: rest))) :=
  own_end X hlk (fun h => by rw [hret] at h; cases h) eT q hk hn fun fs hr => retN X hx hret ht hd hr
theorem own_retI (X : Stand p l e R s m args below meth c T locs cells slots) (hx : p.tables.exec = Jvm.exec) (hlk : meth.locks = false) {pc : Nat} {Ls : Array Slot} {z : Int32} {rest : List Value} (hret : meth.sig.returnType = some .int)
    (hd : decode c.code pc = .ok (.ireturn, 1)) (eT : T.heap = h) (q : Q (some (.int z)) h locs) (hk : cells ≤ K) (hn : slots ≤ N) : OwnGo p e below s Q K N (T.setTop (mkF m pc Ls (.int z :: rest))) :=
  own_end X hlk (fun h => by rw [hret] at h; cases h) eT q hk hn fun fs hr => retI X hx hret hd hr
theorem own_retA (X : Stand p l e R s m args below meth c T locs cells slots) (hx : p.tables.exec = Jvm.exec) (hlk : meth.locks = false) {pc : Nat} {Ls : Array Slot} {w : Value} {t : FieldType} {rest : List Value} (hret : meth.sig.returnType = some t) (ht : t.isReference = true) (hw : w.isRef = true)
    (hd : decode c.code pc = .ok (.areturn, 1)) (eT : T.heap = h) (q : Q (some w) h locs) (hk : cells ≤ K) (hn : slots ≤ N) : OwnGo p e below s Q K N (T.setTop (mkF m pc Ls (w :: rest))) :=
  own_end X hlk (fun h => by rw [hret] at h; cases h) eT q hk hn fun fs hr => retOut X hx hret (by rcases ref_cases hw with rfl | ⟨a, rfl⟩ <;> cases t <;> rfl) (Or.inr (Or.inr (Or.inr (Or.inr ⟨rfl, ht, hw⟩)))) hd hr
theorem own_retV (X : Stand p l e R s m args below meth c T locs cells slots) (hx : p.tables.exec = Jvm.exec) (hlk : meth.locks = false) {pc : Nat} {Ls : Array Slot} (hret : meth.sig.returnType = none)
    (hd : decode c.code pc = .ok (.return_, 1)) (eT : T.heap = h) (q : Q none h locs) (hk : cells ≤ K) (hn : slots ≤ N) : OwnGo p e below s Q K N (T.setTop (mkF m pc Ls [])) :=
  own_end X hlk (fun _ => rfl) eT q hk hn fun fs hr => X.returnOut hx hret hd hr
end OwnKit

def own_fvc (c : Int32) : Int32 := if c = 9 then 1 else if c < 32 then 0 else if c = 127 then 0 else if 255 < c then 0 else 1
def own_exp (c : Int32) : Int32 := if c < 0 then 0 else if 255 < c then 0 else if c < 32 then (if c = 9 then 1 else 0) else if c = 127 then 0 else 1
theorem own_eq (c : Int32) : own_fvc c = own_exp c := by
  unfold own_fvc own_exp
  have e0 : ∀ x y : Int32, x = y ↔ x.toInt = y.toInt := fun x y => Int32.toInt_inj.symm
  simp only [Int32.lt_iff_toInt_lt, e0]
  simp only [Int32.reduceToInt]
  generalize c.toInt = z
  split <;> (repeat' split) <;> first | rfl | omega
theorem w0 {a0 : Array Value} {Z : State} (hw : ∀ d ∈ tables_1, d.before a0 Z = true) : ((Jvm.Cond.methodLink "io/loomwire/handler/codec/http/HttpHeadersIsFieldValueCharPinLaw" (7 : Nat) ({ cls := "io/loomwire/handler/codec/http/HttpHeaders", name := "isFieldValueChar", desc := "(I)Z" } : Jvm.MethodName)) : Jvm.Cond).before a0 Z = true := hw _ (List.mem_of_getElem? (i := 0) rfl)
theorem w1 {a0 : Array Value} {Z : State} (hw : ∀ d ∈ tables_1, d.before a0 Z = true) : ((Jvm.Cond.static ({ cls := "io/loomwire/handler/codec/http/HttpHeaders", name := "isFieldValueChar", desc := "(I)Z" } : Jvm.MethodName)) : Jvm.Cond).before a0 Z = true := hw _ (List.mem_of_getElem? (i := 1) rfl)
theorem w2 {a0 : Array Value} {Z : State} (hw : ∀ d ∈ tables_1, d.before a0 Z = true) : ((Jvm.Cond.initialized "io/loomwire/handler/codec/http/HttpHeaders") : Jvm.Cond).before a0 Z = true := hw _ (List.mem_of_getElem? (i := 2) rfl)
theorem w3 {a0 : Array Value} {Z : State} (hw : ∀ d ∈ tables_1, d.before a0 Z = true) : ((Jvm.Cond.code ({ cls := "io/loomwire/handler/codec/http/HttpHeaders", name := "isFieldValueChar", desc := "(I)Z" } : Jvm.MethodName) prog_12_method_21_code (1 : Nat) (Option.some Jvm.ClassFile.FieldType.boolean)) : Jvm.Cond).before a0 Z = true := hw _ (List.mem_of_getElem? (i := 3) rfl)
theorem w4 {a0 : Array Value} {Z : State} (hw : ∀ d ∈ tables_1, d.before a0 Z = true) : ((Jvm.Cond.methodLink "io/loomwire/handler/codec/http/HttpHeadersIsFieldValueCharPinLaw" (13 : Nat) ({ cls := "io/loomwire/handler/codec/http/HttpHeadersIsFieldValueCharPinLaw", name := "expected", desc := "(I)Z" } : Jvm.MethodName)) : Jvm.Cond).before a0 Z = true := hw _ (List.mem_of_getElem? (i := 4) rfl)
theorem w5 {a0 : Array Value} {Z : State} (hw : ∀ d ∈ tables_1, d.before a0 Z = true) : ((Jvm.Cond.static ({ cls := "io/loomwire/handler/codec/http/HttpHeadersIsFieldValueCharPinLaw", name := "expected", desc := "(I)Z" } : Jvm.MethodName)) : Jvm.Cond).before a0 Z = true := hw _ (List.mem_of_getElem? (i := 5) rfl)
theorem w6 {a0 : Array Value} {Z : State} (hw : ∀ d ∈ tables_1, d.before a0 Z = true) : ((Jvm.Cond.initialized "io/loomwire/handler/codec/http/HttpHeadersIsFieldValueCharPinLaw") : Jvm.Cond).before a0 Z = true := hw _ (List.mem_of_getElem? (i := 6) rfl)
theorem w7 {a0 : Array Value} {Z : State} (hw : ∀ d ∈ tables_1, d.before a0 Z = true) : ((Jvm.Cond.code ({ cls := "io/loomwire/handler/codec/http/HttpHeadersIsFieldValueCharPinLaw", name := "expected", desc := "(I)Z" } : Jvm.MethodName) method_2_code (1 : Nat) (Option.some Jvm.ClassFile.FieldType.boolean)) : Jvm.Cond).before a0 Z = true := hw _ (List.mem_of_getElem? (i := 7) rfl)
theorem d1_0 : decode prog_12_method_21_code 0 = .ok (.iload_n 0, 1) := by decide +kernel
theorem d1_1 : decode prog_12_method_21_code 1 = .ok (.bipush 9, 2) := by decide +kernel
theorem d1_3 : decode prog_12_method_21_code 3 = .ok (.if_icmp .eq 22, 3) := by decide +kernel
theorem d1_25 : decode prog_12_method_21_code 25 = .ok (.iconst 1, 1) := by decide +kernel
theorem d1_26 : decode prog_12_method_21_code 26 = .ok (.goto 4, 3) := by decide +kernel
theorem d1_30 : decode prog_12_method_21_code 30 = .ok (.ireturn, 1) := by decide +kernel
theorem d1_6 : decode prog_12_method_21_code 6 = .ok (.iload_n 0, 1) := by decide +kernel
theorem d1_7 : decode prog_12_method_21_code 7 = .ok (.bipush 32, 2) := by decide +kernel
theorem d1_9 : decode prog_12_method_21_code 9 = .ok (.if_icmp .lt 20, 3) := by decide +kernel
theorem d1_29 : decode prog_12_method_21_code 29 = .ok (.iconst 0, 1) := by decide +kernel
theorem d1_12 : decode prog_12_method_21_code 12 = .ok (.iload_n 0, 1) := by decide +kernel
theorem d1_13 : decode prog_12_method_21_code 13 = .ok (.bipush 127, 2) := by decide +kernel
theorem d1_15 : decode prog_12_method_21_code 15 = .ok (.if_icmp .eq 14, 3) := by decide +kernel
theorem d1_18 : decode prog_12_method_21_code 18 = .ok (.iload_n 0, 1) := by decide +kernel
theorem d1_19 : decode prog_12_method_21_code 19 = .ok (.sipush 255, 3) := by decide +kernel
theorem d1_22 : decode prog_12_method_21_code 22 = .ok (.if_icmp .gt 7, 3) := by decide +kernel
theorem pn_0 : plainName "io/loomwire/handler/codec/http/HttpHeaders" = true := by first | (simp [plainName, overriddenIn]; done) | decide +kernel
theorem d2_0 : decode method_2_code 0 = .ok (.iload_n 0, 1) := by decide +kernel
theorem d2_1 : decode method_2_code 1 = .ok (.ifCond .ge 5, 3) := by decide +kernel
theorem d2_4 : decode method_2_code 4 = .ok (.iconst 0, 1) := by decide +kernel
theorem d2_5 : decode method_2_code 5 = .ok (.ireturn, 1) := by decide +kernel
theorem d2_6 : decode method_2_code 6 = .ok (.iload_n 0, 1) := by decide +kernel
theorem d2_7 : decode method_2_code 7 = .ok (.sipush 255, 3) := by decide +kernel
theorem d2_10 : decode method_2_code 10 = .ok (.if_icmp .le 5, 3) := by decide +kernel
theorem d2_13 : decode method_2_code 13 = .ok (.iconst 0, 1) := by decide +kernel
theorem d2_14 : decode method_2_code 14 = .ok (.ireturn, 1) := by decide +kernel
theorem d2_15 : decode method_2_code 15 = .ok (.iload_n 0, 1) := by decide +kernel
theorem d2_16 : decode method_2_code 16 = .ok (.bipush 32, 2) := by decide +kernel
theorem d2_18 : decode method_2_code 18 = .ok (.if_icmp .ge 15, 3) := by decide +kernel
theorem d2_21 : decode method_2_code 21 = .ok (.iload_n 0, 1) := by decide +kernel
theorem d2_22 : decode method_2_code 22 = .ok (.bipush 9, 2) := by decide +kernel
theorem d2_24 : decode method_2_code 24 = .ok (.if_icmp .ne 7, 3) := by decide +kernel
theorem d2_27 : decode method_2_code 27 = .ok (.iconst 1, 1) := by decide +kernel
theorem d2_28 : decode method_2_code 28 = .ok (.goto 4, 3) := by decide +kernel
theorem d2_32 : decode method_2_code 32 = .ok (.ireturn, 1) := by decide +kernel
theorem d2_31 : decode method_2_code 31 = .ok (.iconst 0, 1) := by decide +kernel
theorem d2_33 : decode method_2_code 33 = .ok (.iload_n 0, 1) := by decide +kernel
theorem d2_34 : decode method_2_code 34 = .ok (.bipush 127, 2) := by decide +kernel
theorem d2_36 : decode method_2_code 36 = .ok (.if_icmp .ne 5, 3) := by decide +kernel
theorem d2_39 : decode method_2_code 39 = .ok (.iconst 0, 1) := by decide +kernel
theorem d2_40 : decode method_2_code 40 = .ok (.ireturn, 1) := by decide +kernel
theorem d2_41 : decode method_2_code 41 = .ok (.iconst 1, 1) := by decide +kernel
theorem d2_42 : decode method_2_code 42 = .ok (.ireturn, 1) := by decide +kernel
theorem pn_1 : plainName "io/loomwire/handler/codec/http/HttpHeadersIsFieldValueCharPinLaw" = true := by first | (simp [plainName, overriddenIn]; done) | decide +kernel
theorem pd_0 : parseMethodDescriptor "(I)Z" = some ⟨[.int], some .boolean⟩ := by decide +kernel
theorem ef_1 (m : MethodId) (k : Int32)  : entryFrame m #[(.int k)] 1 = mkF m 0 #[.val (.int k)] [] := by first | (simp [entryFrame, mkF, argsToLocals, Value.category]; done) | rfl
def Q1 (Z : State) (k : Int32) (h0 : Heap) (n0 : Nat) (v_ : Option Value) (h_ : Heap) (L_ : List Loc) : Prop := v_ = some (.int (own_fvc k)) ∧ Fr n0 L_ ∧ h_ = h0
set_option maxRecDepth 65536 in
set_option maxHeartbeats 40000000 in
theorem rm1 (l : Launch) (Z : State) (a0 : Array Value) (hw : ∀ d ∈ tables_1, d.before a0 Z = true) (ws : List Jvm.Cond) (k : Int32) (h0 : Heap) (n0 : Nat) (Z0 : n0 ≤ h0.size)  :
    MetFree l (⟨"io/loomwire/handler/codec/http/HttpHeaders", "isFieldValueChar", "(I)Z"⟩ : MethodName) (head1 (Jvm.Cond.code (⟨"io/loomwire/handler/codec/http/HttpHeaders", "isFieldValueChar", "(I)Z"⟩ : MethodName) prog_12_method_21_code 1 (some .boolean) :: ws) ({ frames := 0, cells := 0, slots := 0, locals := 0 } : Room)) (fun A_ U => A_ = #[(.int k)] ∧ Z.Warmed39 U.vm ∧ U.heap = h0) (fun _ _ _ _ _ => True) (fun _ U_ o_ U'_ => ∃ v_ L_, o_ = .returned v_ ∧ Q1 Z k h0 n0 v_ U'_.heap L_ ∧ FrameEnd U_ o_ U'_ L_ ({ frames := 0, cells := 0, slots := 0, locals := 0 } : Room).cells ({ frames := 0, cells := 0, slots := 0, locals := 0 } : Room).slots) := by
  refine MetFree.of_bodySF (plainFor_of_name pn_0) hisR ?_
  intro p e s m args below meth c s₁ Bd hml0 hP hK
  obtain ⟨rfl, hZ, hh⟩ := hP
  have hx := Bd.exec
  have hby := Bd.bytes
  have hml : c.maxLocals = 1 := hml0
  have hown : s.vm.findClass "io/loomwire/handler/codec/http/HttpHeaders" = some m.cls := findClass_of_methodNamed Bd.named
  have hnm := (name_of_methodNamed Bd.named Bd.method).1
  have hlk : meth.locks = false := Bd.notSynchronized
  have X0 : Stand p l e ({ frames := 0, cells := 0, slots := 0, locals := 0 } : Room) s m #[(.int k)] below meth c s₁ [] 0 0 := Stand.of_body Bd
  have e0 : s₁.heap = h0 := by rw [← hh, Bd.state]; rfl
  have N0 := Fr.nil n0
  have K0 : Keep h0 h0 [] := Keep.refl _ _
  refine own_cast (ef_1 m k) ?_
  show OwnGo p e below s (Q1 Z k h0 n0) ({ frames := 0, cells := 0, slots := 0, locals := 0 } : Room).cells ({ frames := 0, cells := 0, slots := 0, locals := 0 } : Room).slots (s₁.setTop (mkF m 0 #[.val (.int k)] []))
  refine own_on (fun t k => XS.iloadN X0.here hx rfl (hb hby d1_0) rfl k) ?_
  show OwnGo p e below s _ _ _ (s₁.setTop (mkF m 1 #[.val (.int k)] [(.int k)]))
  refine own_on (fun t k => XS.bipush X0.here hx rfl (hb hby d1_1) k) ?_
  show OwnGo p e below s _ _ _ (s₁.setTop (mkF m 3 #[.val (.int k)] [(.int (9 : Int32)), (.int k)]))
  by_cases q0 : k = (9 : Int32)
  · refine own_on (fun t k => XS.icmpYes X0.here hx rfl (pc0 := 3) (pc' := 25) rfl (hb hby d1_3) rfl (teq q0).1 (by decide) (by decide) k) ?_
    show OwnGo p e below s _ _ _ (s₁.setTop (mkF m 25 #[.val (.int k)] []))
    refine own_on (fun t k => XS.iconst X0.here hx rfl (hb hby d1_25) k) ?_
    show OwnGo p e below s _ _ _ (s₁.setTop (mkF m 26 #[.val (.int k)] [(.int (1 : Int32))]))
    refine own_on (fun t k => XS.goto X0.here hx rfl (pc0 := 26) (pc' := 30) rfl (hb hby d1_26) (by decide) (by decide) k) ?_
    show OwnGo p e below s _ _ _ (s₁.setTop (mkF m 30 #[.val (.int k)] [(.int (1 : Int32))]))
    exact own_retN X0 hx hlk (t := .boolean) Bd.returns (by simp) (hb hby d1_30) e0 ⟨(congrArg (fun z => some (Value.int z)) (by simp [own_fvc, nar, *])), N0, rfl⟩ (by decide) (by decide)
  · refine own_on (fun t k => XS.icmpNo X0.here hx rfl (hb hby d1_3) rfl (feq q0).1 k) ?_
    show OwnGo p e below s _ _ _ (s₁.setTop (mkF m 6 #[.val (.int k)] []))
    refine own_on (fun t k => XS.iloadN X0.here hx rfl (hb hby d1_6) rfl k) ?_
    show OwnGo p e below s _ _ _ (s₁.setTop (mkF m 7 #[.val (.int k)] [(.int k)]))
    refine own_on (fun t k => XS.bipush X0.here hx rfl (hb hby d1_7) k) ?_
    show OwnGo p e below s _ _ _ (s₁.setTop (mkF m 9 #[.val (.int k)] [(.int (32 : Int32)), (.int k)]))
    by_cases q1 : k < (32 : Int32)
    · refine own_on (fun t k => XS.icmpYes X0.here hx rfl (pc0 := 9) (pc' := 29) rfl (hb hby d1_9) rfl (tlt q1).1 (by decide) (by decide) k) ?_
      show OwnGo p e below s _ _ _ (s₁.setTop (mkF m 29 #[.val (.int k)] []))
      refine own_on (fun t k => XS.iconst X0.here hx rfl (hb hby d1_29) k) ?_
      show OwnGo p e below s _ _ _ (s₁.setTop (mkF m 30 #[.val (.int k)] [(.int (0 : Int32))]))
      exact own_retN X0 hx hlk (t := .boolean) Bd.returns (by simp) (hb hby d1_30) e0 ⟨(congrArg (fun z => some (Value.int z)) (by simp [own_fvc, nar, *])), N0, rfl⟩ (by decide) (by decide)
    · refine own_on (fun t k => XS.icmpNo X0.here hx rfl (hb hby d1_9) rfl (flt q1).1 k) ?_
      show OwnGo p e below s _ _ _ (s₁.setTop (mkF m 12 #[.val (.int k)] []))
      refine own_on (fun t k => XS.iloadN X0.here hx rfl (hb hby d1_12) rfl k) ?_
      show OwnGo p e below s _ _ _ (s₁.setTop (mkF m 13 #[.val (.int k)] [(.int k)]))
      refine own_on (fun t k => XS.bipush X0.here hx rfl (hb hby d1_13) k) ?_
      show OwnGo p e below s _ _ _ (s₁.setTop (mkF m 15 #[.val (.int k)] [(.int (127 : Int32)), (.int k)]))
      by_cases q2 : k = (127 : Int32)
      · refine own_on (fun t k => XS.icmpYes X0.here hx rfl (pc0 := 15) (pc' := 29) rfl (hb hby d1_15) rfl (teq q2).1 (by decide) (by decide) k) ?_
        show OwnGo p e below s _ _ _ (s₁.setTop (mkF m 29 #[.val (.int k)] []))
        refine own_on (fun t k => XS.iconst X0.here hx rfl (hb hby d1_29) k) ?_
        show OwnGo p e below s _ _ _ (s₁.setTop (mkF m 30 #[.val (.int k)] [(.int (0 : Int32))]))
        exact own_retN X0 hx hlk (t := .boolean) Bd.returns (by simp) (hb hby d1_30) e0 ⟨(congrArg (fun z => some (Value.int z)) (by simp [own_fvc, nar, *])), N0, rfl⟩ (by decide) (by decide)
      · refine own_on (fun t k => XS.icmpNo X0.here hx rfl (hb hby d1_15) rfl (feq q2).1 k) ?_
        show OwnGo p e below s _ _ _ (s₁.setTop (mkF m 18 #[.val (.int k)] []))
        refine own_on (fun t k => XS.iloadN X0.here hx rfl (hb hby d1_18) rfl k) ?_
        show OwnGo p e below s _ _ _ (s₁.setTop (mkF m 19 #[.val (.int k)] [(.int k)]))
        refine own_on (fun t k => XS.sipush X0.here hx rfl (hb hby d1_19) k) ?_
        show OwnGo p e below s _ _ _ (s₁.setTop (mkF m 22 #[.val (.int k)] [(.int (255 : Int32)), (.int k)]))
        by_cases q3 : (255 : Int32) < k
        · refine own_on (fun t k => XS.icmpYes X0.here hx rfl (pc0 := 22) (pc' := 29) rfl (hb hby d1_22) rfl (tlt q3).2.2.1 (by decide) (by decide) k) ?_
          show OwnGo p e below s _ _ _ (s₁.setTop (mkF m 29 #[.val (.int k)] []))
          refine own_on (fun t k => XS.iconst X0.here hx rfl (hb hby d1_29) k) ?_
          show OwnGo p e below s _ _ _ (s₁.setTop (mkF m 30 #[.val (.int k)] [(.int (0 : Int32))]))
          exact own_retN X0 hx hlk (t := .boolean) Bd.returns (by simp) (hb hby d1_30) e0 ⟨(congrArg (fun z => some (Value.int z)) (by simp [own_fvc, nar, *])), N0, rfl⟩ (by decide) (by decide)
        · refine own_on (fun t k => XS.icmpNo X0.here hx rfl (hb hby d1_22) rfl (flt q3).2.2.1 k) ?_
          show OwnGo p e below s _ _ _ (s₁.setTop (mkF m 25 #[.val (.int k)] []))
          refine own_on (fun t k => XS.iconst X0.here hx rfl (hb hby d1_25) k) ?_
          show OwnGo p e below s _ _ _ (s₁.setTop (mkF m 26 #[.val (.int k)] [(.int (1 : Int32))]))
          refine own_on (fun t k => XS.goto X0.here hx rfl (pc0 := 26) (pc' := 30) rfl (hb hby d1_26) (by decide) (by decide) k) ?_
          show OwnGo p e below s _ _ _ (s₁.setTop (mkF m 30 #[.val (.int k)] [(.int (1 : Int32))]))
          exact own_retN X0 hx hlk (t := .boolean) Bd.returns (by simp) (hb hby d1_30) e0 ⟨(congrArg (fun z => some (Value.int z)) (by simp [own_fvc, nar, *])), N0, rfl⟩ (by decide) (by decide)
theorem ef_2 (m : MethodId) (k : Int32)  : entryFrame m #[(.int k)] 1 = mkF m 0 #[.val (.int k)] [] := by first | (simp [entryFrame, mkF, argsToLocals, Value.category]; done) | rfl
def Q2 (Z : State) (k : Int32) (h0 : Heap) (n0 : Nat) (v_ : Option Value) (h_ : Heap) (L_ : List Loc) : Prop := v_ = some (.int (own_exp k)) ∧ Fr n0 L_ ∧ h_ = h0
set_option maxRecDepth 65536 in
set_option maxHeartbeats 40000000 in
theorem rm2 (l : Launch) (Z : State) (a0 : Array Value) (hw : ∀ d ∈ tables_1, d.before a0 Z = true) (ws : List Jvm.Cond) (k : Int32) (h0 : Heap) (n0 : Nat) (Z0 : n0 ≤ h0.size)  :
    MetFree l (⟨"io/loomwire/handler/codec/http/HttpHeadersIsFieldValueCharPinLaw", "expected", "(I)Z"⟩ : MethodName) (head1 (Jvm.Cond.code (⟨"io/loomwire/handler/codec/http/HttpHeadersIsFieldValueCharPinLaw", "expected", "(I)Z"⟩ : MethodName) method_2_code 1 (some .boolean) :: ws) ({ frames := 0, cells := 0, slots := 0, locals := 0 } : Room)) (fun A_ U => A_ = #[(.int k)] ∧ Z.Warmed39 U.vm ∧ U.heap = h0) (fun _ _ _ _ _ => True) (fun _ U_ o_ U'_ => ∃ v_ L_, o_ = .returned v_ ∧ Q2 Z k h0 n0 v_ U'_.heap L_ ∧ FrameEnd U_ o_ U'_ L_ ({ frames := 0, cells := 0, slots := 0, locals := 0 } : Room).cells ({ frames := 0, cells := 0, slots := 0, locals := 0 } : Room).slots) := by
  refine MetFree.of_bodySF (plainFor_of_name pn_1) hisR ?_
  intro p e s m args below meth c s₁ Bd hml0 hP hK
  obtain ⟨rfl, hZ, hh⟩ := hP
  have hx := Bd.exec
  have hby := Bd.bytes
  have hml : c.maxLocals = 1 := hml0
  have hown : s.vm.findClass "io/loomwire/handler/codec/http/HttpHeadersIsFieldValueCharPinLaw" = some m.cls := findClass_of_methodNamed Bd.named
  have hnm := (name_of_methodNamed Bd.named Bd.method).1
  have hlk : meth.locks = false := Bd.notSynchronized
  have X0 : Stand p l e ({ frames := 0, cells := 0, slots := 0, locals := 0 } : Room) s m #[(.int k)] below meth c s₁ [] 0 0 := Stand.of_body Bd
  have e0 : s₁.heap = h0 := by rw [← hh, Bd.state]; rfl
  have N0 := Fr.nil n0
  have K0 : Keep h0 h0 [] := Keep.refl _ _
  refine own_cast (ef_2 m k) ?_
  show OwnGo p e below s (Q2 Z k h0 n0) ({ frames := 0, cells := 0, slots := 0, locals := 0 } : Room).cells ({ frames := 0, cells := 0, slots := 0, locals := 0 } : Room).slots (s₁.setTop (mkF m 0 #[.val (.int k)] []))
  refine own_on (fun t k => XS.iloadN X0.here hx rfl (hb hby d2_0) rfl k) ?_
  show OwnGo p e below s _ _ _ (s₁.setTop (mkF m 1 #[.val (.int k)] [(.int k)]))
  by_cases q0 : k < (0 : Int32)
  · refine own_on (fun t k => XS.ifNo X0.here hx rfl (hb hby d2_1) rfl ((if0 _ _).trans (tlt q0).2.1) k) ?_
    show OwnGo p e below s _ _ _ (s₁.setTop (mkF m 4 #[.val (.int k)] []))
    refine own_on (fun t k => XS.iconst X0.here hx rfl (hb hby d2_4) k) ?_
    show OwnGo p e below s _ _ _ (s₁.setTop (mkF m 5 #[.val (.int k)] [(.int (0 : Int32))]))
    exact own_retN X0 hx hlk (t := .boolean) Bd.returns (by simp) (hb hby d2_5) e0 ⟨(congrArg (fun z => some (Value.int z)) (by simp [own_exp, nar, *])), N0, rfl⟩ (by decide) (by decide)
  · refine own_on (fun t k => XS.ifYes X0.here hx rfl (pc0 := 1) (pc' := 6) rfl (hb hby d2_1) rfl ((if0 _ _).trans (flt q0).2.1) (by decide) (by decide) k) ?_
    show OwnGo p e below s _ _ _ (s₁.setTop (mkF m 6 #[.val (.int k)] []))
    refine own_on (fun t k => XS.iloadN X0.here hx rfl (hb hby d2_6) rfl k) ?_
    show OwnGo p e below s _ _ _ (s₁.setTop (mkF m 7 #[.val (.int k)] [(.int k)]))
    refine own_on (fun t k => XS.sipush X0.here hx rfl (hb hby d2_7) k) ?_
    show OwnGo p e below s _ _ _ (s₁.setTop (mkF m 10 #[.val (.int k)] [(.int (255 : Int32)), (.int k)]))
    by_cases q1 : (255 : Int32) < k
    · refine own_on (fun t k => XS.icmpNo X0.here hx rfl (hb hby d2_10) rfl (tlt q1).2.2.2 k) ?_
      show OwnGo p e below s _ _ _ (s₁.setTop (mkF m 13 #[.val (.int k)] []))
      refine own_on (fun t k => XS.iconst X0.here hx rfl (hb hby d2_13) k) ?_
      show OwnGo p e below s _ _ _ (s₁.setTop (mkF m 14 #[.val (.int k)] [(.int (0 : Int32))]))
      exact own_retN X0 hx hlk (t := .boolean) Bd.returns (by simp) (hb hby d2_14) e0 ⟨(congrArg (fun z => some (Value.int z)) (by simp [own_exp, nar, *])), N0, rfl⟩ (by decide) (by decide)
    · refine own_on (fun t k => XS.icmpYes X0.here hx rfl (pc0 := 10) (pc' := 15) rfl (hb hby d2_10) rfl (flt q1).2.2.2 (by decide) (by decide) k) ?_
      show OwnGo p e below s _ _ _ (s₁.setTop (mkF m 15 #[.val (.int k)] []))
      refine own_on (fun t k => XS.iloadN X0.here hx rfl (hb hby d2_15) rfl k) ?_
      show OwnGo p e below s _ _ _ (s₁.setTop (mkF m 16 #[.val (.int k)] [(.int k)]))
      refine own_on (fun t k => XS.bipush X0.here hx rfl (hb hby d2_16) k) ?_
      show OwnGo p e below s _ _ _ (s₁.setTop (mkF m 18 #[.val (.int k)] [(.int (32 : Int32)), (.int k)]))
      by_cases q2 : k < (32 : Int32)
      · refine own_on (fun t k => XS.icmpNo X0.here hx rfl (hb hby d2_18) rfl (tlt q2).2.1 k) ?_
        show OwnGo p e below s _ _ _ (s₁.setTop (mkF m 21 #[.val (.int k)] []))
        refine own_on (fun t k => XS.iloadN X0.here hx rfl (hb hby d2_21) rfl k) ?_
        show OwnGo p e below s _ _ _ (s₁.setTop (mkF m 22 #[.val (.int k)] [(.int k)]))
        refine own_on (fun t k => XS.bipush X0.here hx rfl (hb hby d2_22) k) ?_
        show OwnGo p e below s _ _ _ (s₁.setTop (mkF m 24 #[.val (.int k)] [(.int (9 : Int32)), (.int k)]))
        by_cases q3 : k = (9 : Int32)
        · refine own_on (fun t k => XS.icmpNo X0.here hx rfl (hb hby d2_24) rfl (teq q3).2 k) ?_
          show OwnGo p e below s _ _ _ (s₁.setTop (mkF m 27 #[.val (.int k)] []))
          refine own_on (fun t k => XS.iconst X0.here hx rfl (hb hby d2_27) k) ?_
          show OwnGo p e below s _ _ _ (s₁.setTop (mkF m 28 #[.val (.int k)] [(.int (1 : Int32))]))
          refine own_on (fun t k => XS.goto X0.here hx rfl (pc0 := 28) (pc' := 32) rfl (hb hby d2_28) (by decide) (by decide) k) ?_
          show OwnGo p e below s _ _ _ (s₁.setTop (mkF m 32 #[.val (.int k)] [(.int (1 : Int32))]))
          exact own_retN X0 hx hlk (t := .boolean) Bd.returns (by simp) (hb hby d2_32) e0 ⟨(congrArg (fun z => some (Value.int z)) (by simp [own_exp, nar, *])), N0, rfl⟩ (by decide) (by decide)
        · refine own_on (fun t k => XS.icmpYes X0.here hx rfl (pc0 := 24) (pc' := 31) rfl (hb hby d2_24) rfl (feq q3).2 (by decide) (by decide) k) ?_
          show OwnGo p e below s _ _ _ (s₁.setTop (mkF m 31 #[.val (.int k)] []))
          refine own_on (fun t k => XS.iconst X0.here hx rfl (hb hby d2_31) k) ?_
          show OwnGo p e below s _ _ _ (s₁.setTop (mkF m 32 #[.val (.int k)] [(.int (0 : Int32))]))
          exact own_retN X0 hx hlk (t := .boolean) Bd.returns (by simp) (hb hby d2_32) e0 ⟨(congrArg (fun z => some (Value.int z)) (by simp [own_exp, nar, *])), N0, rfl⟩ (by decide) (by decide)
      · refine own_on (fun t k => XS.icmpYes X0.here hx rfl (pc0 := 18) (pc' := 33) rfl (hb hby d2_18) rfl (flt q2).2.1 (by decide) (by decide) k) ?_
        show OwnGo p e below s _ _ _ (s₁.setTop (mkF m 33 #[.val (.int k)] []))
        refine own_on (fun t k => XS.iloadN X0.here hx rfl (hb hby d2_33) rfl k) ?_
        show OwnGo p e below s _ _ _ (s₁.setTop (mkF m 34 #[.val (.int k)] [(.int k)]))
        refine own_on (fun t k => XS.bipush X0.here hx rfl (hb hby d2_34) k) ?_
        show OwnGo p e below s _ _ _ (s₁.setTop (mkF m 36 #[.val (.int k)] [(.int (127 : Int32)), (.int k)]))
        by_cases q3 : k = (127 : Int32)
        · refine own_on (fun t k => XS.icmpNo X0.here hx rfl (hb hby d2_36) rfl (teq q3).2 k) ?_
          show OwnGo p e below s _ _ _ (s₁.setTop (mkF m 39 #[.val (.int k)] []))
          refine own_on (fun t k => XS.iconst X0.here hx rfl (hb hby d2_39) k) ?_
          show OwnGo p e below s _ _ _ (s₁.setTop (mkF m 40 #[.val (.int k)] [(.int (0 : Int32))]))
          exact own_retN X0 hx hlk (t := .boolean) Bd.returns (by simp) (hb hby d2_40) e0 ⟨(congrArg (fun z => some (Value.int z)) (by simp [own_exp, nar, *])), N0, rfl⟩ (by decide) (by decide)
        · refine own_on (fun t k => XS.icmpYes X0.here hx rfl (pc0 := 36) (pc' := 41) rfl (hb hby d2_36) rfl (feq q3).2 (by decide) (by decide) k) ?_
          show OwnGo p e below s _ _ _ (s₁.setTop (mkF m 41 #[.val (.int k)] []))
          refine own_on (fun t k => XS.iconst X0.here hx rfl (hb hby d2_41) k) ?_
          show OwnGo p e below s _ _ _ (s₁.setTop (mkF m 42 #[.val (.int k)] [(.int (1 : Int32))]))
          exact own_retN X0 hx hlk (t := .boolean) Bd.returns (by simp) (hb hby d2_42) e0 ⟨(congrArg (fun z => some (Value.int z)) (by simp [own_exp, nar, *])), N0, rfl⟩ (by decide) (by decide)
theorem ef_0 (m : MethodId) (i : Int32) (j : Int32)  : entryFrame m #[(.int i), (.int j)] maxLocals = mkF m 0 #[.val (.int i), .val (.int j), .unset, .unset, .unset] [] := by first | (simp [entryFrame, mkF, argsToLocals, Value.category, maxLocals]; done) | rfl
def Q0 (Z : State) (i : Int32) (j : Int32) (h0 : Heap) (n0 : Nat) (v_ : Option Value) (h_ : Heap) (L_ : List Loc) : Prop := v_ = some (.int (1 : Int32)) ∧ Fr n0 L_ ∧ h_ = h0
set_option maxRecDepth 65536 in
set_option maxHeartbeats 40000000 in
theorem rm0 (l : Launch) (Z : State) (a0 : Array Value) (hw : ∀ d ∈ tables_1, d.before a0 Z = true) (ws : List Jvm.Cond) (i : Int32) (j : Int32) (h0 : Heap) (n0 : Nat) (Z0 : n0 ≤ h0.size)  :
    MetFree l x (head1 (Jvm.Cond.code x code maxLocals ret :: ws) room_1) (fun A_ U => A_ = #[(.int i), (.int j)] ∧ Z.Warmed39 U.vm ∧ U.heap = h0) (fun _ _ _ _ _ => True) (fun _ U_ o_ U'_ => ∃ v_ L_, o_ = .returned v_ ∧ Q0 Z i j h0 n0 v_ U'_.heap L_ ∧ FrameEnd U_ o_ U'_ L_ room_1.cells room_1.slots) := by
  refine MetFree.of_bodySF (plainFor_of_name pn_1) hisR ?_
  intro p e s m args below meth c s₁ Bd hml0 hP hK
  obtain ⟨rfl, hZ, hh⟩ := hP
  have hx := Bd.exec
  have hby := Bd.bytes
  have hml : c.maxLocals = 5 := hml0
  have hown : s.vm.findClass "io/loomwire/handler/codec/http/HttpHeadersIsFieldValueCharPinLaw" = some m.cls := findClass_of_methodNamed Bd.named
  have hnm := (name_of_methodNamed Bd.named Bd.method).1
  have hlk : meth.locks = false := Bd.notSynchronized
  have X0 : Stand p l e room_1 s m #[(.int i), (.int j)] below meth c s₁ [] 0 0 := Stand.of_body Bd
  have e0 : s₁.heap = h0 := by rw [← hh, Bd.state]; rfl
  have N0 := Fr.nil n0
  have K0 : Keep h0 h0 [] := Keep.refl _ _
  refine own_cast (ef_0 m i j) ?_
  show OwnGo p e below s (Q0 Z i j h0 n0) room_1.cells room_1.slots (s₁.setTop (mkF m 0 #[.val (.int i), .val (.int j), .unset, .unset, .unset] []))
  refine own_on (fun t k => XS.iloadN X0.here hx rfl (hb hby at_0) rfl k) ?_
  show OwnGo p e below s _ _ _ (s₁.setTop (mkF m 1 #[.val (.int i), .val (.int j), .unset, .unset, .unset] [(.int j)]))
  refine own_on (fun t k => XS.sipush X0.here hx rfl (hb hby at_1) k) ?_
  show OwnGo p e below s _ _ _ (s₁.setTop (mkF m 4 #[.val (.int i), .val (.int j), .unset, .unset, .unset] [(.int (511 : Int32)), (.int j)]))
  refine own_on (fun t k => XS.iand X0.here hx rfl (hb hby at_4) rfl k) ?_
  show OwnGo p e below s _ _ _ (s₁.setTop (mkF m 5 #[.val (.int i), .val (.int j), .unset, .unset, .unset] [(.int (j &&& (511 : Int32)))]))
  refine own_on (fun t k => XS.bipush X0.here hx rfl (hb hby at_5) k) ?_
  show OwnGo p e below s _ _ _ (s₁.setTop (mkF m 7 #[.val (.int i), .val (.int j), .unset, .unset, .unset] [(.int (8 : Int32)), (.int (j &&& (511 : Int32)))]))
  refine own_on (fun t k => XS.isub X0.here hx rfl (hb hby at_7) rfl k) ?_
  show OwnGo p e below s _ _ _ (s₁.setTop (mkF m 8 #[.val (.int i), .val (.int j), .unset, .unset, .unset] [(.int ((j &&& (511 : Int32)) - (8 : Int32)))]))
  refine own_on (fun t k => XS.istoreN X0.here hx rfl (hb hby at_8) rfl (l' := #[.val (.int i), .val (.int j), .val (.int ((j &&& (511 : Int32)) - (8 : Int32))), .unset, .unset]) rfl k) ?_
  show OwnGo p e below s _ _ _ (s₁.setTop (mkF m 9 #[.val (.int i), .val (.int j), .val (.int ((j &&& (511 : Int32)) - (8 : Int32))), .unset, .unset] []))
  refine own_on (fun t k => XS.iloadN X0.here hx rfl (hb hby at_9) rfl k) ?_
  show OwnGo p e below s _ _ _ (s₁.setTop (mkF m 10 #[.val (.int i), .val (.int j), .val (.int ((j &&& (511 : Int32)) - (8 : Int32))), .unset, .unset] [(.int i)]))
  obtain ⟨_, _, ⟨T1, L1, k1, n1⟩, -, X1, ⟨Lc1, hQ1, l1, y1, z1⟩, st1⟩ := Jvm.LawKit.callS X0 hx (y := (⟨"io/loomwire/handler/codec/http/HttpHeaders", "isFieldValueChar", "(I)Z"⟩ : MethodName)) hown (mvT hZ (w0 hw)) (mvT hZ (w1 hw)) (mvT hZ (w2 hw)) (mvT hZ (w3 hw)) (by decide) (backOf (W := 0) (rm1 l Z a0 hw [] i h0 n0 Z0 ) hZ (w3 hw) (w2 hw) (by decide) (by decide)) (g := (mkF m 10 #[.val (.int i), .val (.int j), .val (.int ((j &&& (511 : Int32)) - (8 : Int32))), .unset, .unset] [(.int i)])) rfl (by rw [hml]; rfl) (argsL := [(.int i)]) (rest := []) (lenOf pd_0 rfl) rfl (by show 2 * 0 + _ ≤ _; exact Nat.le_of_eq rfl) (hb hby at_10) (fun _ _ => ⟨rfl, e0, (by decide : 0 + 0 ≤ _), (by decide : 0 + 0 ≤ _)⟩)
  dsimp only [Pt.U, Pt.locs, Pt.cells, Pt.slots] at X1 l1 y1 z1 st1 hQ1
  subst l1 y1 z1
  obtain ⟨rfl, N1q, e1⟩ := hQ1
  have N1 := Fr.app N0 N1q
  refine own_on st1 ?_
  show OwnGo p e below s _ _ _ (T1.setTop (mkF m 13 #[.val (.int i), .val (.int j), .val (.int ((j &&& (511 : Int32)) - (8 : Int32))), .unset, .unset] [(.int (own_fvc i))]))
  refine own_on (fun t k => XS.iloadN X1.here hx rfl (hb hby at_13) rfl k) ?_
  show OwnGo p e below s _ _ _ (T1.setTop (mkF m 14 #[.val (.int i), .val (.int j), .val (.int ((j &&& (511 : Int32)) - (8 : Int32))), .unset, .unset] [(.int i), (.int (own_fvc i))]))
  obtain ⟨_, _, ⟨T2, L2, k2, n2⟩, -, X2, ⟨Lc2, hQ2, l2, y2, z2⟩, st2⟩ := Jvm.LawKit.callS X1 hx (y := (⟨"io/loomwire/handler/codec/http/HttpHeadersIsFieldValueCharPinLaw", "expected", "(I)Z"⟩ : MethodName)) hown (mvT hZ (w4 hw)) (mvT hZ (w5 hw)) (mvT hZ (w6 hw)) (mvT hZ (w7 hw)) (by decide) (backOf (W := 1) (rm2 l Z a0 hw [] i h0 n0 Z0 ) hZ (w7 hw) (w6 hw) (by decide) (by decide)) (g := (mkF m 14 #[.val (.int i), .val (.int j), .val (.int ((j &&& (511 : Int32)) - (8 : Int32))), .unset, .unset] [(.int i), (.int (own_fvc i))])) rfl (by rw [hml]; rfl) (argsL := [(.int i)]) (rest := [(.int (own_fvc i))]) (lenOf pd_0 rfl) rfl (by show 2 * 0 + _ ≤ _; exact Nat.le_of_eq rfl) (hb hby at_14) (fun _ _ => ⟨rfl, e1, (by decide : 0 + 0 ≤ _), (by decide : 0 + 0 ≤ _)⟩)
  dsimp only [Pt.U, Pt.locs, Pt.cells, Pt.slots] at X2 l2 y2 z2 st2 hQ2
  subst l2 y2 z2
  obtain ⟨rfl, N2q, e2⟩ := hQ2
  have N2 := Fr.app N1 N2q
  refine own_on st2 ?_
  show OwnGo p e below s _ _ _ (T2.setTop (mkF m 17 #[.val (.int i), .val (.int j), .val (.int ((j &&& (511 : Int32)) - (8 : Int32))), .unset, .unset] [(.int (own_exp i)), (.int (own_fvc i))]))
  refine own_on (fun t k => XS.icmpNo X2.here hx rfl (hb hby at_17) rfl (teq (own_eq _ : (own_fvc i) = (own_exp i))).2 k) ?_
  show OwnGo p e below s _ _ _ (T2.setTop (mkF m 20 #[.val (.int i), .val (.int j), .val (.int ((j &&& (511 : Int32)) - (8 : Int32))), .unset, .unset] []))
  refine own_on (fun t k => XS.iconst X2.here hx rfl (hb hby at_20) k) ?_
  show OwnGo p e below s _ _ _ (T2.setTop (mkF m 21 #[.val (.int i), .val (.int j), .val (.int ((j &&& (511 : Int32)) - (8 : Int32))), .unset, .unset] [(.int (1 : Int32))]))
  refine own_on (fun t k => XS.goto X2.here hx rfl (pc0 := 21) (pc' := 25) rfl (hb hby at_21) (by decide) (by decide) k) ?_
  show OwnGo p e below s _ _ _ (T2.setTop (mkF m 25 #[.val (.int i), .val (.int j), .val (.int ((j &&& (511 : Int32)) - (8 : Int32))), .unset, .unset] [(.int (1 : Int32))]))
  refine own_on (fun t k => XS.istoreN X2.here hx rfl (hb hby at_25) rfl (l' := #[.val (.int i), .val (.int j), .val (.int ((j &&& (511 : Int32)) - (8 : Int32))), .val (.int (1 : Int32)), .unset]) rfl k) ?_
  show OwnGo p e below s _ _ _ (T2.setTop (mkF m 26 #[.val (.int i), .val (.int j), .val (.int ((j &&& (511 : Int32)) - (8 : Int32))), .val (.int (1 : Int32)), .unset] []))
  refine own_on (fun t k => XS.iloadN X2.here hx rfl (hb hby at_26) rfl k) ?_
  show OwnGo p e below s _ _ _ (T2.setTop (mkF m 27 #[.val (.int i), .val (.int j), .val (.int ((j &&& (511 : Int32)) - (8 : Int32))), .val (.int (1 : Int32)), .unset] [(.int ((j &&& (511 : Int32)) - (8 : Int32)))]))
  obtain ⟨_, _, ⟨T3, L3, k3, n3⟩, -, X3, ⟨Lc3, hQ3, l3, y3, z3⟩, st3⟩ := Jvm.LawKit.callS X2 hx (y := (⟨"io/loomwire/handler/codec/http/HttpHeaders", "isFieldValueChar", "(I)Z"⟩ : MethodName)) hown (mvT hZ (w0 hw)) (mvT hZ (w1 hw)) (mvT hZ (w2 hw)) (mvT hZ (w3 hw)) (by decide) (backOf (W := 0) (rm1 l Z a0 hw [] ((j &&& (511 : Int32)) - (8 : Int32)) h0 n0 Z0 ) hZ (w3 hw) (w2 hw) (by decide) (by decide)) (g := (mkF m 27 #[.val (.int i), .val (.int j), .val (.int ((j &&& (511 : Int32)) - (8 : Int32))), .val (.int (1 : Int32)), .unset] [(.int ((j &&& (511 : Int32)) - (8 : Int32)))])) rfl (by rw [hml]; rfl) (argsL := [(.int ((j &&& (511 : Int32)) - (8 : Int32)))]) (rest := []) (lenOf pd_0 rfl) rfl (by show 2 * 0 + _ ≤ _; exact Nat.le_of_eq rfl) (hb hby at_27) (fun _ _ => ⟨rfl, e2, (by decide : 0 + 0 ≤ _), (by decide : 0 + 0 ≤ _)⟩)
  dsimp only [Pt.U, Pt.locs, Pt.cells, Pt.slots] at X3 l3 y3 z3 st3 hQ3
  subst l3 y3 z3
  obtain ⟨rfl, N3q, e3⟩ := hQ3
  have N3 := Fr.app N2 N3q
  refine own_on st3 ?_
  show OwnGo p e below s _ _ _ (T3.setTop (mkF m 30 #[.val (.int i), .val (.int j), .val (.int ((j &&& (511 : Int32)) - (8 : Int32))), .val (.int (1 : Int32)), .unset] [(.int (own_fvc ((j &&& (511 : Int32)) - (8 : Int32))))]))
  refine own_on (fun t k => XS.iloadN X3.here hx rfl (hb hby at_30) rfl k) ?_
  show OwnGo p e below s _ _ _ (T3.setTop (mkF m 31 #[.val (.int i), .val (.int j), .val (.int ((j &&& (511 : Int32)) - (8 : Int32))), .val (.int (1 : Int32)), .unset] [(.int ((j &&& (511 : Int32)) - (8 : Int32))), (.int (own_fvc ((j &&& (511 : Int32)) - (8 : Int32))))]))
  obtain ⟨_, _, ⟨T4, L4, k4, n4⟩, -, X4, ⟨Lc4, hQ4, l4, y4, z4⟩, st4⟩ := Jvm.LawKit.callS X3 hx (y := (⟨"io/loomwire/handler/codec/http/HttpHeadersIsFieldValueCharPinLaw", "expected", "(I)Z"⟩ : MethodName)) hown (mvT hZ (w4 hw)) (mvT hZ (w5 hw)) (mvT hZ (w6 hw)) (mvT hZ (w7 hw)) (by decide) (backOf (W := 1) (rm2 l Z a0 hw [] ((j &&& (511 : Int32)) - (8 : Int32)) h0 n0 Z0 ) hZ (w7 hw) (w6 hw) (by decide) (by decide)) (g := (mkF m 31 #[.val (.int i), .val (.int j), .val (.int ((j &&& (511 : Int32)) - (8 : Int32))), .val (.int (1 : Int32)), .unset] [(.int ((j &&& (511 : Int32)) - (8 : Int32))), (.int (own_fvc ((j &&& (511 : Int32)) - (8 : Int32))))])) rfl (by rw [hml]; rfl) (argsL := [(.int ((j &&& (511 : Int32)) - (8 : Int32)))]) (rest := [(.int (own_fvc ((j &&& (511 : Int32)) - (8 : Int32))))]) (lenOf pd_0 rfl) rfl (by show 2 * 0 + _ ≤ _; exact Nat.le_of_eq rfl) (hb hby at_31) (fun _ _ => ⟨rfl, e3, (by decide : 0 + 0 ≤ _), (by decide : 0 + 0 ≤ _)⟩)
  dsimp only [Pt.U, Pt.locs, Pt.cells, Pt.slots] at X4 l4 y4 z4 st4 hQ4
  subst l4 y4 z4
  obtain ⟨rfl, N4q, e4⟩ := hQ4
  have N4 := Fr.app N3 N4q
  refine own_on st4 ?_
  show OwnGo p e below s _ _ _ (T4.setTop (mkF m 34 #[.val (.int i), .val (.int j), .val (.int ((j &&& (511 : Int32)) - (8 : Int32))), .val (.int (1 : Int32)), .unset] [(.int (own_exp ((j &&& (511 : Int32)) - (8 : Int32)))), (.int (own_fvc ((j &&& (511 : Int32)) - (8 : Int32))))]))
  refine own_on (fun t k => XS.icmpNo X4.here hx rfl (hb hby at_34) rfl (teq (own_eq _ : (own_fvc ((j &&& (511 : Int32)) - (8 : Int32))) = (own_exp ((j &&& (511 : Int32)) - (8 : Int32))))).2 k) ?_
  show OwnGo p e below s _ _ _ (T4.setTop (mkF m 37 #[.val (.int i), .val (.int j), .val (.int ((j &&& (511 : Int32)) - (8 : Int32))), .val (.int (1 : Int32)), .unset] []))
  refine own_on (fun t k => XS.iconst X4.here hx rfl (hb hby at_37) k) ?_
  show OwnGo p e below s _ _ _ (T4.setTop (mkF m 38 #[.val (.int i), .val (.int j), .val (.int ((j &&& (511 : Int32)) - (8 : Int32))), .val (.int (1 : Int32)), .unset] [(.int (1 : Int32))]))
  refine own_on (fun t k => XS.goto X4.here hx rfl (pc0 := 38) (pc' := 42) rfl (hb hby at_38) (by decide) (by decide) k) ?_
  show OwnGo p e below s _ _ _ (T4.setTop (mkF m 42 #[.val (.int i), .val (.int j), .val (.int ((j &&& (511 : Int32)) - (8 : Int32))), .val (.int (1 : Int32)), .unset] [(.int (1 : Int32))]))
  refine own_on (fun t k => XS.istore X4.here hx rfl (hb hby at_42) rfl (l' := #[.val (.int i), .val (.int j), .val (.int ((j &&& (511 : Int32)) - (8 : Int32))), .val (.int (1 : Int32)), .val (.int (1 : Int32))]) rfl k) ?_
  show OwnGo p e below s _ _ _ (T4.setTop (mkF m 44 #[.val (.int i), .val (.int j), .val (.int ((j &&& (511 : Int32)) - (8 : Int32))), .val (.int (1 : Int32)), .val (.int (1 : Int32))] []))
  refine own_on (fun t k => XS.iloadN X4.here hx rfl (hb hby at_44) rfl k) ?_
  show OwnGo p e below s _ _ _ (T4.setTop (mkF m 45 #[.val (.int i), .val (.int j), .val (.int ((j &&& (511 : Int32)) - (8 : Int32))), .val (.int (1 : Int32)), .val (.int (1 : Int32))] [(.int (1 : Int32))]))
  refine own_on (fun t k => XS.ifNo X4.here hx rfl (hb hby at_45) rfl ((if0 _ _).trans (feq (by decide : ¬ ((1 : Int32) = (0 : Int32)))).1) k) ?_
  show OwnGo p e below s _ _ _ (T4.setTop (mkF m 48 #[.val (.int i), .val (.int j), .val (.int ((j &&& (511 : Int32)) - (8 : Int32))), .val (.int (1 : Int32)), .val (.int (1 : Int32))] []))
  refine own_on (fun t k => XS.iload X4.here hx rfl (hb hby at_48) rfl k) ?_
  show OwnGo p e below s _ _ _ (T4.setTop (mkF m 50 #[.val (.int i), .val (.int j), .val (.int ((j &&& (511 : Int32)) - (8 : Int32))), .val (.int (1 : Int32)), .val (.int (1 : Int32))] [(.int (1 : Int32))]))
  refine own_on (fun t k => XS.ifNo X4.here hx rfl (hb hby at_50) rfl ((if0 _ _).trans (feq (by decide : ¬ ((1 : Int32) = (0 : Int32)))).1) k) ?_
  show OwnGo p e below s _ _ _ (T4.setTop (mkF m 53 #[.val (.int i), .val (.int j), .val (.int ((j &&& (511 : Int32)) - (8 : Int32))), .val (.int (1 : Int32)), .val (.int (1 : Int32))] []))
  refine own_on (fun t k => XS.iconst X4.here hx rfl (hb hby at_53) k) ?_
  show OwnGo p e below s _ _ _ (T4.setTop (mkF m 54 #[.val (.int i), .val (.int j), .val (.int ((j &&& (511 : Int32)) - (8 : Int32))), .val (.int (1 : Int32)), .val (.int (1 : Int32))] [(.int (1 : Int32))]))
  refine own_on (fun t k => XS.goto X4.here hx rfl (pc0 := 54) (pc' := 58) rfl (hb hby at_54) (by decide) (by decide) k) ?_
  show OwnGo p e below s _ _ _ (T4.setTop (mkF m 58 #[.val (.int i), .val (.int j), .val (.int ((j &&& (511 : Int32)) - (8 : Int32))), .val (.int (1 : Int32)), .val (.int (1 : Int32))] [(.int (1 : Int32))]))
  exact own_retN X4 hx hlk (t := .boolean) Bd.returns (by simp) (hb hby at_58) e4 ⟨rfl, N4, rfl⟩ (by decide) (by decide)
set_option maxRecDepth 65536 in
set_option maxHeartbeats 40000000 in
theorem comes_1 {Post : Tables → Env → Array Value → State → Outcome → State → Prop} (hpost : ∀ tb e args s v u, (limb_1_1.after args s (.returned v) u = true ∧ limb_1_2.after args s (.returned v) u = true ∧ True) → FrameEnd s (.returned v) u (Jvm.fieldLocs frame_1_writes args s ++ Jvm.arrayLocs frame_1_arrays args s ++ Jvm.staticLocs frame_1_statics s) 0 0 → Post tb e args s (.returned v) u) :
    ArmFor flags0 classFile x code maxLocals ret World_1 tables_1 room_1 Calls_1 rest_1 Pre_1 Post := by
  intro l hfl _ _ p e ha hc hk s m args below hf hA hF happ hP
  obtain ⟨hcalls, hrest, hpre⟩ := hP
  obtain ⟨-, -, -, hnamed, -, -, -, hat⟩ := (Spec.applies_iff hf).mp happ
  obtain ⟨hg, hn⟩ := and_e (Cond.before_iff.mp (show (Jvm.Cond.and given_1 narrow_1).before args s = true from hpre))
  obtain ⟨gc, gr0⟩ := and_e hg
  obtain ⟨gi0, gr1⟩ := and_e gr0
  have gi1 := gr1
  obtain ⟨w_0, w_1, rfl⟩ : ∃ w_0 w_1 : Value, args = #[w_0, w_1] := by
    have hs : args.size = 2 := by simpa [Cond.value, given_1] using gc
    obtain ⟨L⟩ := args
    match L, hs with
    | [w_0, w_1], _ => exact ⟨w_0, w_1, rfl⟩
  have hw := fun d (hd : d ∈ tables_1) => atoms_spec (ws := Jvm.Cond.code x code maxLocals ret :: tables_1) hat d (List.mem_cons_of_mem _ hd)
  have hfit : Fit s := fun {y c} hc i hi => by
    obtain ⟨ha, rfl⟩ := Array.getElem?_eq_some_iff.mp hc
    have q := List.all_eq_true.mp ((Array.all_eq_true_iff_forall_mem.mp hF) _ (Array.getElem_mem ha)) i (List.mem_range.mpr hi)
    simpa [Array.getElem?_eq_getElem hi] using q
  obtain ⟨i0, ei0⟩ := is_v gi0
  obtain rfl : w_0 = (.int i0) := Option.some.inj ei0
  obtain ⟨i1, ei1⟩ := is_v gi1
  obtain rfl : w_1 = (.int i1) := Option.some.inj ei1
  obtain ⟨n, o, h1, h2, h3, _, L, rfl, ⟨rfl, N, _⟩, hq⟩ := rm0 l s _ hw tables_1 i0 i1  s.heap s.heap.size (Nat.le_refl _)  p e ha hc hk s m _ below hf ((Spec.applies_iff_loose hf).mp happ).1 ⟨rfl, State.Warmed39.refl s, rfl⟩ trivial
  refine ⟨n, _, h1, h2, h3, hpost _ _ _ _ _ _ ⟨Cond.after_iff.mpr rfl, Cond.after_iff.mpr (eq_i res_at (Term.int_eval (1)) rfl), trivial⟩ ⟨hq.1, hq.2.1, (hq.2.2.sift fun y hy => Or.inr (N y hy)).mono (by decide) (by decide)⟩⟩
theorem main_1_1 : Claimed_1_1 := comes_1 fun _ _ _ _ _ _ h hF => ⟨h.1, hF⟩
theorem main_1_2 : Claimed_1_2 := comes_1 fun _ _ _ _ _ _ h hF => ⟨h.2.1, hF⟩
end Jvm.Pilot.@@N@@
namespace Jvm.Pilot.@@N@@
open Jvm Jvm.ClassFile Sem Op Lib Jvm.Free Jvm.Stand Jvm.Pilot.@@N@@.Jvm.D
/-! MADE BY PROGRAM (witnessworld.py) out of the Statement's table words and the real class files: 10 classes; the members and pool entries that the words name. The judged class is class 1, her method 2. -/
namespace start1
open Jvm.ClassFile
def u (s : String) : CpInfo := .utf8 (stringToUtf16 s)
/-- a pool by its gaps: so many unusable entries, then the entry; so many at the end -/
def gap : Nat → List CpInfo → List CpInfo
  | 0, r => r
  | n + 1, r => .unusable :: gap n r
def poolList (es : List (Nat × CpInfo)) (last : Nat) : List CpInfo := es.foldr (fun e r => gap e.1 (e.2 :: r)) (gap last [])
def pool (es : List (Nat × CpInfo)) (last : Nat) : Array CpInfo := ⟨poolList es last⟩
def fileOf (pool : Array CpInfo) (this : Nat) (attrs : Array Attribute := #[]) (ms : Array MethodInfo := #[]) (fl : Nat := 33) (sup : Nat := 0) (ifs : Array Nat := #[]) (fds : Array FieldInfo := #[]) : ClassFile where
  minorVersion := 0
  majorVersion := 65
  constantPool := pool
  accessFlags := fl
  thisClass := this
  superClass := sup
  interfaces := ifs
  fields := fds
  methods := ms
  attributes := attrs
def plain (name : String) (sup : Option ClassId) : Class where
  name := name
  kind := .ordinary
  loader := none
  accessFlags := 33
  super := sup
  interfaces := #[]
  cf := none
  fields := #[]
  methods := #[]
  instanceTypes := #[]
  staticTypes := #[]
  resolved := #[]
  callSites := []
  init := .initialized
  statics := none
  mirror := none

def pool0 : Array CpInfo := pool [(5, u "<init>"), (0, u "()V"), (1, .class_ 10), (1, u "java/lang/Object")] 113

def k0m0 : Method := { name := "<init>", desc := "()V", sig := { parameters := [], returnType := none }, accessFlags := 1, code := none }
/-- java/lang/Object -/
def k0 : Class := { plain "java/lang/Object" none with
  accessFlags := 33
  interfaces := #[]
  cf := some (fileOf pool0 8 #[] #[{ accessFlags := 1, nameIndex := 5, descriptorIndex := 6, attributes := #[] }] 33 0 #[] #[])
  fields := #[]
  methods := #[k0m0]
  instanceTypes := #[]
  staticTypes := #[]
  resolved := Array.replicate 124 none
  statics := none }

def pool1 : Array CpInfo := pool [(2, .class_ 4), (1, u "java/lang/Object"), (0, u "<init>"), (0, u "()V"), (0, .methodref 8 9), (0, .class_ 10), (0, .nameAndType 11 12), (0, u "io/loomwire/handler/codec/http/HttpHeaders"), (0, u "isFieldValueChar"), (0, u "(I)Z"), (0, .methodref 14 15), (0, .class_ 16), (0, .nameAndType 17 12), (0, u "io/loomwire/handler/codec/http/HttpHeadersIsFieldValueCharPinLaw"), (0, u "expected"), (3, u "law"), (0, u "(II)Z")] 2

def k1m0 : Method := { name := "<init>", desc := "()V", sig := { parameters := [], returnType := none }, accessFlags := 2, code := none }
def k1c1 : Code := { maxStack := 2, maxLocals := 1, code := method_2_code, exceptionTable := #[], attributes := #[] }
def k1m1 : Method := { name := "expected", desc := "(I)Z", sig := { parameters := [.int], returnType := some .boolean }, accessFlags := 10, code := some k1c1 }
def k1c2 : Code := { maxStack := 2, maxLocals := 5, code := code, exceptionTable := #[], attributes := #[] }
def k1m2 : Method := { name := "law", desc := "(II)Z", sig := { parameters := [.int, .int], returnType := some .boolean }, accessFlags := 9, code := some k1c2 }
/-- io/loomwire/handler/codec/http/HttpHeadersIsFieldValueCharPinLaw -/
def k1 : Class := { plain "io/loomwire/handler/codec/http/HttpHeadersIsFieldValueCharPinLaw" (some 0) with
  accessFlags := 49
  interfaces := #[]
  cf := some (fileOf pool1 14 #[] #[{ accessFlags := 2, nameIndex := 5, descriptorIndex := 6, attributes := #[] }, { accessFlags := 10, nameIndex := 17, descriptorIndex := 12, attributes := #[] }, { accessFlags := 9, nameIndex := 21, descriptorIndex := 22, attributes := #[] }] 49 2 #[] #[])
  fields := #[]
  methods := #[k1m0, k1m1, k1m2]
  instanceTypes := #[]
  staticTypes := #[]
  resolved := Array.replicate 25 none
  statics := none }

def pool2 : Array CpInfo := pool [(8, .class_ 10), (1, u "java/lang/Iterable"), (24, .class_ 36), (0, u "java/lang/Object")] 25

/-- java/lang/Iterable -/
def k2 : Class := { plain "java/lang/Iterable" (some 0) with
  accessFlags := 1537
  interfaces := #[]
  cf := some (fileOf pool2 8 #[] #[] 1537 35 #[] #[])
  fields := #[]
  methods := #[]
  instanceTypes := #[]
  staticTypes := #[]
  resolved := Array.replicate 62 none
  statics := none }

def pool3 : Array CpInfo := pool [(2, .class_ 4), (1, u "io/loomwire/handler/codec/http/HttpHeaders"), (0, u "<init>"), (2, .class_ 10), (1, u "java/lang/Object"), (0, u "()V"), (2, u "NO_FIELDS"), (0, u "[Ljava/lang/String;"), (2, u "fields"), (2, u "readOnly"), (0, u "Z"), (98, u "used"), (0, u "I"), (9, .class_ 133), (0, u "io/loomwire/handler/codec/http/HttpHeaders$1"), (27, u "TOKEN"), (0, u "[Z"), (20, u "(I)Z"), (55, u "isFieldValueChar"), (14, u "EMPTY"), (0, u "Lio/loomwire/handler/codec/http/HttpHeaders;"), (6, .class_ 263), (0, u "java/lang/Iterable")] 52

def k3m0 : Method := { name := "<init>", desc := "()V", sig := { parameters := [], returnType := none }, accessFlags := 1, code := none }
def k3c1 : Code := { maxStack := 2, maxLocals := 1, code := prog_12_method_21_code, exceptionTable := #[], attributes := #[] }
def k3m1 : Method := { name := "isFieldValueChar", desc := "(I)Z", sig := { parameters := [.int], returnType := some .boolean }, accessFlags := 8, code := some k3c1 }
/-- io/loomwire/handler/codec/http/HttpHeaders -/
def k3 : Class := { plain "io/loomwire/handler/codec/http/HttpHeaders" (some 0) with
  accessFlags := 49
  interfaces := #[2]
  cf := some (fileOf pool3 2 #[.nestMembers #[132]] #[{ accessFlags := 1, nameIndex := 5, descriptorIndex := 11, attributes := #[] }, { accessFlags := 8, nameIndex := 239, descriptorIndex := 183, attributes := #[] }] 49 8 #[262] #[{ accessFlags := 24, nameIndex := 254, descriptorIndex := 255, attributes := #[] }, { accessFlags := 26, nameIndex := 14, descriptorIndex := 15, attributes := #[] }, { accessFlags := 26, nameIndex := 161, descriptorIndex := 162, attributes := #[] }, { accessFlags := 2, nameIndex := 18, descriptorIndex := 15, attributes := #[] }, { accessFlags := 2, nameIndex := 121, descriptorIndex := 122, attributes := #[] }, { accessFlags := 18, nameIndex := 21, descriptorIndex := 22, attributes := #[] }])
  fields := #[{ name := "EMPTY", type := (.object "io/loomwire/handler/codec/http/HttpHeaders"), accessFlags := 24, slot := 0, constantValue := 0 }, { name := "NO_FIELDS", type := (.array (.object "java/lang/String")), accessFlags := 26, slot := 1, constantValue := 0 }, { name := "TOKEN", type := (.array .boolean), accessFlags := 26, slot := 2, constantValue := 0 }, { name := "fields", type := (.array (.object "java/lang/String")), accessFlags := 2, slot := 0, constantValue := 0 }, { name := "used", type := .int, accessFlags := 2, slot := 1, constantValue := 0 }, { name := "readOnly", type := .boolean, accessFlags := 18, slot := 2, constantValue := 0 }]
  methods := #[k3m0, k3m1]
  instanceTypes := #[(.array (.object "java/lang/String")), .int, .boolean]
  staticTypes := #[(.object "io/loomwire/handler/codec/http/HttpHeaders"), (.array (.object "java/lang/String")), (.array .boolean)]
  resolved := Array.replicate 316 none
  statics := none }

def pool4 : Array CpInfo := pool [(1, u "java/lang/Cloneable"), (0, .class_ 1), (0, u "java/lang/Object"), (0, .class_ 3)] 3

/-- java/lang/Cloneable -/
def k4 : Class := { plain "java/lang/Cloneable" (some 0) with
  accessFlags := 1537
  interfaces := #[]
  cf := some (fileOf pool4 2 #[] #[] 1537 4 #[] #[])
  fields := #[]
  methods := #[]
  instanceTypes := #[]
  staticTypes := #[]
  resolved := Array.replicate 8 none
  statics := none }

def pool5 : Array CpInfo := pool [(1, u "java/io/Serializable"), (0, .class_ 1), (0, u "java/lang/Object"), (0, .class_ 3)] 3

/-- java/io/Serializable -/
def k5 : Class := { plain "java/io/Serializable" (some 0) with
  accessFlags := 1537
  interfaces := #[]
  cf := some (fileOf pool5 2 #[] #[] 1537 4 #[] #[])
  fields := #[]
  methods := #[]
  instanceTypes := #[]
  staticTypes := #[]
  resolved := Array.replicate 8 none
  statics := none }

/-- the primitive byte -/
def k6 : Class := { plain "byte" none with kind := .primitive 'B', accessFlags := 0x411 }
/-- [B -/
def k7 : Class := { plain "[B" (some 0) with kind := .array 6 .byte, interfaces := #[4, 5], accessFlags := 1041 }

/-- the primitive int -/
def k8 : Class := { plain "int" none with kind := .primitive 'I', accessFlags := 0x411 }
/-- [I -/
def k9 : Class := { plain "[I" (some 0) with kind := .array 8 .int, interfaces := #[4, 5], accessFlags := 1041 }

def heap : Heap := #[]
def classes : Array Class := #[k0, k1, k2, k3, k4, k5, k6, k7, k8, k9]
def interned : List (Array UInt16 × Addr) := []
def slotsUsed : Nat := 0
def theMethod : MethodId := ⟨1, 2⟩
def args0 : Array Value := #[.int 5, .int 300]
def aboutOver (below : List Frame) : State where
  vm := { classes := classes, interned := interned.toArray }
  heap := heap
  slotsUsed := slotsUsed
  threads := #[{ frames := .invoking theMethod args0 :: below }]
def below0 : List Frame := [.native { method := ⟨0, 0⟩, args := #[] }]
def about1 : State := aboutOver below0
def p0 : Program := .bare "" "" ""
def e0 : Env := launch0.env 0 0 0
theorem w_frames : about1.frames = Frame.invoking theMethod args0 :: below0 := rfl
set_option maxRecDepth 65536 in
theorem w_args : argsFit about1.vm theMethod args0 = true := by decide +kernel
set_option maxRecDepth 65536 in
theorem w_heap : heapFits about1 = true := by decide +kernel
set_option maxRecDepth 65536 in
theorem w_runnable : about1.curStatus? = some .runnable := by decide +kernel
set_option maxRecDepth 65536 in
theorem w_alone : about1.alone = true := by decide +kernel
set_option maxRecDepth 65536 in
theorem w_named : about1.methodNamed? x = some theMethod := by decide +kernel
set_option maxRecDepth 65536 in
theorem w_hears : about1.hears theMethod below0 = true := by decide +kernel
set_option maxRecDepth 65536 in
theorem w_ripe : about1.ripe theMethod args0 below0 = true := by decide +kernel
theorem w_running : about1.status = .running := rfl
set_option maxRecDepth 65536 in
theorem w_room : about1.hasRoom e0.platform room_1 = true :=
  launch0.hasRoom_least _ room_1 (by decide +kernel) (by decide +kernel) (by decide +kernel) (by decide +kernel) (by decide +kernel) (by decide +kernel)
theorem allAtoms_all (ts : List Jvm.Cond) (a : Array Jvm.Value) (st : Jvm.State) : (allAtoms ts).before a st = ts.all (fun c => c.before a st) := by
  induction ts with
  | nil => rfl
  | cons c t ih =>
    show (Jvm.Cond.and c (allAtoms t)).before a st = _
    rw [Jvm.Cond.before_and, ih, List.all_cons]
def words1 : List Jvm.Cond := Jvm.Cond.code x code maxLocals ret :: tables_1
/-- a 'code' word, met by the world's own term for the bytes: nothing is compared byte by byte -/
theorem code_word {y : MethodName} {bytes : ByteArray} {mx : Nat} {rt : Option FieldType} {a : Array Value} {s : State} {m : MethodId} {meth : Method} {c : Code} (h1 : s.methodNamed? y = some m) (h2 : s.vm.method? m = some meth) (h3 : meth.code = some c) (h4 : c.code = bytes)
    (h5 : (c.maxLocals == mx && c.exceptionTable.isEmpty && decide (c.maxStack ≤ mostOperands) && decide (meth.sig.returnType = rt) && !meth.locks && decide (parseMethodDescriptor y.desc = some meth.sig)) = true) : (Jvm.Cond.code y bytes mx rt).before a s = true := by
  simp only [Bool.and_eq_true, beq_iff_eq, Bool.not_eq_true', decide_eq_true_eq] at h5
  obtain ⟨⟨⟨⟨⟨g1, g2⟩, g3⟩, g4⟩, g5⟩, g6⟩ := h5
  simp [Cond.before, Cond.holds, Cond.value, h1, h2, h3, h4, g1, g2, g3, g4, g5, g6]
def isCode : Jvm.Cond → Bool
  | .code _ _ _ _ => true
  | _ => false
theorem all_split {L : List Jvm.Cond} {P : Jvm.Cond → Bool} (h1 : L.all (fun c => isCode c || P c) = true) (h2 : ∀ c ∈ L.filter isCode, P c = true) : L.all P = true := by
  refine List.all_eq_true.mpr fun c hc => ?_
  have h := List.all_eq_true.mp h1 c hc
  rcases Bool.eq_false_or_eq_true (isCode c) with hi | hi
  · exact h2 c (List.mem_filter.mpr ⟨hc, hi⟩)
  · simpa [hi] using h
set_option maxRecDepth 65536 in
theorem w_c0 : (Jvm.Cond.code x code maxLocals ret).before args0 about1 = true := code_word (m := ⟨1, 2⟩) (meth := k1m2) (c := k1c2) (by decide +kernel) rfl rfl rfl (by decide +kernel)
set_option maxRecDepth 65536 in
theorem w_c1 : (Jvm.Cond.code ({ cls := "io/loomwire/handler/codec/http/HttpHeaders", name := "isFieldValueChar", desc := "(I)Z" } : Jvm.MethodName) prog_12_method_21_code (1 : Nat) (Option.some Jvm.ClassFile.FieldType.boolean)).before args0 about1 = true := code_word (m := ⟨3, 1⟩) (meth := k3m1) (c := k3c1) (by decide +kernel) rfl rfl rfl (by decide +kernel)
set_option maxRecDepth 65536 in
theorem w_c2 : (Jvm.Cond.code ({ cls := "io/loomwire/handler/codec/http/HttpHeadersIsFieldValueCharPinLaw", name := "expected", desc := "(I)Z" } : Jvm.MethodName) method_2_code (1 : Nat) (Option.some Jvm.ClassFile.FieldType.boolean)).before args0 about1 = true := code_word (m := ⟨1, 1⟩) (meth := k1m1) (c := k1c1) (by decide +kernel) rfl rfl rfl (by decide +kernel)
def codes1 : List Jvm.Cond := [Jvm.Cond.code x code maxLocals ret, Jvm.Cond.code ({ cls := "io/loomwire/handler/codec/http/HttpHeaders", name := "isFieldValueChar", desc := "(I)Z" } : Jvm.MethodName) prog_12_method_21_code (1 : Nat) (Option.some Jvm.ClassFile.FieldType.boolean), Jvm.Cond.code ({ cls := "io/loomwire/handler/codec/http/HttpHeadersIsFieldValueCharPinLaw", name := "expected", desc := "(I)Z" } : Jvm.MethodName) method_2_code (1 : Nat) (Option.some Jvm.ClassFile.FieldType.boolean)]
set_option maxRecDepth 65536 in
theorem codes_eq : words1.filter isCode = codes1 := rfl
theorem w_codes : ∀ c ∈ words1.filter isCode, c.before args0 about1 = true := by
  rw [codes_eq]
  intro c hc
  simp only [codes1, List.mem_cons, List.not_mem_nil, or_false] at hc
  rcases hc with rfl | rfl | rfl
  · exact w_c0
  · exact w_c1
  · exact w_c2
set_option maxRecDepth 65536 in
theorem w_t1 : words1.all (fun c => isCode c || c.before args0 about1) = true := by decide +kernel
theorem w_tables : (allAtoms (Jvm.Cond.code x code maxLocals ret :: tables_1)).before args0 about1 = true := by
  rw [allAtoms_all]
  show words1.all (fun c => c.before args0 about1) = true
  refine all_split ?_ w_codes
  rw [w_t1]
set_option maxRecDepth 65536 in
theorem w_case : (Jvm.Cond.and given_1 narrow_1).before args0 about1 = true := by decide +kernel
theorem w_applies : (headSpec (Jvm.Cond.code x code maxLocals ret :: tables_1) room_1).applies x e0.platform about1 = true :=
  (Spec.applies_iff w_frames).mpr ⟨w_running, w_runnable, w_alone, w_named, w_hears, w_ripe, w_room, w_tables⟩
theorem atStart : AtStart classFile x code maxLocals ret World_1 tables_1 room_1 Calls_1 rest_1 Pre_1 launch0 p0 e0 about1 theMethod args0 below0 :=
  ⟨lists_1, trivial, launch0.admits_env _ _ _, launch0.least_env, fairChoices_fair.cas, fairChoices_fair.clock, w_frames, w_args, w_heap, w_applies, trivial, trivial, w_case⟩
end start1
theorem witness_1 : WitnessClaimed_1 := ⟨start1.p0, start1.e0, start1.about1, start1.theMethod, start1.args0, start1.below0, start1.atStart⟩
end Jvm.Pilot.@@N@@
